/- What ends at a time is expired from that time on; at 0 it never ends: for all pairs of times of 32 bits, no condition. -/
import Derived.Test.YtehfdefpajjmaaaPFnFreeExpiredx1
namespace Go.Proofs.Ytehfdefpajjmaaa.Pure
open Go.RowKit Go.Proofs.Ytehfdefpajjmaaa.PFnFreeExpired Go.Proofs.YtehfdefpajjmaaaW.PrintWords Go.Proofs.YtehfdefpajjmaaaW.PrintLast

theorem FnFreeExpired : laws_FnFreeExpired.Pure := by
  intro a b ha hb
  have h5 : impl_FreeExpired.f 5 5 = some true := by decide
  unfold laws_FnFreeExpired.f
  rw [h5]
  unfold impl_FreeExpired.f freecache_ZzExpired.f freecache_isExpired.f spec_FreeExpired.f
  by_cases h : a = 0 <;> simp [h]

end Go.Proofs.Ytehfdefpajjmaaa.Pure
