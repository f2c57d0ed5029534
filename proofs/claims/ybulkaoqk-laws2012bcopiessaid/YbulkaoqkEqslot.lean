/-
  THE CONTRACT OF 'zzs2012beqslot' AT A CONTEXT MADE FROM THE SLOT: true; two boxes are made.
-/
import Derived.Test.YbulkaoqkClone
import Derived.Test.YbulkaoqkRecs
namespace Go.Proofs.Ybulkaoqk
open Go.RowKit

set_option maxHeartbeats 400000 in
theorem eqslot_any (k : Nat) (s : Slot) (hk : k < 16) (hs : s.Ok) (w : World) :
    Calls Yba.prog 12 #[.agg (pdp k s).toArray, .int .i64 k, .agg (sc s).toArray] w fun e w' => e = .returned (.bool true) ∧ Below w.heap.size w w' := by
  obtain ⟨h0, h1, h2, h3⟩ := hs
  obtain ⟨st, ti, apn, ex⟩ := s
  simp only at h0 h1 h2 h3
  unfold pdp sc
  go_enter Yba.func12, Yba.ntmps12
  go_wp2
  go_ret
  exact ⟨rfl, ((Below.refl _ _).alloc (Nat.le_refl _) _).alloc (by simp) _⟩

end Go.Proofs.Ybulkaoqk
