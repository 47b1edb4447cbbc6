/-
  The contract of 'strictlyIncreasing' (function 12).
-/
import Derived.Test.Qxb6001427aIdxA
import Derived.Deep.QuietTactic
import Derived.BigQuiet
import Derived.WalkSmall
namespace Go.Proofs.Qxb6001427a.fnFind
open Go.ChangeShapes Go.WideShapes Go.ChangeAt Go.RowKit
open Go.Proofs.Qxb6001427a.fnIdx

set_option maxHeartbeats 400000 in
theorem strict_any (b off n c : Nat) (zs : List Int) (w : World) (hn : n ≤ 65536) (hb : b < w.heap.size) (hc : ∀ j, j < n → w.cell? ⟨b, off + j, none⟩ = some (.int .u64 (zs.getD j 0))) :
    Calls Try.prog 12 #[.slice (some ⟨b, off, none⟩) n c] w fun e w' => ∃ v, e = .returned (.bool v) ∧ (v = true → ∀ j, j + 1 < n → zs.getD j 0 < zs.getD (j + 1) 0) ∧ Below w.heap.size w w' := by
  have HC : Hid (∀ j, j < n → w.cell? ⟨b, off + j, none⟩ = some (.int .u64 (zs.getD j 0))) := hc
  clear hc
  go_enter Try.func12, Try.ntmps12
  go_wp2
  go_loopw [3] (fun i wr => ∃ m : Nat, (m + 1 ≤ n ∨ m = 0) ∧ i = .int .i64 (m + 1) ∧ Below w.heap.size w wr ∧ ∀ j, j < m → zs.getD j 0 < zs.getD (j + 1) 0) (fun i _ => n - (intOf i).toNat)
  case atStart => exact ⟨0, .inr rfl, rfl, Below.refl _ _, fun j hj => absurd hj (Nat.not_lt_zero _)⟩
  case round =>
    obtain ⟨m, hm, rfl, hbel, hlt⟩ := hrel
    have HL : Hid (∀ j, j < m → zs.getD j 0 < zs.getD (j + 1) 0) := hlt
    clear hlt
    by_cases hmn : m + 1 < n
    · have c0 : wr.cell? ⟨b, off + m, none⟩ = some (.int .u64 (zs.getD m 0)) := (hbel.cell (p := ⟨b, off + m, none⟩) hb).trans (HC.out m (by omega))
      have c1 : wr.cell? ⟨b, off + (m + 1), none⟩ = some (.int .u64 (zs.getD (m + 1) 0)) := (hbel.cell (p := ⟨b, off + (m + 1), none⟩) hb).trans (HC.out (m + 1) (by omega))
      generalize hx : zs.getD m 0 = x at c0
      generalize hy : zs.getD (m + 1) 0 = y at c1
      have HX : Hid (zs.getD m 0 = x ∧ zs.getD (m + 1) 0 = y) := ⟨hx, hy⟩
      clear hx hy hm
      have hi0 : (0 : Int) ≤ (m : Int) := by omega
      have hi1 : (m : Int) < (n : Int) := by omega
      have hi2 : (m : Int) + 1 < (n : Int) := by omega
      by_cases hxy : y ≤ x
      · go_wp2
        go_quiet (fail)
        go_wp2
        go_ret
        exact ⟨false, rfl, (by intro h; cases h), below_drewN hbel _⟩
      · go_wp2
        go_quiet (fail)
        go_wp2
        go_roundw
        case rel =>
          refine ⟨m + 1, .inl (by omega), by go_num, below_drewN hbel _, fun j hj => ?_⟩
          by_cases e : j = m
          · rw [e, HX.out.1, HX.out.2]
            omega
          · exact HL.out j (by omega)
        case measure => simp [intOf]; omega
    · go_wp2
      go_ret
      exact ⟨true, rfl, fun _ j hj => HL.out j (by omega), hbel⟩
end Go.Proofs.Qxb6001427a.fnFind
