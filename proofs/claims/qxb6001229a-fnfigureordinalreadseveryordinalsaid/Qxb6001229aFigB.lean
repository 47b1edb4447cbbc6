/-
  The contracts of 'digitRun' (function 24), 'slices.Index' and 'slices.Contains' at []string (28, 25; after the shelf's templates for them).
-/
import Derived.Test.Qxb6001229aRows
import Derived.WalkKit
import Derived.ProofKit
import Derived.Below
import Derived.WalkSpells
import Derived.Lib.Strings
import Derived.Lib.SlicesS
namespace Go.Proofs.Qxb6001229a.fnFigure
open Go.ChangeShapes Go.WideShapes Go.ChangeAt Go.RowKit

set_option maxHeartbeats 400000 in
theorem digitRun_any (s : ByteArray) (d : Nat) (w : World) (hs : s.size ≤ 1000) (hd : d < s.size) (hdig : ∀ i (h : i < s.size), i < d → 48 ≤ (s[i].toNat : Int) ∧ (s[i].toNat : Int) ≤ 57) (hnd : 57 < (s[d].toNat : Int)) :
    Calls Try.prog 24 #[.string s] w fun e w' => e = .returned (.int .i64 d) ∧ w' = w := by
  go_enter Try.func24, Try.ntmps24
  go_wp2
  go_loop [3] (fun i => ∃ k : Nat, k ≤ d ∧ i = .int .i64 k) (fun i => d - (intOf i).toNat)
  case atStart => exact ⟨0, Nat.zero_le _, rfl⟩
  case round =>
    obtain ⟨k, hk, rfl⟩ := hrel
    by_cases hlt : k < d
    · have hks : k < s.size := by omega
      obtain ⟨h1, h2⟩ := hdig k hks hlt
      clear hdig hnd
      go_wp2
      go_round
      case rel => exact ⟨k + 1, by omega, by go_num⟩
      case measure => simp [intOf]; omega
    · have : k = d := by omega
      subst this
      clear hdig
      go_wp2
      go_ret
      exact ⟨rfl, rfl⟩

set_option maxHeartbeats 1000000 in
theorem index_any (b off n c : Nat) (zs : List ByteArray) (x : ByteArray) (w : World) (hz : n ≤ zs.length) (hbig : n ≤ 9223372036854775807) (hc : ∀ j, j < zs.length → w.cell? ⟨b, off + j, none⟩ = some (.string (zs.getD j ByteArray.empty))) :
    Calls Try.prog 28 #[.slice (some ⟨b, off, none⟩) n c, .string x] w fun e w' => e = .returned (.int .i64 (Lib.idxOfS (zs.take n) x)) ∧ w' = w := by
  go_enter Try.func28, Try.ntmps28
  go_wp2
  go_loop [5, 8] (fun _ i => ∃ k : Nat, k ≤ n ∧ i = .int .i64 k ∧ ∀ j, j < k → zs.getD j ByteArray.empty ≠ x) (fun _ i => n - (intOf i).toNat)
  case atStart => exact ⟨0, Nat.zero_le _, rfl, fun j hj => absurd hj (Nat.not_lt_zero _)⟩
  case round =>
    obtain ⟨k, hk, rfl, hne⟩ := hrel
    have HNE : Hid (∀ j, j < k → zs.getD j ByteArray.empty ≠ x) := hne
    clear hne
    by_cases hlt : k < n
    · have hcell : w.cell? ⟨b, off + k, none⟩ = some (.string (zs.getD k ByteArray.empty)) := hc k (by omega)
      clear hc
      generalize hzk : zs.getD k ByteArray.empty = z at hcell
      have HZ : Hid (zs.getD k ByteArray.empty = z) := hzk
      clear hzk
      by_cases heq : (x.toList == z.toList) = true
      · go_wp2
        go_ret
        refine ⟨?_, rfl⟩
        rw [Lib.idxOfS_hit zs n k x hlt hz (HZ.out.trans ((Lib.bytes_beq_iff _ _).1 heq).symm) HNE.out]
        rfl
      · have hneq : (x.toList == z.toList) = false := by simpa using heq
        clear heq
        go_wp2
        go_round
        case rel =>
          refine ⟨k + 1, by omega, by go_num, fun j hj => ?_⟩
          by_cases e : j = k
          · subst e
            intro he
            exact (Lib.bytes_beq_false_iff _ _).1 hneq (he.symm.trans HZ.out)
          · exact HNE.out j (by omega)
        case measure => simp [intOf]; omega
    · have : k = n := by omega
      subst this
      clear hc
      go_wp2
      go_ret
      refine ⟨?_, rfl⟩
      rw [Lib.idxOfS_miss zs k x HNE.out]
      rfl

theorem contains_any (b off n c : Nat) (zs : List ByteArray) (x : ByteArray) (w : World) (hz : n ≤ zs.length) (hbig : n ≤ 9223372036854775807) (hc : ∀ j, j < zs.length → w.cell? ⟨b, off + j, none⟩ = some (.string (zs.getD j ByteArray.empty))) :
    Calls Try.prog 25 #[.slice (some ⟨b, off, none⟩) n c, .string x] w fun e w' => e = .returned (.bool (Lib.containsS (zs.take n) x)) ∧ w' = w := by
  unfold Lib.containsS
  go_enter Try.func25, Try.ntmps25
  go_wp2_with (go_at_call 28; refine (index_any b off n c zs x _ hz hbig hc).mono ?_; rintro e w' ⟨rfl, rfl⟩)
  go_ret
  exact ⟨rfl, rfl⟩
end Go.Proofs.Qxb6001229a.fnFigure
