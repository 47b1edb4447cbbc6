/-
  The contracts of 'inAlphabet' (function 7) and 'isNameByte' (10), and the plain law between the two answers.
-/
import Derived.Test.Qxb6001267aRows
import Derived.WalkKit
import Derived.ProofKit
import Derived.Below
import Derived.WalkSpells
namespace Go.Proofs.Qxb6001267a.fnName
open Go.ChangeShapes Go.WideShapes Go.ChangeAt Go.RowKit

/-- The documented alphabet, as the Go text's constant. -/
abbrev alB : ByteArray := ⟨#[97, 98, 99, 100, 101, 102, 103, 104, 105, 106, 107, 108, 109, 110, 111, 112, 113, 114, 115, 116, 117, 118, 119, 120, 121, 122, 65, 66, 67, 68, 69, 70, 71, 72, 73, 74, 75, 76, 77, 78, 79, 80, 81, 82, 83, 84, 85, 86, 87, 88, 89, 90, 48, 49, 50, 51, 52, 53, 54, 55, 56, 57, 95, 45, 46]⟩

/-- The documented alphabet's bytes. -/
def alph : List Int := alB.data.toList.map fun c => (c.toNat : Int)
/-- Is b among them? -/
def inAl (b : Int) : Bool := alph.contains b

theorem alph_at (k : Nat) (h : k < alB.size) : ((alB[k]'h).toNat : Int) = alph.getD k 0 := by
  have h' : k < alB.data.toList.length := h
  unfold alph
  rw [List.getD_eq_getElem?_getD, List.getElem?_map, List.getElem?_eq_getElem h']
  rfl
theorem alph_len : alph.length = 65 := rfl
theorem inAl_hit (b : Int) (k : Nat) (h : k < 65) (he : alph.getD k 0 = b) : inAl b = true := by
  unfold inAl
  rw [List.contains_iff_mem]
  rw [← he, List.getD_eq_getElem?_getD, List.getElem?_eq_getElem (by rw [alph_len]; exact h)]
  exact List.getElem_mem _
theorem inAl_miss (b : Int) (h : ∀ j, j < 65 → alph.getD j 0 ≠ b) : inAl b = false := by
  unfold inAl
  rw [Bool.eq_false_iff]
  intro hc
  rw [List.contains_iff_mem] at hc
  obtain ⟨j, hj, e⟩ := List.getElem_of_mem hc
  rw [alph_len] at hj
  refine h j hj ?_
  rw [List.getD_eq_getElem?_getD, List.getElem?_eq_getElem (by rw [alph_len]; exact hj)]
  exact e

theorem ret_bool {a b : Bool} (h : a = b) : Ending.returned (.bool a) = .returned (.bool b) := by rw [h]

set_option maxHeartbeats 400000 in
theorem in_any (b : Int) (w : World) :
    Calls Try.prog 7 #[.int .u8 b] w fun e w' => e = .returned (.bool (inAl b)) ∧ w = w' := by
  go_enter Try.func7, Try.ntmps7
  go_wp2
  go_loop [3] (fun i => ∃ k : Nat, k ≤ 65 ∧ i = .int .i64 k ∧ ∀ j, j < k → alph.getD j 0 ≠ b) (fun i => 65 - (intOf i).toNat)
  case atStart => exact ⟨0, Nat.zero_le _, rfl, fun j hj => absurd hj (Nat.not_lt_zero _)⟩
  case round =>
    obtain ⟨k, hk, rfl, hne⟩ := hrel
    have HNE : Hid (∀ j, j < k → alph.getD j 0 ≠ b) := hne
    clear hne
    by_cases hlt : k < 65
    · have HA : Hid (((alB[k]'hlt).toNat : Int) = alph.getD k 0) := alph_at k hlt
      go_wp2
      · have he : (((alB[k]'hlt).toNat : Int) == b) = true := by assumption
        go_ret
        exact ⟨ret_bool (inAl_hit b k hlt (HA.out.symm.trans (beq_iff_eq.1 he))).symm, rfl⟩
      · have he : (((alB[k]'hlt).toNat : Int) == b) = false := by assumption
        go_round
        case rel =>
          refine ⟨k + 1, by omega, by go_num, fun j hj => ?_⟩
          by_cases e : j = k
          · subst e
            rw [← HA.out]
            exact beq_eq_false_iff_ne.1 he
          · exact HNE.out j (by omega)
        case measure => simp [intOf]; omega
    · go_wp2
      go_ret
      exact ⟨ret_bool (inAl_miss b fun j hj => HNE.out j (by omega)).symm, rfl⟩

/-- What isNameByte answers. -/
def nb (b : Int) : Bool := decide ((97 ≤ b ∧ b ≤ 122) ∨ (65 ≤ b ∧ b ≤ 90) ∨ (48 ≤ b ∧ b ≤ 57) ∨ b = 95 ∨ b = 45 ∨ b = 46)

set_option maxHeartbeats 1000000 in
theorem name_any (b : Int) (h0 : 0 ≤ b) (h1 : b ≤ 255) (w : World) :
    Calls Try.prog 10 #[.int .u8 b] w fun e w' => e = .returned (.bool (nb b)) ∧ w = w' := by
  rcases (show b < 45 ∨ b = 45 ∨ b = 46 ∨ b = 47 ∨ (48 ≤ b ∧ b ≤ 57) ∨ (58 ≤ b ∧ b ≤ 64) ∨ (65 ≤ b ∧ b ≤ 90) ∨ (91 ≤ b ∧ b ≤ 94) ∨ b = 95 ∨ b = 96 ∨ (97 ≤ b ∧ b ≤ 122) ∨ 123 ≤ b by omega) with
    h | rfl | rfl | rfl | ⟨h, h2⟩ | ⟨h, h2⟩ | ⟨h, h2⟩ | ⟨h, h2⟩ | rfl | rfl | ⟨h, h2⟩ | h
  all_goals
    go_enter Try.func10, Try.ntmps10
    go_wp2
    go_ret
    exact ⟨ret_bool (by unfold nb; first | rfl | (simp; omega) | (symm; simp; omega)), rfl⟩

theorem same_nat : ∀ k : Fin 256, nb (k.val : Int) = inAl (k.val : Int) := by decide +kernel
theorem same (b : Int) (h0 : 0 ≤ b) (h1 : b ≤ 255) : nb b = inAl b := by
  obtain ⟨k, rfl⟩ : ∃ k : Nat, b = k := ⟨b.toNat, by omega⟩
  exact same_nat ⟨k, by omega⟩
end Go.Proofs.Qxb6001267a.fnName
