/-
  The contracts of 'listingOf' (function 10) and '(Listing).Index' (11).
-/
import Derived.Test.Qxb6001427aRows
import Derived.WalkKit
import Derived.ProofKit
import Derived.Below
import Derived.WalkSpells
namespace Go.Proofs.Qxb6001427a.fnIdx
open Go.ChangeShapes Go.WideShapes Go.ChangeAt Go.RowKit

theorem info32 : (Try.prog.info? 32).map (fun i => (i.zero, i.size, i.bytes)) = some (some (.agg #[.string ⟨#[]⟩, .int .u64 0, .string ⟨#[]⟩, .string ⟨#[]⟩]), 4, 56) := by kernel_rfl

/-- Element k of a listing at block g: its four cells, the address z. -/
def Elem (w : World) (g k : Nat) (z : Int) : Prop :=
  w.cell? ⟨g, k * 4, none⟩ = some (.string ⟨#[]⟩) ∧ w.cell? ⟨g, k * 4 + 1, none⟩ = some (.int .u64 z) ∧ w.cell? ⟨g, k * 4 + 2, none⟩ = some (.string ⟨#[]⟩) ∧ w.cell? ⟨g, k * 4 + 3, none⟩ = some (.string ⟨#[]⟩)

/-- Element k stored anew. -/
abbrev put4 (w : World) (g k : Nat) (z : Int) : World :=
  (((w.setCell ⟨g, k * 4, none⟩ (.string ⟨#[]⟩)).setCell ⟨g, k * 4 + 1, none⟩ (.int .u64 z)).setCell ⟨g, k * 4 + 2, none⟩ (.string ⟨#[]⟩)).setCell ⟨g, k * 4 + 3, none⟩ (.string ⟨#[]⟩)

theorem set_same {w : World} {g o : Nat} {u v : Value} (h : w.cell? ⟨g, o, none⟩ = some u) : (w.setCell ⟨g, o, none⟩ v).cell? ⟨g, o, none⟩ = some v := World.cell?_setCell_same _ _ _ h
theorem set_other {w : World} {g o o' : Nat} {v : Value} (h : o ≠ o') : (w.setCell ⟨g, o, none⟩ v).cell? ⟨g, o', none⟩ = w.cell? ⟨g, o', none⟩ := World.cell?_setCell_other _ _ _ _ (fun e => h (congrArg Addr.off e))

theorem elem_hit {w : World} {g k : Nat} {z0 z : Int} (h : Elem w g k z0) : Elem (put4 w g k z) g k z := by
  obtain ⟨h0, h1, h2, h3⟩ := h
  refine ⟨?_, ?_, ?_, ?_⟩
  · rw [set_other (by omega), set_other (by omega), set_other (by omega)]
    exact set_same h0
  · rw [set_other (by omega), set_other (by omega)]
    exact set_same (u := .int .u64 z0) (by rw [set_other (by omega)]; exact h1)
  · rw [set_other (by omega)]
    exact set_same (u := .string ⟨#[]⟩) (by rw [set_other (by omega), set_other (by omega)]; exact h2)
  · exact set_same (u := .string ⟨#[]⟩) (by rw [set_other (by omega), set_other (by omega), set_other (by omega)]; exact h3)

theorem elem_other {w : World} {g k j : Nat} {y z : Int} (h : Elem w g j y) (hne : j ≠ k) : Elem (put4 w g k z) g j y := by
  obtain ⟨h0, h1, h2, h3⟩ := h
  refine ⟨?_, ?_, ?_, ?_⟩
  all_goals rw [set_other (by omega), set_other (by omega), set_other (by omega), set_other (by omega)]
  · exact h0
  · exact h1
  · exact h2
  · exact h3

theorem put4_below {B g : Nat} {a w : World} (h : Below B a w) (hg : B ≤ g) (k : Nat) (z : Int) : Below B a (put4 w g k z) :=
  (((h.setCell hg _).setCell hg _).setCell hg _).setCell hg _

theorem made_at (z : Array Value) (m i : Nat) (h : i < m) : (madeCells z m).toList[i]? = some (z[i % z.size]!) := by
  simp [madeCells, h]

theorem made_elem {w1 : World} {base g n : Nat} (hown : w1.ownsRow base 32 4 (.slice (some ⟨g, 0, none⟩) n n) n (madeCells (Value.agg #[.string ⟨#[]⟩, .int .u64 0, .string ⟨#[]⟩, .string ⟨#[]⟩]).cells (n * 4)).toList) (j : Nat) (hj : j < n) : Elem w1 g j 0 := by
  have hc : (Value.agg #[.string ⟨#[]⟩, .int .u64 0, .string ⟨#[]⟩, .string ⟨#[]⟩]).cells = #[.string ⟨#[]⟩, .int .u64 0, .string ⟨#[]⟩, .string ⟨#[]⟩] := rfl
  rw [hc] at hown
  refine ⟨?_, ?_, ?_, ?_⟩
  · rw [hown.cellAt _ (by omega), made_at _ _ _ (by omega)]
    simp [show j * 4 % 4 = 0 by omega]
  · rw [hown.cellAt _ (by omega), made_at _ _ _ (by omega)]
    simp [show (j * 4 + 1) % 4 = 1 by omega]
  · rw [hown.cellAt _ (by omega), made_at _ _ _ (by omega)]
    simp [show (j * 4 + 2) % 4 = 2 by omega]
  · rw [hown.cellAt _ (by omega), made_at _ _ _ (by omega)]
    simp [show (j * 4 + 3) % 4 = 3 by omega]

set_option maxHeartbeats 400000 in
theorem listing_any (b off n c : Nat) (zs : List Int) (w : World) (hn : n ≤ 65536) (hb : b < w.heap.size) (hc : ∀ j, j < n → w.cell? ⟨b, off + j, none⟩ = some (.int .u64 (zs.getD j 0))) :
    Calls Try.prog 10 #[.slice (some ⟨b, off, none⟩) n c] w fun e w' => e = .returned (.slice (some ⟨w.heap.size, 0, none⟩) n n) ∧ Below w.heap.size w w' ∧ w.heap.size < w'.heap.size ∧ ∀ j, j < n → Elem w' w.heap.size j (zs.getD j 0) := by
  obtain ⟨i0, hi, hz0, hz1, hz2⟩ := info_parts info32
  go_enter Try.func10, Try.ntmps10
  go_wp2_with (first | (at_make; refine wpList_make_full _ rfl _ _ 25 rfl w.heap.size 32 i0 _ 4 Try.underlying25 hi hz0 hz1 .i64 .i64 _ _ n rfl rfl (by omega) (by omega) (by rw [hz2]; omega) (by unfold maxLen; omega) (Nat.le_refl _) ?_; intro w1 hown hgrow))
  have hb1 : Below w.heap.size w w1 := (Below.refl _ _).grown hgrow (Nat.le_refl _) (by intro k hk; cases hk)
  have hE1 : ∀ j, j < n → Elem w1 w.heap.size j 0 := made_elem hown
  have hF1 : ∀ j, w1.frozen? ⟨w.heap.size, j, none⟩ = false := fun j => hown.frozenAt j
  have hS1 : w.heap.size < w1.heap.size := (hown.lt w.heap.size rfl).2
  clear hown hgrow
  go_loopw [4] (fun i wr => ∃ k : Nat, k ≤ n ∧ i = .int .i64 k ∧ Below w.heap.size w wr ∧ (∀ j, j < k → Elem wr w.heap.size j (zs.getD j 0)) ∧ (∀ j, k ≤ j → j < n → Elem wr w.heap.size j 0) ∧ (∀ j, wr.frozen? ⟨w.heap.size, j, none⟩ = false) ∧ w.heap.size < wr.heap.size) (fun i _ => n - (intOf i).toNat)
  case atStart => exact ⟨0, Nat.zero_le _, rfl, hb1, fun j hj => absurd hj (Nat.not_lt_zero _), fun j _ hj => hE1 j hj, hF1, hS1⟩
  case round =>
    obtain ⟨k, hk, rfl, hbel, hE, hR, hF, hS⟩ := hrel
    clear hE1 hF1 hb1 hS1
    by_cases hlt : k < n
    · have hck : wr.cell? ⟨b, off + k, none⟩ = some (.int .u64 (zs.getD k 0)) := (hbel.cell (p := ⟨b, off + k, none⟩) hb).trans (hc k hlt)
      have hR0 := hR k (Nat.le_refl _) hlt
      obtain ⟨e0, e1, e2, e3⟩ := hR0
      generalize hzk : zs.getD k 0 = z at hck
      clear hc
      have HE : Hid (∀ j, j < k → Elem wr w.heap.size j (zs.getD j 0)) := hE
      have HR : Hid (∀ j, k ≤ j → j < n → Elem wr w.heap.size j 0) := hR
      have HZ : Hid (zs.getD k 0 = z) := hzk
      clear hE hR hzk
      go_wp2
      go_roundw
      case rel =>
        refine ⟨k + 1, by omega, by go_num, put4_below hbel (Nat.le_refl _) k z, fun j hj => ?_, fun j hj hjn => ?_, fun j => ?_, by simpa using hS⟩
        · by_cases e : j = k
          · rw [e, HZ.out]
            exact elem_hit (HR.out k (Nat.le_refl _) hlt)
          · exact elem_other (HE.out j (by omega)) e
        · exact elem_other (HR.out j (by omega) hjn) (by omega)
        · simpa using hF j
      case measure => simp [intOf]; omega
    · go_wp2
      go_ret
      exact ⟨rfl, hbel, hS, fun j hj => hE j (by omega)⟩

set_option maxHeartbeats 400000 in
/-- The same at a slice of length 0, a nil one too. -/
theorem listing_zero (a : Option Addr) (c : Nat) (w : World) :
    Calls Try.prog 10 #[.slice a 0 c] w fun e w' => e = .returned (.slice (some ⟨w.heap.size, 0, none⟩) 0 0) ∧ Below w.heap.size w w' ∧ w.heap.size < w'.heap.size := by
  obtain ⟨i0, hi, hz0, hz1, hz2⟩ := info_parts info32
  go_enter Try.func10, Try.ntmps10
  go_wp2_with (first | (at_make; refine wpList_make_full _ rfl _ _ 25 rfl w.heap.size 32 i0 _ 4 Try.underlying25 hi hz0 hz1 .i64 .i64 _ _ 0 rfl rfl (by omega) (by omega) (by rw [hz2]; omega) (by unfold maxLen; omega) (Nat.le_refl _) ?_; intro w1 hown hgrow))
  have hb1 : Below w.heap.size w w1 := (Below.refl _ _).grown hgrow (Nat.le_refl _) (by intro k hk; cases hk)
  have hS1 : w.heap.size < w1.heap.size := (hown.lt w.heap.size rfl).2
  clear hown hgrow
  refine wp_loop_rounds 1 ?_
  rw [rounds_succ]
  go_wp2
  go_ret
  exact ⟨rfl, hb1, hS1⟩

/-- The index of the first z among the first n, or -1. -/
def Fst (zs : List Int) (n : Nat) (a r : Int) : Prop :=
  (r = -1 ∧ ∀ j, j < n → zs.getD j 0 ≠ a) ∨ ∃ k : Nat, r = k ∧ k < n ∧ zs.getD k 0 = a ∧ ∀ j, j < k → zs.getD j 0 ≠ a

set_option maxHeartbeats 400000 in
theorem index_any (g n c : Nat) (zs : List Int) (a : Int) (w : World) (hn : n ≤ 65536) (hg : g < w.heap.size) (hE : ∀ j, j < n → Elem w g j (zs.getD j 0)) :
    Calls Try.prog 11 #[.slice (some ⟨g, 0, none⟩) n c, .int .u64 a] w fun e w' => ∃ r : Int, e = .returned (.int .i64 r) ∧ Fst zs n a r ∧ Below w.heap.size w w' := by
  go_enter Try.func11, Try.ntmps11
  go_wp2
  go_loopw [9] (fun i wr => ∃ k : Nat, k ≤ n ∧ i = .int .i64 k ∧ Below w.heap.size w wr ∧ ∀ j, j < k → zs.getD j 0 ≠ a) (fun i _ => n - (intOf i).toNat)
  case atStart => exact ⟨0, Nat.zero_le _, rfl, Below.refl _ _, fun j hj => absurd hj (Nat.not_lt_zero _)⟩
  case round =>
    obtain ⟨k, hk, rfl, hbel, hne⟩ := hrel
    have HNE : Hid (∀ j, j < k → zs.getD j 0 ≠ a) := hne
    clear hne
    by_cases hlt : k < n
    · obtain ⟨e0, e1, e2, e3⟩ := hE k hlt
      rw [← hbel.cell (p := ⟨g, _, none⟩) hg] at e0 e1 e2 e3
      generalize hzk : zs.getD k 0 = z at e1
      have HZ : Hid (zs.getD k 0 = z) := hzk
      clear hE hzk
      by_cases hz : (z == a) = true
      · go_wp2
        go_ret
        exact ⟨k, rfl, .inr ⟨k, rfl, hlt, HZ.out.trans (beq_iff_eq.1 hz), HNE.out⟩, hbel.alloc hbel.size _⟩
      · have hz' : (z == a) = false := by simpa using hz
        clear hz
        go_wp2
        go_roundw
        case rel =>
          refine ⟨k + 1, by omega, by go_num, hbel.alloc hbel.size _, fun j hj => ?_⟩
          by_cases e : j = k
          · rw [e, HZ.out]
            exact beq_eq_false_iff_ne.1 hz'
          · exact HNE.out j (by omega)
        case measure => simp [intOf]; omega
    · go_wp2
      go_ret
      exact ⟨-1, rfl, .inl ⟨rfl, fun j hj => HNE.out j (by omega)⟩, hbel⟩
end Go.Proofs.Qxb6001427a.fnIdx
