/-
  The contract of 'zzOrdinalText_document_b1' (function 11).
-/
import Derived.Test.Qxb6001229aRows
import Derived.WalkKit
import Derived.ProofKit
import Derived.Below
import Derived.Laws.IdiomStrings
import Derived.WalkSpells
namespace Go.Proofs.Qxb6001229a.fnFigure
open Go.ChangeShapes Go.WideShapes Go.ChangeAt Go.RowKit

theorem info5 : (Try.prog.info? 5).map (fun i => (i.zero, i.size, i.bytes)) = some (some (.int .u8 0), 1, 1) := by kernel_rfl

/-- The byte of a digit. -/
def dg (k : Int) : UInt8 := UInt8.ofNat (48 + k.toNat)
theorem dg_nat (k : Int) (h0 : 0 ≤ k) (h1 : k ≤ 9) : ((dg k).toNat : Int) = 48 + k := by
  unfold dg
  rw [UInt8.toNat_ofNat']
  omega

theorem own_shape {w : World} {base e : Nat} {v : Value} {n : Nat} {xs : List Value} (h : w.ownsRow base e 1 v n xs) (hn : 0 < n) :
    ∃ g cap, v = .slice (some ⟨g, 0, none⟩) n cap ∧ base ≤ g ∧ ∀ j, j < n → w.cell? ⟨g, j, none⟩ = xs[j]? := by
  obtain ⟨h1, h2⟩ := h
  rcases h2 with ⟨_, h0⟩ | ⟨g, cap, cur, hv, hb, r⟩
  · omega
  · refine ⟨g, cap, hv, hb, fun j hj => ?_⟩
    subst hv
    exact World.ownsRow.cellAt (e := e) (base := base) (size := 1) (cap := cap) ⟨h1, .inr ⟨g, cap, cur, rfl, hb, r⟩⟩ j (by omega)

/-- The letters behind n (1 to 99): the Go text's own tests. -/
def Suf (n : Int) (x y : UInt8) : Prop :=
  (11 ≤ n ∧ n ≤ 13 ∧ x = 116 ∧ y = 104) ∨
  ((n < 11 ∨ 13 < n) ∧ ((1 ≤ n % 10 ∧ n % 10 ≤ 1 ∧ x = 115 ∧ y = 116) ∨ (2 ≤ n % 10 ∧ n % 10 ≤ 2 ∧ x = 110 ∧ y = 100) ∨ (3 ≤ n % 10 ∧ n % 10 ≤ 3 ∧ x = 114 ∧ y = 100) ∨ (n % 10 < 1 ∧ x = 116 ∧ y = 104) ∨ (3 < n % 10 ∧ x = 116 ∧ y = 104)))

theorem conv_one (w : World) (g cap : Nat) (k : Int) (h0 : 0 ≤ k) (h1 : k ≤ 9) (hc : ∀ j, j < 1 → w.cell? ⟨g, j, none⟩ = [Value.int .u8 (48 + k)][j]?) :
    (convert 35 9 (.slice (some ⟨g, 0, none⟩) 1 cap)).run Try.prog w = .ok (.string ⟨#[dg k]⟩) w := by
  refine run_convert_bytes_back (P := Try.prog) w 35 9 5 ⟨g, 0, none⟩ cap [dg k] Try.underlying35 Try.underlying5 Try.underlying9 ?_
  intro j hj
  match j, hj with
  | 0, _ => simpa [Addr.add, dg_nat k h0 h1] using hc 0 (by omega)

theorem conv_two (w : World) (g cap : Nat) (k l : Int) (h0 : 0 ≤ k) (h1 : k ≤ 9) (h2 : 0 ≤ l) (h3 : l ≤ 9) (hc : ∀ j, j < 2 → w.cell? ⟨g, j, none⟩ = [Value.int .u8 (48 + k), Value.int .u8 (48 + l)][j]?) :
    (convert 35 9 (.slice (some ⟨g, 0, none⟩) 2 cap)).run Try.prog w = .ok (.string ⟨#[dg k, dg l]⟩) w := by
  refine run_convert_bytes_back (P := Try.prog) w 35 9 5 ⟨g, 0, none⟩ cap [dg k, dg l] Try.underlying35 Try.underlying5 Try.underlying9 ?_
  intro j hj
  match j, hj with
  | 0, _ => simpa [Addr.add, dg_nat k h0 h1] using hc 0 (by omega)
  | 1, _ => simpa [Addr.add, dg_nat l h2 h3] using hc 1 (by omega)

theorem one_new {w : World} {z : Value} {e : TypeId} : ∀ (j : Nat) (u : Value), [z][j]? = some u → (w.alloc (.cells #[z] e)).cell? ((⟨w.heap.size, 0, none⟩ : Addr).add j) = some u := by
  intro j u hj
  match j, hj with
  | 0, hj => simp at hj; subst hj; simp [Addr.add]

set_option maxHeartbeats 400000 in
theorem text_one (n : Int) (x y : UInt8) (h0 : 1 ≤ n) (h1 : n ≤ 9) (hs : Suf n x y) (w : World) :
    Calls Try.prog 11 #[.int .i64 n] w fun e w' => e = .returned (.string ⟨#[dg (n % 10), x, y]⟩) ∧ Below w.heap.size w w' := by
  obtain ⟨i0, hi, hz0, hz1, hz2⟩ := info_parts info5
  rcases hs with ⟨ha, hb, rfl, rfl⟩ | ⟨hab, ⟨ha, hb, rfl, rfl⟩ | ⟨ha, hb, rfl, rfl⟩ | ⟨ha, hb, rfl, rfl⟩ | ⟨ha, rfl, rfl⟩ | ⟨ha, rfl, rfl⟩⟩
  · omega
  rotate_left 3
  · omega
  all_goals
    go_enter Try.func11, Try.ntmps11
    go_wp2_with (first | (at_builtin; refine wpList_append_own _ rfl _ _ 35 rfl w.heap.size 5 i0 (.int .u8 0) 1 1 Try.underlying35 hi hz0 hz1 hz2 rfl (by decide) _ _ _ rfl ((World.ownsRow_nil _ _ _ _).alloc _) ⟨w.heap.size, 0, none⟩ 1 1 [.int .u8 (48 + n % 10)] rfl rfl ?c1 ?c2 ?c3 ?c4 ?c5 ?_) | go_in)
    case c1 => exact one_new
    case c2 => intro u hu; simp at hu; subst hu; rfl
    case c3 => unfold maxLen; omega
    case c4 => omega
    case c5 => simp
    intro v' w1 hown hgrow _
    obtain ⟨g, cap, hv, hg, hcell⟩ := own_shape hown (by omega)
    have hconv := conv_one w1 g cap (n % 10) (by omega) (by omega) hcell
    have hbel : Below w.heap.size w w1 := ((Below.refl _ _).alloc (Nat.le_refl _) _).grown hgrow (by simp) (by simp [Value.ownBlock])
    clear hown hgrow hcell
    rw [hv]
    clear hv
    go_wp2
    go_ret
    exact ⟨rfl, hbel⟩

set_option maxHeartbeats 1000000 in
theorem text_two (n : Int) (x y : UInt8) (h0 : 10 ≤ n) (h1 : n ≤ 99) (hs : Suf n x y) (w : World) :
    Calls Try.prog 11 #[.int .i64 n] w fun e w' => e = .returned (.string ⟨#[dg (n / 10), dg (n % 10), x, y]⟩) ∧ Below w.heap.size w w' := by
  obtain ⟨i0, hi, hz0, hz1, hz2⟩ := info_parts info5
  rcases hs with ⟨ha, hb, rfl, rfl⟩ | ⟨hab, ⟨ha, hb, rfl, rfl⟩ | ⟨ha, hb, rfl, rfl⟩ | ⟨ha, hb, rfl, rfl⟩ | ⟨ha, rfl, rfl⟩ | ⟨ha, rfl, rfl⟩⟩
  rotate_left
  all_goals try rcases hab with hab | hab
  all_goals try omega
  all_goals
    go_enter Try.func11, Try.ntmps11
    go_wp2_with (first | (at_builtin; refine wpList_append_own _ rfl _ _ 35 rfl w.heap.size 5 i0 (.int .u8 0) 1 1 Try.underlying35 hi hz0 hz1 hz2 rfl (by decide) _ _ _ rfl ((World.ownsRow_nil _ _ _ _).alloc _) ⟨w.heap.size, 0, none⟩ 1 1 [.int .u8 (48 + n / 10)] rfl rfl ?c1 ?c2 ?c3 ?c4 ?c5 ?_) | go_in)
    case c1 => exact one_new
    case c2 => intro u hu; simp at hu; subst hu; rfl
    case c3 => unfold maxLen; omega
    case c4 => omega
    case c5 => simp
    intro v1 w1 hown1 hgrow1 _
    have hbel1 : Below w.heap.size w w1 := ((Below.refl _ _).alloc (Nat.le_refl _) _).grown hgrow1 (by simp) (by simp [Value.ownBlock])
    have hown1b : w1.ownsRow w.heap.size 5 1 v1 1 [.int .u8 (48 + n / 10)] := hown1
    clear hgrow1 hown1
    go_wp2_with (first | (at_builtin; refine wpList_append_own _ rfl _ _ 35 rfl w.heap.size 5 i0 (.int .u8 0) 1 1 Try.underlying35 hi hz0 hz1 hz2 rfl (by decide) _ _ _ rfl (hown1b.alloc _) ⟨w1.heap.size, 0, none⟩ 1 1 [.int .u8 (48 + n % 10)] rfl rfl ?d1 ?d2 ?d3 ?d4 ?d5 ?_) | go_in)
    case d1 => exact one_new
    case d2 => intro u hu; simp at hu; subst hu; rfl
    case d3 => unfold maxLen; omega
    case d4 => omega
    case d5 => have := hbel1.size; simp; omega
    intro v' w2 hown hgrow _
    have hbel : Below w.heap.size w w2 := (hbel1.alloc hbel1.size _).grown hgrow (by have := hbel1.size; simp; omega) (fun k hk => (hown1b.lt k hk).1)
    obtain ⟨g, cap, hv, hg, hcell⟩ := own_shape hown (by omega)
    have hconv := conv_two w2 g cap (n / 10) (n % 10) (by omega) (by omega) (by omega) (by omega) hcell
    clear hown hgrow hcell hbel1 hown1b
    rw [hv]
    clear hv
    go_wp2
    go_ret
    exact ⟨rfl, hbel⟩
end Go.Proofs.Qxb6001229a.fnFigure
