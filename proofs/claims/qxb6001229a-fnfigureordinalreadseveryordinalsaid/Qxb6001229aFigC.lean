/-
  The contract of 'figureOrdinal' (function 21) at the ordinals of one digit and of two.
-/
import Derived.Test.Qxb6001229aFigB
import Derived.Laws.RangeString
namespace Go.Proofs.Qxb6001229a.fnFigure
open Go.ChangeShapes Go.WideShapes Go.ChangeAt Go.RowKit

def st4 : List ByteArray := [⟨#[115, 116]⟩, ⟨#[110, 100]⟩, ⟨#[114, 100]⟩, ⟨#[116, 104]⟩]

/-- The letters behind the digits a, b. -/
def SufD (a b : Int) (x y : UInt8) : Prop :=
  (a = 1 ∧ x = 116 ∧ y = 104) ∨ (a ≠ 1 ∧ b = 1 ∧ x = 115 ∧ y = 116) ∨ (a ≠ 1 ∧ b = 2 ∧ x = 110 ∧ y = 100) ∨ (a ≠ 1 ∧ b = 3 ∧ x = 114 ∧ y = 100) ∨ (a ≠ 1 ∧ b < 1 ∧ x = 116 ∧ y = 104) ∨ (a ≠ 1 ∧ 3 < b ∧ x = 116 ∧ y = 104)

theorem st4_cells (w : World) (j : Nat) (hj : j < st4.length) :
    (w.alloc (.cells #[.string ⟨#[115, 116]⟩, .string ⟨#[110, 100]⟩, .string ⟨#[114, 100]⟩, .string ⟨#[116, 104]⟩] 9)).cell? ⟨w.heap.size, 0 + j, none⟩ = some (.string (st4.getD j ByteArray.empty)) := by
  have : j = 0 ∨ j = 1 ∨ j = 2 ∨ j = 3 := by simp [st4] at hj; omega
  rcases this with rfl | rfl | rfl | rfl <;> simp [st4]

theorem iter_below {B : Nat} {a w : World} (h : Below B a w) (hB : B ≤ w.heap.size) (p : ByteArray) (k : Nat) : Below B a (w.iter p k) := h.alloc hB _
theorem iter_size (w : World) (p : ByteArray) (k : Nat) : (w.iter p k).heap.size = w.heap.size + 1 := by simp [World.iter]

theorem ret2 {a b : Int} (h : a = b) : Ending.returned (.tuple #[.int .i64 a, .bool true]) = .returned (.tuple #[.int .i64 b, .bool true]) := by rw [h]

set_option maxHeartbeats 1000000 in
theorem fig_one (s p : ByteArray) (x y : UInt8) (n : Int) (w : World) (h0 : 1 ≤ n) (h1 : n ≤ 9) (hs : SufD 0 n x y) (hsz : s.size = 3) (hrun : ∀ w : World, Calls Try.prog 24 #[.string s] w fun e w' => e = .returned (.int .i64 1) ∧ w = w')
    (hsuf : s.extract 1 3 = ⟨#[x, y]⟩) (hpre : s.extract 0 1 = p)
    (hnext : ∀ (o : Obj) ty, (Instr.next (.pointer (some ⟨w.heap.size + 1, 0, none⟩)) true ty).run Try.prog ((w.alloc o).iter p 0) = .ok (.tuple #[.bool true, .int .i64 0, .int .i32 (48 + n)]) ((w.alloc o).iter p 1))
    (hend : ∀ (o : Obj) ty, (Instr.next (.pointer (some ⟨w.heap.size + 1, 0, none⟩)) true ty).run Try.prog ((w.alloc o).iter p 1) = .ok (.tuple #[.bool false]) ((w.alloc o).iter p 1)) :
    Calls Try.prog 21 #[.string s] w fun e w' => e = .returned (.tuple #[.int .i64 n, .bool true]) ∧ Below w.heap.size w w' := by
  have HR : Hid (∀ w : World, Calls Try.prog 24 #[.string s] w fun e w' => e = .returned (.int .i64 1) ∧ w = w') := hrun
  clear hrun
  have hct0 : Lib.containsS (st4.take 4) ⟨#[115, 116]⟩ = true := by decide
  have hct1 : Lib.containsS (st4.take 4) ⟨#[110, 100]⟩ = true := by decide
  have hct2 : Lib.containsS (st4.take 4) ⟨#[114, 100]⟩ = true := by decide
  have hct3 : Lib.containsS (st4.take 4) ⟨#[116, 104]⟩ = true := by decide
  rcases hs with ⟨ha, rfl, rfl⟩ | ⟨ha, rfl, rfl, rfl⟩ | ⟨ha, rfl, rfl, rfl⟩ | ⟨ha, rfl, rfl, rfl⟩ | ⟨ha, hb, rfl, rfl⟩ | ⟨ha, hb, rfl, rfl⟩
  · omega
  rotate_left 3
  · omega
  all_goals
    clear ha
    go_enter Try.func21, Try.ntmps21
    go_wp2_with (first | (go_at_call 24; refine (HR.out _).mono ?_; rintro e w' ⟨rfl, rfl⟩) | (go_at_call 25; refine (contains_any w.heap.size 0 4 4 st4 _ _ (by decide) (by decide) (st4_cells w)).mono ?_; rintro e w' ⟨rfl, rfl⟩))
    refine wp_loop_rounds 2 ?_
    rw [rounds_succ]
    go_wp2
    rw [rounds_succ]
    go_wp2
    go_ret2
    refine ⟨by first | rfl | exact ret2 (a := 48 + n - 48) (by omega), ?_⟩
    first | exact iter_below ((Below.refl _ _).alloc (Nat.le_refl _) _) (by simp) _ _ | exact (iter_below ((Below.refl _ _).alloc (Nat.le_refl _) _) (by simp) _ _).alloc (by rw [iter_size]; simp; omega) _

set_option maxHeartbeats 1000000 in
theorem fig_two (s p : ByteArray) (x y : UInt8) (a b : Int) (w : World) (h0 : 1 ≤ a) (h1 : a ≤ 9) (h2 : 0 ≤ b) (h3 : b ≤ 9) (hs : SufD a b x y) (hsz : s.size = 4) (hrun : ∀ w : World, Calls Try.prog 24 #[.string s] w fun e w' => e = .returned (.int .i64 2) ∧ w = w')
    (hsuf : s.extract 2 4 = ⟨#[x, y]⟩) (hpre : s.extract 0 2 = p)
    (hnext : ∀ (o : Obj) ty, (Instr.next (.pointer (some ⟨w.heap.size + 1, 0, none⟩)) true ty).run Try.prog ((w.alloc o).iter p 0) = .ok (.tuple #[.bool true, .int .i64 0, .int .i32 (48 + a)]) ((w.alloc o).iter p 1))
    (hnext1 : ∀ (o : Obj) ty, (Instr.next (.pointer (some ⟨w.heap.size + 1, 0, none⟩)) true ty).run Try.prog ((w.alloc o).iter p 1) = .ok (.tuple #[.bool true, .int .i64 1, .int .i32 (48 + b)]) ((w.alloc o).iter p 2))
    (hend : ∀ (o : Obj) ty, (Instr.next (.pointer (some ⟨w.heap.size + 1, 0, none⟩)) true ty).run Try.prog ((w.alloc o).iter p 2) = .ok (.tuple #[.bool false]) ((w.alloc o).iter p 2)) :
    Calls Try.prog 21 #[.string s] w fun e w' => e = .returned (.tuple #[.int .i64 (10 * a + b), .bool true]) ∧ Below w.heap.size w w' := by
  have HR : Hid (∀ w : World, Calls Try.prog 24 #[.string s] w fun e w' => e = .returned (.int .i64 2) ∧ w = w') := hrun
  clear hrun
  have hct0 : Lib.containsS (st4.take 4) ⟨#[115, 116]⟩ = true := by decide
  have hct1 : Lib.containsS (st4.take 4) ⟨#[110, 100]⟩ = true := by decide
  have hct2 : Lib.containsS (st4.take 4) ⟨#[114, 100]⟩ = true := by decide
  have hct3 : Lib.containsS (st4.take 4) ⟨#[116, 104]⟩ = true := by decide
  rcases hs with ⟨rfl, rfl, rfl⟩ | ⟨ha, rfl, rfl, rfl⟩ | ⟨ha, rfl, rfl, rfl⟩ | ⟨ha, rfl, rfl, rfl⟩ | ⟨ha, hb, rfl, rfl⟩ | ⟨ha, hb, rfl, rfl⟩
  rotate_left
  all_goals
    try (have ha2 : 2 ≤ a := by omega)
    try clear ha
    go_enter Try.func21, Try.ntmps21
    go_wp2_with (first | (go_at_call 24; refine (HR.out _).mono ?_; rintro e w' ⟨rfl, rfl⟩) | (go_at_call 25; refine (contains_any w.heap.size 0 4 4 st4 _ _ (by decide) (by decide) (st4_cells w)).mono ?_; rintro e w' ⟨rfl, rfl⟩))
    refine wp_loop_rounds 3 ?_
    rw [rounds_succ]
    go_wp2
    rw [rounds_succ]
    go_wp2
    rw [rounds_succ]
    go_wp2
    go_ret2
    refine ⟨by first | rfl | (refine ret2 ?_; omega), ?_⟩
    first | exact iter_below ((Below.refl _ _).alloc (Nat.le_refl _) _) (by simp) _ _ | exact (iter_below ((Below.refl _ _).alloc (Nat.le_refl _) _) (by simp) _ _).alloc (by rw [iter_size]; simp; omega) _
end Go.Proofs.Qxb6001229a.fnFigure
