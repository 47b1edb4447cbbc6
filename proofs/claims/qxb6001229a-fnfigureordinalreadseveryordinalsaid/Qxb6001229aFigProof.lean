/-
  'Rows.FnFigureOrdinalReadsEveryOrdinalSaid', proved: the ordinal's text is read back (out of the contracts of zzOrdinalText and figureOrdinal), the law's walk, the row's step (the kit's shell, its end turned to 'Below').
-/
import Derived.Test.Qxb6001229aFigA
import Derived.Test.Qxb6001229aFigC
import Derived.OpenShut
import Derived.ShutString
import Derived.ChangeOld
namespace Go.Proofs.Qxb6001229a.fnFigure
open Go.ChangeShapes Go.WideShapes Go.ChangeAt Go.RowKit
set_option linter.unusedVariables false

theorem own : ownKnob Try.prog.godebug = none := by kernel_rfl

theorem suf_ex (n : Int) (h0 : 1 ≤ n) (h1 : n ≤ 99) : ∃ x y, Suf n x y ∧ SufD (n / 10) (n % 10) x y ∧ 57 < (x.toNat : Int) := by
  unfold Suf SufD
  by_cases ht : 10 ≤ n ∧ n ≤ 19
  · exact ⟨116, 104, by simp; omega, by simp; omega, by decide⟩
  by_cases c1 : n % 10 = 1
  · exact ⟨115, 116, by simp; omega, by simp; omega, by decide⟩
  by_cases c2 : n % 10 = 2
  · exact ⟨110, 100, by simp; omega, by simp; omega, by decide⟩
  by_cases c3 : n % 10 = 3
  · exact ⟨114, 100, by simp; omega, by simp; omega, by decide⟩
  exact ⟨116, 104, by simp; omega, by simp; omega, by decide⟩

theorem next_at (w : World) (p : ByteArray) (pos : Nat) (k : Int) (o : Obj) (ty : TypeId) (h : pos < p.size) (hk : ((p[pos]'h).toNat : Int) = 48 + k) (h9 : k ≤ 9) :
    (Instr.next (.pointer (some ⟨w.heap.size + 1, 0, none⟩)) true ty).run Try.prog ((w.alloc o).iter p pos) = .ok (.tuple #[.bool true, .int .i64 pos, .int .i32 (48 + k)]) ((w.alloc o).iter p (pos + 1)) := by
  have e := run_next_ascii (P := Try.prog) (w.alloc o) p pos ty h (by omega)
  rw [hk] at e
  simpa using e

theorem next_end (w : World) (p : ByteArray) (pos : Nat) (o : Obj) (ty : TypeId) (h : ¬ pos < p.size) :
    (Instr.next (.pointer (some ⟨w.heap.size + 1, 0, none⟩)) true ty).run Try.prog ((w.alloc o).iter p pos) = .ok (.tuple #[.bool false]) ((w.alloc o).iter p pos) := by
  simpa using run_next_end (P := Try.prog) (w.alloc o) p pos ty h

theorem read_one (n : Int) (x y : UInt8) (h0 : 1 ≤ n) (h1 : n ≤ 9) (hs : SufD 0 n x y) (hx : 57 < (x.toNat : Int)) (w : World) :
    Calls Try.prog 21 #[.string ⟨#[dg n, x, y]⟩] w fun e w' => e = .returned (.tuple #[.int .i64 n, .bool true]) ∧ Below w.heap.size w w' := by
  have hd := dg_nat n (by omega) h1
  refine fig_one ⟨#[dg n, x, y]⟩ ⟨#[dg n]⟩ x y n w h0 h1 hs rfl ?_ rfl rfl (fun o ty => next_at w ⟨#[dg n]⟩ 0 n o ty (by show 0 < 1; decide) hd h1) (fun o ty => next_end w ⟨#[dg n]⟩ 1 o ty (by show ¬ 1 < 1; decide))
  intro w1
  refine (digitRun_any ⟨#[dg n, x, y]⟩ 1 w1 (by show 3 ≤ 1000; decide) (by show 1 < 3; decide) ?_ hx).mono ?_
  · intro i h hi
    match i, h, hi with
    | 0, _, _ => show 48 ≤ ((dg n).toNat : Int) ∧ ((dg n).toNat : Int) ≤ 57; omega
  · rintro e w' ⟨he, hw⟩
    exact ⟨he, hw.symm⟩

theorem read_two (a b : Int) (x y : UInt8) (h0 : 1 ≤ a) (h1 : a ≤ 9) (h2 : 0 ≤ b) (h3 : b ≤ 9) (hs : SufD a b x y) (hx : 57 < (x.toNat : Int)) (w : World) :
    Calls Try.prog 21 #[.string ⟨#[dg a, dg b, x, y]⟩] w fun e w' => e = .returned (.tuple #[.int .i64 (10 * a + b), .bool true]) ∧ Below w.heap.size w w' := by
  have hda := dg_nat a (by omega) h1
  have hdb := dg_nat b (by omega) h3
  refine fig_two ⟨#[dg a, dg b, x, y]⟩ ⟨#[dg a, dg b]⟩ x y a b w h0 h1 h2 h3 hs rfl ?_ rfl rfl (fun o ty => next_at w ⟨#[dg a, dg b]⟩ 0 a o ty (by show 0 < 2; decide) hda h1) (fun o ty => next_at w ⟨#[dg a, dg b]⟩ 1 b o ty (by show 1 < 2; decide) hdb h3) (fun o ty => next_end w ⟨#[dg a, dg b]⟩ 2 o ty (by show ¬ 2 < 2; decide))
  intro w1
  refine (digitRun_any ⟨#[dg a, dg b, x, y]⟩ 2 w1 (by show 4 ≤ 1000; decide) (by show 2 < 4; decide) ?_ hx).mono ?_
  · intro i h hi
    match i, h, hi with
    | 0, _, _ => show 48 ≤ ((dg a).toNat : Int) ∧ ((dg a).toNat : Int) ≤ 57; omega
    | 1, _, _ => show 48 ≤ ((dg b).toNat : Int) ∧ ((dg b).toNat : Int) ≤ 57; omega
  · rintro e w' ⟨he, hw⟩
    exact ⟨he, hw.symm⟩

/-- The text of n, and that it is read back. -/
theorem both (n : Int) (h0 : 1 ≤ n) (h1 : n ≤ 99) : ∃ s : ByteArray, (∀ w : World, Calls Try.prog 11 #[.int .i64 n] w fun e w' => e = .returned (.string s) ∧ Below w.heap.size w w') ∧
    ∀ w : World, Calls Try.prog 21 #[.string s] w fun e w' => e = .returned (.tuple #[.int .i64 n, .bool true]) ∧ Below w.heap.size w w' := by
  obtain ⟨x, y, hs, hsd, hx⟩ := suf_ex n h0 h1
  by_cases h : n ≤ 9
  · have e1 : n % 10 = n := by omega
    have e0 : n / 10 = 0 := by omega
    refine ⟨⟨#[dg (n % 10), x, y]⟩, fun w => text_one n x y h0 h hs w, fun w => ?_⟩
    rw [e0] at hsd
    rw [e1] at hsd ⊢
    exact read_one n x y h0 h hsd hx w
  · refine ⟨⟨#[dg (n / 10), dg (n % 10), x, y]⟩, fun w => text_two n x y (by omega) h1 hs w, fun w => ?_⟩
    have r := read_two (n / 10) (n % 10) x y (by omega) (by omega) (by omega) (by omega) hsd hx w
    rw [show 10 * (n / 10) + n % 10 = n by omega] at r
    exact r

set_option maxHeartbeats 400000 in
theorem walk_out (n : Int) (h : n < 1 ∨ 99 < n) (w : World) :
    Calls Try.prog 3 #[.int .i64 n] w fun e w' => e = .returned (.bool true) ∧ Below w.heap.size w w' := by
  rcases h with h | h
  · go_enter Try.func3, Try.ntmps3
    go_wp2
    go_ret
    exact ⟨rfl, Below.refl _ _⟩
  · have h' : 1 ≤ n := by omega
    go_enter Try.func3, Try.ntmps3
    go_wp2
    go_ret
    exact ⟨rfl, Below.refl _ _⟩

set_option maxHeartbeats 400000 in
theorem walk_in (n : Int) (s : ByteArray) (h0 : 1 ≤ n) (h1 : n ≤ 99) (w : World) (ht : Hid (∀ w : World, Calls Try.prog 11 #[.int .i64 n] w fun e w' => e = .returned (.string s) ∧ Below w.heap.size w w'))
    (hr : Hid (∀ w : World, Calls Try.prog 21 #[.string s] w fun e w' => e = .returned (.tuple #[.int .i64 n, .bool true]) ∧ Below w.heap.size w w')) :
    Calls Try.prog 3 #[.int .i64 n] w fun e w' => e = .returned (.bool true) ∧ Below w.heap.size w w' := by
  go_enter Try.func3, Try.ntmps3
  go_wp2_with (first | (go_at_call 11; refine (ht.out _).mono ?_; rintro e w1 ⟨rfl, hb1⟩) | (go_at_call 21; refine (hr.out _).mono ?_; rintro e w2 ⟨rfl, hb2⟩) | go_in)
  go_ret
  exact ⟨rfl, hb1.trans (hb2.mono hb1.size)⟩

theorem walk (n : Int) (w : World) :
    Calls Try.prog 3 #[.int .i64 n] w fun e w' => e = .returned (.bool true) ∧ Below w.heap.size w w' := by
  by_cases h : n < 1 ∨ 99 < n
  · exact walk_out n h w
  · obtain ⟨s, ht, hr⟩ := both n (by omega) (by omega)
    exact walk_in n s (by omega) (by omega) w ht hr

set_option maxRecDepth 100000 in
theorem lifted (os : Os) (started : os.Started) (H : Type) (enc : TypeId × Value → H) :
    ReturnsInHanded {} Try.checked os 3 .any (Rows.fnFigureOrdinalReadsEveryOrdinalSpec.pre6 enc Try.prog Try.f3 Rows.fnFigureOrdinalReadsEveryOrdinalRow.domain false) (Rows.fnFigureOrdinalReadsEveryOrdinalSpec.post enc Try.prog Try.f3 false true false false) := by
  refine returnsInHanded_of_change (C := Try.checked) own started (by kernel_rfl) Try.func3
    (ChangeSpec.witness6 (enc := enc) (C := Try.checked) false ⟨#[], #[.int .i64 0], []⟩ 8 (by kernel_rfl) (by kernel_rfl) (by kernel_rfl) (by kernel_rfl)) ?_
  intro W base args ds gs before hval0 hW hcnd _
  have hval : ∀ (j : Nat) t v, Try.f3.params[j]? = some t → args[j]? = some v → Value.okWide Try.prog W .any base t v := hval0
  have hW' := hW
  obtain ⟨p, q, hA0, hV, rfl, hfz, hnd⟩ := hW
  have hA : DataW.TrodAll enc Try.prog W 0 (fun _ => true) true Try.f3.params.toList args.toList ds p := hA0
  rw [Try.params3] at hA hval
  obtain ⟨v0, vs0, d0, ds0, p0, q0, hargs, rfl, rfl, h0, r0⟩ := trodAll_cons hA
  obtain ⟨rfl, rfl, rfl⟩ := trodAll_nil r0
  obtain rfl : args = #[v0] := by cases args; simp_all
  obtain ⟨rfl, rfl⟩ := trodVars_none hV
  obtain ⟨a0, rfl, rfl, rfl, w0⟩ := open_int Try.underlying3 (hval 0 3 v0 rfl rfl) h0
  clear hA0 hval0
  refine (walk a0 W).mono fun e W' ⟨he, bel⟩ => ?_
  subst he
  exact ⟨_, rfl, _, _, _, [], _, [], hW', trodAll_mk1 (shut_bool Try.underlying4 _), (trodAll_cons_mk (shut_int Try.underlying3 w0) trodAll_mk0), rfl, bel.frame _, fun h => by cases h⟩

theorem over : Rows.fnFigureOrdinalReadsEveryOrdinalRow.holds Try.pinned (OpenSpec.ofChange Rows.fnFigureOrdinalReadsEveryOrdinalSpec) :=
  OpenClaim.holds_of_wide 3 Try.f3 rfl rfl rfl rfl rfl rfl rfl ⟨rfl, rfl, rfl, rfl, rfl⟩ rfl rfl rfl rfl rfl (by kernel_rfl) Try.func3 (by kernel_rfl)
    (of_decide_eq_true (by kernel_rfl)) (by unfold Func.isWrapper; first | (rw [if_pos (by decide +kernel)]; kernel_rfl) | (rw [if_neg (by decide +kernel)]; exact ⟨rfl, rfl⟩))
    (fun os started H enc _ => lifted os started H enc)

/-- THE STATEMENT. -/
theorem proved : Rows.FnFigureOrdinalReadsEveryOrdinalSaid := over
end Go.Proofs.Qxb6001229a.fnFigure
