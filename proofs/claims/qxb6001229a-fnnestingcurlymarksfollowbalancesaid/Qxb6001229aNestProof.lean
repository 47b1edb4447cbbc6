/-
  'Rows.FnNestingCurlyMarksFollowBalanceSaid', proved: the walk of the empty slice, the walk of every slice, the row's step (after the shell that the kit's tool writes for a slice of integers, turned to a slice of bools by 'open_bools').
-/
import Derived.Test.Qxb6001229aNestB
import Derived.OpenShut
import Derived.ShutString
import Derived.ChangeOld
import Derived.Deep.Grids
namespace Go.Proofs.Qxb6001229a.fnNesting
open Go.ChangeShapes Go.WideShapes Go.ChangeAt Go.RowKit
set_option linter.unusedVariables false

theorem own : ownKnob Try.prog.godebug = none := by kernel_rfl
theorem laidOut : laidOutB Try.prog = true := by kernel_rfl

set_option maxHeartbeats 400000 in
theorem walk_empty (o : Int) (a : Option Addr) (cap : Nat) (w : World) (h0 : 0 ≤ o) (h1 : o ≤ 65536) :
    Calls Try.prog 6 #[.int .i64 o, .slice a 0 cap] w fun e w' => e = .returned (.bool true) ∧ w' = w := by
  go_enter Try.func6, Try.ntmps6
  go_wp2
  go_loop [5, 6, 7, 8] (fun _ _ _ i => i = .int .i64 0) (fun _ _ _ _ => 0)
  case atStart => rfl
  case round =>
    subst hrel
    go_wp2
    go_ret
    exact ⟨rfl, rfl⟩

theorem walk (o : Int) (a : Option Addr) (len cap : Nat) (B : Nat → Bool) (hm : len ≤ 9223372036854775807) (w : World) (hB : IsBools w a len B) :
    Calls Try.prog 6 #[.int .i64 o, .slice a len cap] w fun e w' => e = .returned (.bool true) ∧ Below w.heap.size w w' := by
  by_cases hl : len ≤ 1048576
  · by_cases ho : o < 0 ∨ 65536 < o
    · refine (walk_out o a len cap hm w (.inr ⟨hl, ho⟩)).mono ?_
      rintro e w' ⟨he, hw⟩
      exact ⟨he, by rw [hw]; exact Below.refl _ _⟩
    · rcases hB with h | ⟨b, off, rfl, hb, hc⟩
      · subst h
        refine (walk_empty o a cap w (by omega) (by omega)).mono ?_
        rintro e w' ⟨he, hw⟩
        exact ⟨he, by rw [hw]; exact Below.refl _ _⟩
      · exact walk_in o b off len cap B w hl (by omega) (by omega) hb hc
  · refine (walk_out o a len cap hm w (.inl (by omega))).mono ?_
    rintro e w' ⟨he, hw⟩
    exact ⟨he, by rw [hw]; exact Below.refl _ _⟩

set_option maxRecDepth 100000 in
theorem lifted (os : Os) (started : os.Started) (H : Type) (enc : TypeId × Value → H) :
    ReturnsInHanded {} Try.checked os 6 .any (Rows.fnNestingCurlyMarksFollowBalanceSpec.pre6 enc Try.prog Try.f6 Rows.fnNestingCurlyMarksFollowBalanceRow.domain false) (Rows.fnNestingCurlyMarksFollowBalanceSpec.post enc Try.prog Try.f6 false true false false) := by
  refine returnsInHanded_of_change (C := Try.checked) own started (by kernel_rfl) Try.func6
    (ChangeSpec.witness6 (enc := enc) (C := Try.checked) false ⟨#[], #[.int .i64 0, .slice none 0 0], []⟩ 8 (by kernel_rfl) (by kernel_rfl) (by kernel_rfl) (by kernel_rfl)) ?_
  intro W base args ds gs before hval0 hW hcnd _
  have hval : ∀ (j : Nat) t v, Try.f6.params[j]? = some t → args[j]? = some v → Value.okWide Try.prog W .any base t v := hval0
  have hW' := hW
  obtain ⟨p, q, hA0, hV, rfl, hfz, hnd⟩ := hW
  have hA : DataW.TrodAll enc Try.prog W 0 (fun _ => true) true Try.f6.params.toList args.toList ds p := hA0
  rw [Try.params6] at hA hval
  obtain ⟨v0, vs0, d0, ds0, p0, q0, hargs, rfl, rfl, h0, r0⟩ := trodAll_cons hA
  obtain ⟨v1, vs1, d1, ds1, p1, q1, rfl, rfl, rfl, h1, r1⟩ := trodAll_cons r0
  obtain ⟨rfl, rfl, rfl⟩ := trodAll_nil r1
  obtain rfl : args = #[v0, v1] := by cases args; simp_all
  obtain ⟨rfl, rfl⟩ := trodVars_none hV
  obtain ⟨a0, rfl, rfl, rfl, w0⟩ := open_int Try.underlying3 (hval 0 3 v0 rfl rfl) h0
  obtain ⟨a1, len1, cap1, rfl⟩ := okWide_slice Try.underlying27 (hval 1 27 v1 rfl rfl)
  have k1 := h1
  have lt1 : ∀ x ∈ p1, x.block < W.heap.size := by obtain ⟨m, hm⟩ := k1; exact DataW.trod_lt m _ _ _ hm
  obtain ⟨B, hm1, w1⟩ : ∃ B : Nat → Bool, len1 ≤ 9223372036854775807 ∧ IsBools W a1 len1 B := by
    obtain ⟨fuel, hf⟩ := h1
    rcases Go.Deep.open_bools Try.underlying27 Try.underlying4 (by kernel_rfl) hf with ⟨hcs, _⟩ | ⟨x, l, c, B, hcs, _, hl, hm, hx, hcell⟩
    · simp [Value.cells] at hcs
      obtain ⟨rfl, rfl, rfl⟩ := hcs
      exact ⟨fun _ => false, by omega, .inl rfl⟩
    · simp [Value.cells] at hcs
      obtain ⟨rfl, rfl, rfl⟩ := hcs
      unfold maxLen at hm
      refine ⟨B, by omega, ?_⟩
      by_cases hz : len1 = 0
      · exact .inl hz
      · obtain ⟨b, off, spot⟩ := x
        have hspot : spot = none := by simpa [Addr.add] using World.cell?_spot (hcell 0 (by omega))
        subst hspot
        refine .inr ⟨b, off, rfl, ?_, fun i hi => by rw [← add_plain]; exact hcell i (by omega)⟩
        simp only [Prod.mk.injEq] at hx
        refine lt1 (.cell b off) ?_
        rw [hx.2]
        exact MemPlace.mem_row.2 ⟨0, by omega, rfl⟩
  clear hA0 hval0
  refine (walk a0 a1 len1 cap1 B hm1 W w1).mono fun e W' ⟨he, bel⟩ => ?_
  subst he
  exact ⟨_, rfl, _, _, _, [], _, [], hW', trodAll_mk1 (shut_bool Try.underlying4 _), (trodAll_cons_mk (shut_int Try.underlying3 w0) (trodAll_cons_mk (Below.trod laidOut (by kernel_rfl) (of_decide_eq_true (by kernel_rfl)) k1 bel lt1) trodAll_mk0)), rfl, bel.frame _, fun h => by cases h⟩

theorem over : Rows.fnNestingCurlyMarksFollowBalanceRow.holds Try.pinned (OpenSpec.ofChange Rows.fnNestingCurlyMarksFollowBalanceSpec) :=
  OpenClaim.holds_of_wide 6 Try.f6 rfl rfl rfl rfl rfl rfl rfl ⟨rfl, rfl, rfl, rfl, rfl⟩ rfl rfl rfl rfl rfl (by kernel_rfl) Try.func6 (by kernel_rfl)
    (of_decide_eq_true (by kernel_rfl)) (by unfold Func.isWrapper; first | (rw [if_pos (by decide +kernel)]; kernel_rfl) | (rw [if_neg (by decide +kernel)]; exact ⟨rfl, rfl⟩))
    (fun os started H enc _ => lifted os started H enc)

/-- THE STATEMENT. -/
theorem proved : Rows.FnNestingCurlyMarksFollowBalanceSaid := over
end Go.Proofs.Qxb6001229a.fnNesting
