/-
  The walk of 'FnStringFramesTextAndSource' (function 8).
-/
import Derived.Test.Qxb6001427aFrmA
namespace Go.Proofs.Qxb6001427a.fnFrm
open Go.ChangeShapes Go.WideShapes Go.ChangeAt Go.RowKit
open Go.Proofs.Qxb6001427a.fnStr

set_option maxHeartbeats 1000000 in
theorem bytes_over (t s r : ByteArray) (a : Int) (w : World) (h : 1048576 < t.size + s.size + r.size) :
    Calls Try.prog 18 #[.string t, .string s, .string r, .int .u64 a] w fun e w' => e = .returned (.bool false) ∧ w = w' := by
  go_enter Try.func18, Try.ntmps18
  go_wp2
  all_goals (go_ret; exact ⟨rfl, rfl⟩)

set_option maxHeartbeats 1000000 in
theorem bytes_fits (t s r : ByteArray) (a : Int) (w : World) (h : t.size + s.size + r.size ≤ 1048576) :
    Calls Try.prog 18 #[.string t, .string s, .string r, .int .u64 a] w fun e w' => e = .returned (.bool true) ∧ w = w' := by
  go_enter Try.func18, Try.ntmps18
  go_wp2
  go_ret
  exact ⟨rfl, rfl⟩

set_option maxHeartbeats 1000000 in
theorem frames_out (t s r : ByteArray) (a : Int) (w : World) (h : 1048576 < t.size + s.size + r.size) :
    Calls Try.prog 8 #[.string t, .string s, .string r, .int .u64 a] w fun e w' => e = .returned (.bool true) ∧ w = w' := by
  go_enter Try.func8, Try.ntmps8
  go_wp2_with (first | (go_at_call 18; refine (bytes_over t s r a _ h).mono ?_; rintro e w' ⟨rfl, rfl⟩))
  go_ret
  exact ⟨rfl, rfl⟩

set_option maxHeartbeats 1000000 in
theorem frames_in (t s r S : ByteArray) (a : Int) (w : World) (h : t.size + s.size + r.size ≤ 1048576) (hS : S.size ≤ 10000000) (hlen : (t.size : Int) + (4 + (s.size : Int)) ≤ (S.size : Int))
    (h1 : Hid (∀ w : World, Calls Try.prog 16 #[.agg #[.string s, .int .u64 a, .string t, .string r]] w fun e w' => e = .returned (.string S) ∧ w.alloc (.cells #[.string s, .int .u64 a, .string t, .string r] 32) = w'))
    (h2 : Hid (∀ w : World, Calls Try.prog 19 #[.string S, .string t] w fun e w' => e = .returned (.bool true) ∧ Below w.heap.size w w'))
    (h3 : Hid (∀ w : World, Calls Try.prog 20 #[.string S, .string (tail s)] w fun e w' => e = .returned (.bool true) ∧ Below w.heap.size w w')) :
    Calls Try.prog 8 #[.string t, .string s, .string r, .int .u64 a] w fun e w' => e = .returned (.bool true) ∧ Below w.heap.size w w' := by
  go_enter Try.func8, Try.ntmps8
  go_wp2_with (first | (go_at_call 18; refine (bytes_fits t s r a _ h).mono ?_; rintro e w' ⟨rfl, rfl⟩) | (go_at_call 16; refine (h1.out _).mono ?_; rintro e w' ⟨rfl, rfl⟩) | (go_at_call 19; refine (h2.out _).mono ?_; rintro e w3 ⟨rfl, hb3⟩) | (go_at_call 20; refine (h3.out _).mono ?_; rintro e w4 ⟨rfl, hb4⟩))
  go_ret
  have hz := hb3.size
  simp at hz
  exact ⟨rfl, (((Below.refl _ _).alloc (Nat.le_refl _) _).alloc (by simp) _).trans ((hb3.mono (by simp; omega)).trans (hb4.mono (by omega)))⟩
end Go.Proofs.Qxb6001427a.fnFrm
