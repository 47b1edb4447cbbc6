/-
  The plain law on 'str', and the walk of 'FnStringTellsRelocsApart' (function 7).
-/
import Derived.Test.Qxb6001427aStrA
import Derived.Lib.SlicesS
import Derived.Deep.RegionWith
namespace Go.Proofs.Qxb6001427a.fnStr
open Go.ChangeShapes Go.WideShapes Go.ChangeAt Go.RowKit

set_option maxHeartbeats 1000000 in
theorem bytes_over (t s r1 r2 : ByteArray) (a : Int) (w : World) (h : 1048576 < t.size + s.size + r1.size + r2.size) :
    Calls Try.prog 17 #[.string t, .string s, .string r1, .string r2, .int .u64 a] w fun e w' => e = .returned (.bool false) ∧ w = w' := by
  go_enter Try.func17, Try.ntmps17
  go_wp2
  all_goals (go_ret; exact ⟨rfl, rfl⟩)

set_option maxHeartbeats 1000000 in
theorem bytes_fits (t s r1 r2 : ByteArray) (a : Int) (w : World) (h : t.size + s.size + r1.size + r2.size ≤ 1048576) :
    Calls Try.prog 17 #[.string t, .string s, .string r1, .string r2, .int .u64 a] w fun e w' => e = .returned (.bool true) ∧ w = w' := by
  go_enter Try.func17, Try.ntmps17
  go_wp2
  go_ret
  exact ⟨rfl, rfl⟩

theorem isEmpty_iff (r : ByteArray) : r.toList.isEmpty = true ↔ r.size = 0 := by
  rw [ByteArray.toList_eq, List.isEmpty_iff, ← List.length_eq_zero_iff]
  rfl
theorem eq_of_list {x y : ByteArray} (h : x.data.toList = y.data.toList) : x = y := ByteArray.ext (Array.toList_inj.mp h)

theorem str_inj (t s r1 r2 : ByteArray) (h : str t r1 s = str t r2 s) : r1 = r2 := by
  have hz := congrArg ByteArray.size h
  cases e1 : r1.toList.isEmpty <;> cases e2 : r2.toList.isEmpty
  · rw [str_some e1, str_some e2] at h
    have hd := congrArg (fun x : ByteArray => x.data.toList) h
    simp only [ByteArray.data_append, Array.toList_append, List.append_assoc] at hd
    have h1 := List.append_cancel_left (List.append_cancel_left hd)
    have h2 := List.append_cancel_right h1
    exact eq_of_list h2
  · rw [str_some e1, str_empty e2] at hz
    simp only [ByteArray.size_append] at hz
    have : (⟨#[32]⟩ : ByteArray).size = 1 := rfl
    omega
  · rw [str_empty e1, str_some e2] at hz
    simp only [ByteArray.size_append] at hz
    have : (⟨#[32]⟩ : ByteArray).size = 1 := rfl
    omega
  · have z1 := (isEmpty_iff r1).1 e1
    have z2 := (isEmpty_iff r2).1 e2
    refine eq_of_list ?_
    have l1 : r1.data.toList = [] := List.length_eq_zero_iff.1 z1
    have l2 : r2.data.toList = [] := List.length_eq_zero_iff.1 z2
    rw [l1, l2]

/-- The reports are equal exactly where the relocations are. -/
theorem tells (t s r1 r2 : ByteArray) : ((str t r1 s).toList == (str t r2 s).toList) = (r1.toList == r2.toList) := by
  rw [Bool.eq_iff_iff, Lib.bytes_beq_iff, Lib.bytes_beq_iff]
  exact ⟨str_inj t s r1 r2, fun h => by rw [h]⟩

set_option maxHeartbeats 1000000 in
theorem tells_out (t s r1 r2 : ByteArray) (a : Int) (w : World) (h : 1048576 < t.size + s.size + r1.size + r2.size) :
    Calls Try.prog 7 #[.string t, .string s, .string r1, .string r2, .int .u64 a] w fun e w' => e = .returned (.bool true) ∧ w = w' := by
  go_enter Try.func7, Try.ntmps7
  go_wp2_with (first | (go_at_call 17; refine (bytes_over t s r1 r2 a _ h).mono ?_; rintro e w' ⟨rfl, rfl⟩))
  go_ret
  exact ⟨rfl, rfl⟩

set_option maxHeartbeats 1000000 in
theorem tells_in (t s r1 r2 S1 S2 : ByteArray) (a : Int) (w : World) (h : t.size + s.size + r1.size + r2.size ≤ 1048576)
    (h1 : Hid (∀ w : World, Calls Try.prog 16 #[.agg #[.string s, .int .u64 a, .string t, .string r1]] w fun e w' => e = .returned (.string S1) ∧ w.alloc (.cells #[.string s, .int .u64 a, .string t, .string r1] 32) = w'))
    (h2 : Hid (∀ w : World, Calls Try.prog 16 #[.agg #[.string s, .int .u64 a, .string t, .string r2]] w fun e w' => e = .returned (.string S2) ∧ w.alloc (.cells #[.string s, .int .u64 a, .string t, .string r2] 32) = w'))
    (hs : (S1.toList == S2.toList) = (r1.toList == r2.toList)) :
    Calls Try.prog 7 #[.string t, .string s, .string r1, .string r2, .int .u64 a] w fun e w' => e = .returned (.bool true) ∧ Below w.heap.size w w' := by
  go_enter Try.func7, Try.ntmps7
  go_wp2_with (first | (go_at_call 17; refine (bytes_fits t s r1 r2 a _ h).mono ?_; rintro e w' ⟨rfl, rfl⟩))
  go_region_with (first | (go_at_call_of 16 (Value.agg #[.string s, .int .u64 a, .string t, .string r1]); refine (h1.out _).mono ?_; rintro e w' ⟨rfl, rfl⟩) | (go_at_call 16; refine (h2.out _).mono ?_; rintro e w' ⟨rfl, rfl⟩))
  all_goals (try go_wp2)
  all_goals go_ret
  all_goals exact ⟨rfl, by repeat (first | exact Below.refl _ _ | refine Below.drew ?_ | refine Below.alloc ?_ (by simp; omega) _ | refine Below.alloc ?_ (by simp) _)⟩
end Go.Proofs.Qxb6001427a.fnStr
