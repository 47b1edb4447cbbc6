/-
  The contract of '(Instruction).String' (function 16).
-/
import Derived.Test.Qxb6001427aRows
import Derived.WalkKit
import Derived.ProofKit
import Derived.Below
import Derived.WalkSpells
namespace Go.Proofs.Qxb6001427a.fnStr
open Go.ChangeShapes Go.WideShapes Go.ChangeAt Go.RowKit

/-- What String reports: text, the relocation if there is one, the source. -/
def str (t r s : ByteArray) : ByteArray := if r.toList.isEmpty then t ++ ⟨#[32, 97, 116, 32]⟩ ++ s else t ++ ⟨#[32]⟩ ++ r ++ ⟨#[32, 97, 116, 32]⟩ ++ s
theorem str_empty {t r s : ByteArray} (h : r.toList.isEmpty = true) : str t r s = t ++ ⟨#[32, 97, 116, 32]⟩ ++ s := by unfold str; rw [if_pos h]
theorem str_some {t r s : ByteArray} (h : r.toList.isEmpty = false) : str t r s = t ++ ⟨#[32]⟩ ++ r ++ ⟨#[32, 97, 116, 32]⟩ ++ s := by unfold str; rw [if_neg (by rw [h]; decide)]
theorem ret_str {a b : ByteArray} (h : a = b) : Ending.returned (.string a) = .returned (.string b) := by rw [h]

set_option maxHeartbeats 400000 in
theorem string_any (t r s : ByteArray) (a : Int) (w : World) (ht : t.size ≤ 1048576) (hr : r.size ≤ 1048576) (hs : s.size ≤ 1048576) :
    Calls Try.prog 16 #[.agg #[.string s, .int .u64 a, .string t, .string r]] w fun e w' => e = .returned (.string (str t r s)) ∧ w.alloc (.cells #[.string s, .int .u64 a, .string t, .string r] 32) = w' := by
  by_cases he : r.toList.isEmpty = true
  · have HE := str_empty (t := t) (s := s) he
    have HE' : Hid (str t r s = t ++ ⟨#[32, 97, 116, 32]⟩ ++ s) := HE
    clear HE
    go_enter Try.func16, Try.ntmps16
    go_wp2
    go_ret
    exact ⟨ret_str HE'.out.symm, rfl⟩
  · have he' : r.toList.isEmpty = false := by simpa using he
    have HE' : Hid (str t r s = t ++ ⟨#[32]⟩ ++ r ++ ⟨#[32, 97, 116, 32]⟩ ++ s) := str_some he'
    clear he
    go_enter Try.func16, Try.ntmps16
    go_wp2
    go_ret
    exact ⟨ret_str HE'.out.symm, rfl⟩
end Go.Proofs.Qxb6001427a.fnStr
