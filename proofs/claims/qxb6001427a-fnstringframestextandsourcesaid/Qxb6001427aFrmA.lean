/-
  The contracts of 'hasPrefix' (function 19) and 'hasSuffix' (20), and the walk of 'FnStringFramesTextAndSource' (8).
-/
import Derived.Test.Qxb6001427aStrA
import Derived.Deep.QuietTactic
import Derived.BigQuiet
import Derived.WalkSmall
namespace Go.Proofs.Qxb6001427a.fnFrm
open Go.ChangeShapes Go.WideShapes Go.ChangeAt Go.RowKit
open Go.Proofs.Qxb6001427a.fnStr

set_option maxHeartbeats 400000 in
/-- Where p stands at the head of s, hasPrefix says yes. -/
theorem prefix_yes (s p : ByteArray) (w : World) (hs : s.size ≤ 10000000) (hp : p.size ≤ s.size) (he : ∀ (j : Nat) (h : j < s.size) (h' : j < p.size), s[j].toNat = p[j].toNat) :
    Calls Try.prog 19 #[.string s, .string p] w fun e w' => e = .returned (.bool true) ∧ Below w.heap.size w w' := by
  have HE : Hid (∀ (j : Nat) (h : j < s.size) (h' : j < p.size), s[j].toNat = p[j].toNat) := he
  clear he
  go_enter Try.func19, Try.ntmps19
  go_wp2
  go_loopw [5] (fun i wr => ∃ k : Nat, k ≤ p.size ∧ i = .int .i64 k ∧ Below w.heap.size w wr) (fun i _ => p.size - (intOf i).toNat)
  case atStart => exact ⟨0, Nat.zero_le _, rfl, Below.refl _ _⟩
  case round =>
    obtain ⟨k, hk, rfl, hbel⟩ := hrel
    by_cases hlt : k < p.size
    · have hks : k < s.size := by omega
      have hek := HE.out k hks hlt
      have hne : ((s[k].toNat : Int) != (p[k].toNat : Int)) = false := by simp [hek]
      clear hek
      go_wp2
      go_quiet (fail)
      go_wp2
      go_roundw
      case rel => exact ⟨k + 1, by omega, by go_num, below_drewN hbel _⟩
      case measure => simp [intOf]; omega
    · go_wp2
      go_ret
      exact ⟨rfl, hbel⟩

set_option maxHeartbeats 400000 in
/-- Where p stands at the end of s, behind d bytes, hasSuffix says yes. -/
theorem suffix_yes (s p : ByteArray) (d : Nat) (w : World) (hs : s.size ≤ 10000000) (hd : s.size = d + p.size) (he : ∀ (j : Nat) (h : d + j < s.size) (h' : j < p.size), s[d + j].toNat = p[j].toNat) :
    Calls Try.prog 20 #[.string s, .string p] w fun e w' => e = .returned (.bool true) ∧ Below w.heap.size w w' := by
  have HE : Hid (∀ (j : Nat) (h : d + j < s.size) (h' : j < p.size), s[d + j].toNat = p[j].toNat) := he
  clear he
  have hps : p.size ≤ s.size := by omega
  have HD : Hid (s.size = d + p.size) := hd
  have hdi : (s.size : Int) - (p.size : Int) = (d : Int) := by omega
  have hd1 : d ≤ s.size := by omega
  clear hd
  go_enter Try.func20, Try.ntmps20
  go_wp2
  go_loopw [6] (fun i wr => ∃ k : Nat, k ≤ p.size ∧ i = .int .i64 k ∧ Below w.heap.size w wr) (fun i _ => p.size - (intOf i).toNat)
  case atStart => exact ⟨0, Nat.zero_le _, rfl, Below.refl _ _⟩
  case round =>
    obtain ⟨k, hk, rfl, hbel⟩ := hrel
    by_cases hlt : k < p.size
    · have hks : d + k < s.size := by have := HD.out; omega
      have hek := HE.out k hks hlt
      have hi0 : 0 ≤ (d : Int) + (k : Int) := by omega
      have hi1 : (d : Int) + (k : Int) < (s.size : Int) := by omega
      have hi2 : (k : Int) < (p.size : Int) := by omega
      have hw : IntKind.i64.wrap ((d : Int) + (k : Int)) = (d : Int) + (k : Int) := IntWalk.i64_in _ ⟨by omega, by omega⟩
      have hne : ((s[d + k].toNat : Int) != (p[k].toNat : Int)) = false := by simp [hek]
      clear hek
      go_wp2
      go_region
      all_goals go_wp2
      go_roundw
      case rel => exact ⟨k + 1, by omega, by go_num, hbel.drew⟩
      case measure => simp [intOf]; omega
    · go_wp2
      go_ret
      exact ⟨rfl, hbel⟩

/-- The tail of a report. -/
abbrev tail (s : ByteArray) : ByteArray := ⟨#[32, 97, 116, 32]⟩ ++ s

theorem get_list (x : ByteArray) (j : Nat) (h : j < x.size) : x[j] = x.data.toList[j]'h := rfl

/-- A report opens with its text and closes with its tail. -/
theorem str_frames (t r s : ByteArray) : ∃ M : List UInt8, (str t r s).data.toList = t.data.toList ++ M ++ (tail s).data.toList := by
  cases e : r.toList.isEmpty
  · rw [str_some e]
    exact ⟨[32] ++ r.data.toList, by simp [ByteArray.data_append]⟩
  · rw [str_empty e]
    exact ⟨[], by simp [ByteArray.data_append]⟩

theorem str_head (t r s : ByteArray) (j : Nat) (h : j < (str t r s).size) (h' : j < t.size) : (str t r s)[j].toNat = t[j].toNat := by
  obtain ⟨M, hM⟩ := str_frames t r s
  have e : (str t r s)[j] = t[j] := by
    rw [get_list, get_list]
    simp only [hM, List.append_assoc]
    exact List.getElem_append_left h'
  rw [e]

theorem str_size (t r s : ByteArray) : t.size + (tail s).size ≤ (str t r s).size := by
  obtain ⟨M, hM⟩ := str_frames t r s
  have e := congrArg List.length hM
  simp only [List.length_append] at e
  have e1 : (str t r s).data.toList.length = (str t r s).size := rfl
  have e2 : t.data.toList.length = t.size := rfl
  have e3 : (tail s).data.toList.length = (tail s).size := rfl
  omega

theorem str_tail (t r s : ByteArray) (d j : Nat) (hd : (str t r s).size = d + (tail s).size) (h : d + j < (str t r s).size) (h' : j < (tail s).size) : (str t r s)[d + j].toNat = (tail s)[j].toNat := by
  obtain ⟨M, hM⟩ := str_frames t r s
  have e0 := congrArg List.length hM
  rw [List.length_append] at e0
  have e1 : (str t r s).data.toList.length = (str t r s).size := rfl
  have e3 : (tail s).data.toList.length = (tail s).size := rfl
  have ed : (t.data.toList ++ M).length = d := by omega
  have e : (str t r s)[d + j] = (tail s)[j] := by
    rw [get_list, get_list]
    simp only [hM]
    rw [List.getElem_append_right (by omega)]
    simp only [ed, Nat.add_sub_cancel_left]
  rw [e]

theorem str_le (t r s : ByteArray) : (str t r s).size ≤ t.size + r.size + s.size + 5 := by
  have h4 : (⟨#[32, 97, 116, 32]⟩ : ByteArray).size = 4 := rfl
  have h1 : (⟨#[32]⟩ : ByteArray).size = 1 := rfl
  cases e : r.toList.isEmpty
  · rw [str_some e]
    simp only [ByteArray.size_append]
    omega
  · rw [str_empty e]
    simp only [ByteArray.size_append]
    omega
end Go.Proofs.Qxb6001427a.fnFrm
