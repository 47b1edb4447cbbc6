/-
  The walk of 'FnNestingCurlyMarksFollowBalance' (function 6).
-/
import Derived.Test.Qxb6001229aNestA
namespace Go.Proofs.Qxb6001229a.fnNesting
open Go.ChangeShapes Go.WideShapes Go.ChangeAt Go.RowKit

theorem bcell {W w1 : World} (hb : Below W.heap.size W w1) : (∀ b o, b < W.heap.size → w1.cell? ⟨b, o, none⟩ = W.cell? ⟨b, o, none⟩) :=
  fun b o h => hb.cell (p := ⟨b, o, none⟩) h

/-- What the walk is told of a slice of bools that came in: every element's cell holds a bool. -/
def IsBools (w : World) (a : Option Addr) (len : Nat) (B : Nat → Bool) : Prop :=
  len = 0 ∨ ∃ b off, a = some ⟨b, off, none⟩ ∧ b < w.heap.size ∧ ∀ i, i < len → w.cell? ⟨b, off + i, none⟩ = some (.bool (B i))

set_option maxHeartbeats 400000 in
/-- A slice that is too long, or a count that is out of range: true at once. -/
theorem walk_out (o : Int) (a : Option Addr) (len cap : Nat) (hm : len ≤ 9223372036854775807) (w : World) (h : 1048576 < len ∨ (len ≤ 1048576 ∧ (o < 0 ∨ 65536 < o))) :
    Calls Try.prog 6 #[.int .i64 o, .slice a len cap] w fun e w' => e = .returned (.bool true) ∧ w' = w := by
  rcases h with h | ⟨h, h1 | h1⟩
  · go_enter Try.func6, Try.ntmps6
    go_wp2
    go_ret
    exact ⟨rfl, rfl⟩
  · go_enter Try.func6, Try.ntmps6
    go_wp2
    go_ret
    exact ⟨rfl, rfl⟩
  · have h2 : 0 ≤ o := by omega
    go_enter Try.func6, Try.ntmps6
    go_wp2
    go_ret
    exact ⟨rfl, rfl⟩

/-- What holds at each round's head: the count o, the balance b, whether it broke. -/
def St (k : Nat) (o b br : Value) : Prop :=
  (∃ z : Int, 0 ≤ z ∧ z ≤ 65536 + k ∧ o = .int .i64 z ∧ b = .int .i64 z ∧ br = .bool false) ∨ (o = .int .i64 (-1) ∧ b = .int .i64 (-1) ∧ br = .bool true)

set_option maxHeartbeats 1000000 in
theorem walk_in (o : Int) (b off len cap : Nat) (B : Nat → Bool) (w : World) (hl : len ≤ 1048576) (h0 : 0 ≤ o) (h1 : o ≤ 65536) (hb : b < w.heap.size) (hc : ∀ i, i < len → w.cell? ⟨b, off + i, none⟩ = some (.bool (B i))) :
    Calls Try.prog 6 #[.int .i64 o, .slice (some ⟨b, off, none⟩) len cap] w fun e w' => e = .returned (.bool true) ∧ Below w.heap.size w w' := by
  go_enter Try.func6, Try.ntmps6
  go_wp2
  go_loopw [5, 6, 7, 8] (fun oo bb br i wr => ∃ k : Nat, k ≤ len ∧ i = .int .i64 k ∧ St k oo bb br ∧ Below w.heap.size w wr) (fun _ _ _ i _ => len - (intOf i).toNat)
  case atStart => exact ⟨0, Nat.zero_le _, rfl, .inl ⟨o, h0, by omega, rfl, rfl, rfl⟩, Below.refl _ _⟩
  case round =>
    obtain ⟨k, hk, rfl, hst, hbel⟩ := hrel
    by_cases hlt : k < len
    · have hck : wr.cell? ⟨b, off + k, none⟩ = some (.bool (B k)) := (hbel.cell (p := ⟨b, off + k, none⟩) hb).trans (hc k hlt)
      have hbw : b < wr.heap.size := Nat.lt_of_lt_of_le hb hbel.size
      clear hc
      generalize B k = t at hck
      rcases hst with ⟨z, hz0, hz1, rfl, rfl, rfl⟩ | ⟨rfl, rfl, rfl⟩
      · cases t
        · rcases (show 1 < z ∨ z = 1 ∨ z = 0 by omega) with hz | rfl | rfl
          · go_wp2_with (first | (go_at_call 15; refine (closes_any z 8221 (z - 1) 0 _ (.inr (.inr (.inl ⟨hz, by omega, rfl, rfl, rfl⟩)))).mono ?_; rintro e w1 ⟨rfl, hb1⟩; have hc1 := bcell hb1) | go_in)
            go_roundw
            case rel => exact ⟨k + 1, by omega, by go_num, .inl ⟨z - 1, by omega, by omega, rfl, rfl, rfl⟩, hbel.trans (hb1.mono hbel.size)⟩
            case measure => simp [intOf]; omega
          · go_wp2_with (first | (go_at_call 15; refine (closes_any 1 8221 0 1 _ (.inr (.inr (.inr (.inl ⟨rfl, rfl, rfl, rfl⟩))))).mono ?_; rintro e w1 ⟨rfl, hb1⟩; have hc1 := bcell hb1) | go_in)
            go_roundw
            case rel => exact ⟨k + 1, by omega, by go_num, .inl ⟨0, by omega, by omega, rfl, rfl, rfl⟩, hbel.trans (hb1.mono hbel.size)⟩
            case measure => simp [intOf]; omega
          · go_wp2_with (first | (go_at_call 15; refine (closes_any 0 8221 (-1) 2 _ (.inr (.inr (.inr (.inr ⟨rfl, rfl, rfl, rfl⟩))))).mono ?_; rintro e w1 ⟨rfl, hb1⟩; have hc1 := bcell hb1) | go_in)
            go_roundw
            case rel => exact ⟨k + 1, by omega, by go_num, .inr ⟨rfl, rfl, rfl⟩, hbel.trans (hb1.mono hbel.size)⟩
            case measure => simp [intOf]; omega
        · go_wp2_with (first | (go_at_call 15; refine (closes_any z 8220 (z + 1) 2 _ (.inr (.inl ⟨hz0, by omega, rfl, rfl, rfl⟩))).mono ?_; rintro e w1 ⟨rfl, hb1⟩; have hc1 := bcell hb1) | go_in)
          go_roundw
          case rel => exact ⟨k + 1, by omega, by go_num, .inl ⟨z + 1, by omega, by omega, rfl, rfl, rfl⟩, hbel.trans (hb1.mono hbel.size)⟩
          case measure => simp [intOf]; omega
      · cases t
        all_goals
          go_wp2_with (first | (go_at_call 15; refine (closes_any (-1) _ (-1) 2 _ (.inl ⟨rfl, rfl, rfl⟩)).mono ?_; rintro e w1 ⟨rfl, hb1⟩; have hc1 := bcell hb1) | go_in)
          go_roundw
          case rel => exact ⟨k + 1, by omega, by go_num, .inr ⟨rfl, rfl, rfl⟩, hbel.trans (hb1.mono hbel.size)⟩
          case measure => simp [intOf]; omega
    · rcases hst with ⟨z, hz0, hz1, rfl, rfl, rfl⟩ | ⟨rfl, rfl, rfl⟩
      all_goals
        go_wp2
        go_ret
        exact ⟨rfl, hbel⟩
end Go.Proofs.Qxb6001229a.fnNesting
