/-
  The walk of 'FnIndexAnswersExactly' (function 5).
-/
import Derived.Test.Qxb6001427aIdxA
namespace Go.Proofs.Qxb6001427a.fnIdx
open Go.ChangeShapes Go.WideShapes Go.ChangeAt Go.RowKit

theorem bcell {W w1 : World} (hb : Below W.heap.size W w1) : (∀ b o, b < W.heap.size → w1.cell? ⟨b, o, none⟩ = W.cell? ⟨b, o, none⟩) :=
  fun b o h => hb.cell (p := ⟨b, o, none⟩) h

set_option maxHeartbeats 400000 in
theorem exact_out (a : Option Addr) (n c : Nat) (x : Int) (w : World) (h : 65536 < n) :
    Calls Try.prog 5 #[.slice a n c, .int .u64 x] w fun e w' => e = .returned (.bool true) ∧ w = w' := by
  by_cases h2 : 1048576 < n
  · go_enter Try.func5, Try.ntmps5
    go_wp2
    go_ret
    exact ⟨rfl, rfl⟩
  · go_enter Try.func5, Try.ntmps5
    go_wp2
    go_ret
    exact ⟨rfl, rfl⟩

set_option maxHeartbeats 400000 in
theorem exact_zero (a : Option Addr) (c : Nat) (x : Int) (w : World) :
    Calls Try.prog 5 #[.slice a 0 c, .int .u64 x] w fun e w' => e = .returned (.bool true) ∧ Below w.heap.size w w' := by
  go_enter Try.func5, Try.ntmps5
  go_wp2_with (first | (go_at_call 10; refine (listing_zero a c _).mono ?_; rintro e w1 ⟨rfl, hb1, hs1⟩) | (go_at_call 14; go_in))
  refine (index_any w.heap.size 0 0 [] x w1 (by omega) hs1 (fun j hj => absurd hj (Nat.not_lt_zero _))).mono ?_
  rintro e w2 ⟨r, rfl, hF, hb2⟩
  have hb : Below w.heap.size w w2 := hb1.trans (hb2.mono hb1.size)
  rcases hF with ⟨rfl, hne⟩ | ⟨k, rfl, hk, _⟩
  · clear hne
    go_wp2
    refine wp_loop_rounds 1 ?_
    rw [rounds_succ]
    go_wp2
    go_ret
    exact ⟨rfl, hb⟩
  · omega

set_option maxHeartbeats 1000000 in
theorem exact_in (b off n c : Nat) (zs : List Int) (x : Int) (w : World) (hn : n ≤ 65536) (hb : b < w.heap.size) (hc : ∀ j, j < n → w.cell? ⟨b, off + j, none⟩ = some (.int .u64 (zs.getD j 0))) :
    Calls Try.prog 5 #[.slice (some ⟨b, off, none⟩) n c, .int .u64 x] w fun e w' => e = .returned (.bool true) ∧ Below w.heap.size w w' := by
  have HC : Hid (∀ j, j < n → w.cell? ⟨b, off + j, none⟩ = some (.int .u64 (zs.getD j 0))) := hc
  clear hc
  go_enter Try.func5, Try.ntmps5
  go_wp2_with (first | (go_at_call 10; refine (listing_any b off n c zs _ hn hb HC.out).mono ?_; rintro e w1 ⟨rfl, hb1, hs1, hE⟩; have HE : Hid (∀ j, j < n → Elem w1 w.heap.size j (zs.getD j 0)) := hE; clear hE) | (go_at_call 14; go_in))
  refine (index_any w.heap.size n n zs x w1 hn hs1 HE.out).mono ?_
  rintro e w2 ⟨r, rfl, hF, hb2⟩
  have hbel : Below w.heap.size w w2 := hb1.trans (hb2.mono hb1.size)
  clear hb1 hb2 hs1 HE
  rcases hF with ⟨rfl, hne⟩ | ⟨k, rfl, hk, he, _⟩
  · have HN : Hid (∀ j, j < n → zs.getD j 0 ≠ x) := hne
    clear hne
    go_wp2
    go_loop [7] (fun i => ∃ k : Nat, k ≤ n ∧ i = .int .i64 k) (fun i => n - (intOf i).toNat)
    case atStart => exact ⟨0, Nat.zero_le _, rfl⟩
    case round =>
      obtain ⟨k, hk, rfl⟩ := hrel
      by_cases hlt : k < n
      · have hck : w2.cell? ⟨b, off + k, none⟩ = some (.int .u64 (zs.getD k 0)) := (hbel.cell (p := ⟨b, off + k, none⟩) hb).trans (HC.out k hlt)
        have hnk := HN.out k hlt
        generalize zs.getD k 0 = z at hck hnk
        have hz : (z == x) = false := by simpa using hnk
        clear hnk
        go_wp2
        go_round
        case rel => exact ⟨k + 1, by omega, by go_num⟩
        case measure => simp [intOf]; omega
      · go_wp2
        go_ret
        exact ⟨rfl, hbel⟩
  · have hck : w2.cell? ⟨b, off + k, none⟩ = some (.int .u64 (zs.getD k 0)) := (hbel.cell (p := ⟨b, off + k, none⟩) hb).trans (HC.out k hk)
    rw [he] at hck
    clear he
    go_wp2
    go_ret
    exact ⟨rfl, hbel⟩
end Go.Proofs.Qxb6001427a.fnIdx
