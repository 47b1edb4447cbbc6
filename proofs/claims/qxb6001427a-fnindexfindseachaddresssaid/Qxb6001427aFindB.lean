/-
  The walk of 'FnIndexFindsEachAddress' (function 3).
-/
import Derived.Test.Qxb6001427aFindA
namespace Go.Proofs.Qxb6001427a.fnFind
open Go.ChangeShapes Go.WideShapes Go.ChangeAt Go.RowKit
open Go.Proofs.Qxb6001427a.fnIdx

set_option maxHeartbeats 400000 in
theorem find_out (a : Option Addr) (n c : Nat) (i : Int) (w : World) (h : 65536 < n ∨ (n ≤ 65536 ∧ (i < 0 ∨ (n : Int) ≤ i))) :
    Calls Try.prog 3 #[.slice a n c, .int .i64 i] w fun e w' => e = .returned (.bool true) ∧ w = w' := by
  rcases h with h | ⟨h, h1 | h1⟩
  · by_cases h2 : 1048576 < n
    · go_enter Try.func3, Try.ntmps3
      go_wp2
      go_ret
      exact ⟨rfl, rfl⟩
    · go_enter Try.func3, Try.ntmps3
      go_wp2
      go_ret
      exact ⟨rfl, rfl⟩
  · go_enter Try.func3, Try.ntmps3
    go_wp2
    go_ret
    exact ⟨rfl, rfl⟩
  · have h2 : 0 ≤ i := by omega
    go_enter Try.func3, Try.ntmps3
    go_wp2
    go_ret
    exact ⟨rfl, rfl⟩

theorem incr_lt (zs : List Int) (n : Nat) (h : ∀ j, j + 1 < n → zs.getD j 0 < zs.getD (j + 1) 0) (k : Nat) : ∀ d, k + d + 1 < n → zs.getD k 0 < zs.getD (k + d + 1) 0
  | 0, hd => h k hd
  | d + 1, hd => by
    have h1 := incr_lt zs n h k d (by omega)
    have h2 := h (k + d + 1) (by omega)
    have e : k + (d + 1) + 1 = k + d + 1 + 1 := by omega
    rw [e]
    omega

/-- In strict order equal addresses stand at one index. -/
theorem incr_eq (zs : List Int) (n k i : Nat) (h : ∀ j, j + 1 < n → zs.getD j 0 < zs.getD (j + 1) 0) (hk : k ≤ i) (hi : i < n) (he : zs.getD k 0 = zs.getD i 0) : k = i := by
  by_cases e : k = i
  · exact e
  · obtain ⟨d, rfl⟩ : ∃ d, i = k + d + 1 := ⟨i - k - 1, by omega⟩
    have := incr_lt zs n h k d hi
    omega

set_option maxHeartbeats 1000000 in
theorem find_in (b off n c : Nat) (zs : List Int) (i : Nat) (w : World) (hn : n ≤ 65536) (hi : i < n) (hb : b < w.heap.size) (hc : ∀ j, j < n → w.cell? ⟨b, off + j, none⟩ = some (.int .u64 (zs.getD j 0))) :
    Calls Try.prog 3 #[.slice (some ⟨b, off, none⟩) n c, .int .i64 i] w fun e w' => e = .returned (.bool true) ∧ Below w.heap.size w w' := by
  have HC : Hid (∀ j, j < n → w.cell? ⟨b, off + j, none⟩ = some (.int .u64 (zs.getD j 0))) := hc
  clear hc
  generalize hx : zs.getD i 0 = x
  have HX : Hid (zs.getD i 0 = x) := hx
  clear hx
  have ci : ∀ w' : World, Below w.heap.size w w' → w'.cell? ⟨b, off + i, none⟩ = some (.int .u64 x) := fun w' h => by rw [← HX.out]; exact (h.cell (p := ⟨b, off + i, none⟩) hb).trans (HC.out i hi)
  have CI : Hid (∀ w' : World, Below w.heap.size w w' → w'.cell? ⟨b, off + i, none⟩ = some (.int .u64 x)) := ci
  clear ci
  have hii : (i : Int) < (n : Int) := by omega
  go_enter Try.func3, Try.ntmps3
  go_wp2_with (first | (go_at_call 10; refine (listing_any b off n c zs _ hn hb HC.out).mono ?_; rintro e w1 ⟨rfl, hb1, hs1, hE⟩; have HE : Hid (∀ j, j < n → Elem w1 w.heap.size j (zs.getD j 0)) := hE; clear hE; have ci1 := CI.out w1 hb1) | (go_at_call 9; go_in))
  refine (index_any w.heap.size n n zs x w1 hn hs1 HE.out).mono ?_
  rintro e w2 ⟨r, rfl, hF, hb2⟩
  have hbel : Below w.heap.size w w2 := hb1.trans (hb2.mono hb1.size)
  clear hb1 hb2 hs1 HE ci1
  rcases hF with ⟨rfl, hne⟩ | ⟨k, rfl, hk, he, hne⟩
  · exact absurd HX.out (hne i hi)
  · have hki : k ≤ i := by
      by_cases h : i < k
      · exact absurd HX.out (hne i h)
      · omega
    have HN : Hid (∀ j, j < k → zs.getD j 0 ≠ x) := hne
    have HK : Hid (zs.getD k 0 = x) := he
    have ck : w2.cell? ⟨b, off + k, none⟩ = some (.int .u64 x) := by rw [← HK.out]; exact (hbel.cell (p := ⟨b, off + k, none⟩) hb).trans (HC.out k hk)
    have ci2 := CI.out w2 hbel
    clear hne he
    have hkn : (k : Int) < (n : Int) := by omega
    have hki' : (k : Int) ≤ (i : Int) := by omega
    go_wp2
    go_quiet (fail)
    go_wp2
    have hbel2 := below_drewN hbel nq
    clear ck ci2 hbel
    go_loopw [7] (fun t wr => ∃ j : Nat, j ≤ k ∧ t = .int .i64 j ∧ Below w.heap.size w wr) (fun t _ => k - (intOf t).toNat)
    case atStart => exact ⟨0, Nat.zero_le _, rfl, hbel2⟩
    case round =>
      obtain ⟨j, hj, rfl, hbr⟩ := hrel
      clear hbel2
      by_cases hlt : j < k
      · have cj : wr.cell? ⟨b, off + j, none⟩ = some (.int .u64 (zs.getD j 0)) := (hbr.cell (p := ⟨b, off + j, none⟩) hb).trans (HC.out j (by omega))
        have cir := CI.out wr hbr
        have hnj := HN.out j hlt
        generalize zs.getD j 0 = z at cj hnj
        have hz : (z == x) = false := by simpa using hnj
        clear hnj
        have hjn : (j : Int) < (n : Int) := by omega
        go_wp2
        go_quiet (fail)
        go_wp2
        go_roundw
        case rel => exact ⟨j + 1, by omega, by go_num, below_drewN hbr _⟩
        case measure => simp [intOf]; omega
      · have hbw : b < wr.heap.size := Nat.lt_of_lt_of_le hb hbr.size
        have HCR : Hid (∀ j, j < n → wr.cell? ⟨b, off + j, none⟩ = some (.int .u64 (zs.getD j 0))) := fun j hj => (hbr.cell (p := ⟨b, off + j, none⟩) hb).trans (HC.out j hj)
        go_wp2_with fail
        refine (strict_any b off n c zs wr hn hbw HCR.out).mono ?_
        rintro e w3 ⟨v, rfl, hv, hb3⟩
        have hbel3 : Below w.heap.size w w3 := hbr.trans (hb3.mono hbr.size)
        cases v
        · clear hv
          go_wp2
          go_ret
          exact ⟨rfl, hbel3⟩
        · have hke : k = i := incr_eq zs n k i (hv rfl) hki hi (HK.out.trans HX.out.symm)
          clear hv
          subst hke
          go_wp2
          go_ret
          exact ⟨rfl, hbel3⟩
end Go.Proofs.Qxb6001427a.fnFind
