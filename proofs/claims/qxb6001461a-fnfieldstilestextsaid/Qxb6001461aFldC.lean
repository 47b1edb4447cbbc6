/-
  The walk of 'FnFieldsTilesText' (function 3).
-/
import Derived.Test.Qxb6001461aFldB
import Derived.Deep.QuietTactic
import Derived.BigQuiet
import Derived.WalkSmall
namespace Go.Proofs.Qxb6001461a.fnFld
open Go.ChangeShapes Go.WideShapes Go.ChangeAt Go.RowKit

set_option maxHeartbeats 400000 in
theorem blank_yes (c : Int) (w : World) (h : c = 32 ∨ c = 9) : Calls Try.prog 9 #[.int .u8 c] w fun e w' => e = .returned (.bool true) ∧ w = w' := by
  rcases h with rfl | rfl
  all_goals
    go_enter Try.func9, Try.ntmps9
    go_wp2
    go_ret
    exact ⟨rfl, rfl⟩

set_option maxHeartbeats 400000 in
theorem blank_no (c : Int) (w : World) (h32 : (c == 32) = false) (h9 : (c == 9) = false) : Calls Try.prog 9 #[.int .u8 c] w fun e w' => e = .returned (.bool false) ∧ w = w' := by
  go_enter Try.func9, Try.ntmps9
  go_wp2
  go_ret
  exact ⟨rfl, rfl⟩

theorem bl_int {s : ByteArray} {j : Nat} (h : j < s.size) (hb : Bl s j) : (s[j].toNat : Int) = 32 ∨ (s[j].toNat : Int) = 9 := by
  have := (bl_at s j h).1 hb
  omega
theorem nbl_int {s : ByteArray} {j : Nat} (h : j < s.size) (hb : ¬ Bl s j) : ((s[j].toNat : Int) == 32) = false ∧ ((s[j].toNat : Int) == 9) = false := by
  have hn : ¬ (s[j].toNat = 32 ∨ s[j].toNat = 9) := fun e => hb ((bl_at s j h).2 e)
  constructor
  · simp
    omega
  · simp
    omega

set_option maxHeartbeats 400000 in
theorem tiles_out (s : ByteArray) (esc : Int) (w : World) (h : 1048576 < s.size) :
    Calls Try.prog 3 #[.string s, .int .u8 esc] w fun e w' => e = .returned (.bool true) ∧ w = w' := by
  go_enter Try.func3, Try.ntmps3
  go_wp2
  go_ret
  exact ⟨rfl, rfl⟩

set_option maxHeartbeats 1000000 in
set_option maxRecDepth 100000 in
theorem tiles_in (s : ByteArray) (esc : Int) (w : World) (hs : s.size ≤ 1048576) :
    Calls Try.prog 3 #[.string s, .int .u8 esc] w fun e w' => e = .returned (.bool true) ∧ Below w.heap.size w w' := by
  go_enter Try.func3, Try.ntmps3
  go_wp2_with (first | (go_at_call 7; go_in))
  refine (zz_any s esc w hs).mono ?_
  rintro e w2 ⟨g1, g2, g3, ws, rfl, hbel, hg1, hg2, hg3, hc1, hc2, hc3, hT, hend, hlen⟩
  have HW : Hid (Below w.heap.size w w2 ∧ g1 < w2.heap.size ∧ g2 < w2.heap.size ∧ g3 < w2.heap.size) := ⟨hbel, hg1, hg2, hg3⟩
  have HC1 : Hid (∀ j, j < ws.length → w2.cell? ⟨g1, j, none⟩ = some (.string (s.extract (ws.getD j (0, 0)).1 (ws.getD j (0, 0)).2))) := hc1
  have HC2 : Hid (∀ j, j < ws.length → w2.cell? ⟨g2, j, none⟩ = some (.int .i64 (ws.getD j (0, 0)).1)) := hc2
  have HC3 : Hid (∀ j, j < ws.length → w2.cell? ⟨g3, j, none⟩ = some (.int .i64 (ws.getD j (0, 0)).2)) := hc3
  have HT : Hid (Tile s ws ∧ ∀ j, endAt ws ws.length ≤ j → j < s.size → Bl s j) := ⟨hT, hend⟩
  clear hbel hg1 hg2 hg3 hc1 hc2 hc3 hT hend
  go_wp2
  go_loopg [8, 9] ws.length (fun g s8 s9 wx => ∃ (k p : Nat), k ≤ ws.length ∧ s9 = .int .i64 k ∧ s8 = .int .i64 p ∧ p ≤ s.size ∧ Aside (k + g = ws.length) ∧ Aside (p = endAt ws k) ∧ Aside (Below w2.heap.size w2 wx))
  case atStart => exact ⟨0, 0, Nat.zero_le _, rfl, rfl, Nat.zero_le _, by show _ = _; omega, rfl, Below.refl _ _⟩
  case round =>
    obtain ⟨k, p, hk, rfl, rfl, hp, HK, HP, HB⟩ := hrel
    by_cases hlt : k < ws.length
    · have c1 : wr.cell? ⟨g1, k, none⟩ = _ := (HB.out.cell (p := ⟨g1, k, none⟩) HW.out.2.1).trans (HC1.out k hlt)
      have c2 : wr.cell? ⟨g2, k, none⟩ = _ := (HB.out.cell (p := ⟨g2, k, none⟩) HW.out.2.2.1).trans (HC2.out k hlt)
      have c3 : wr.cell? ⟨g3, k, none⟩ = _ := (HB.out.cell (p := ⟨g3, k, none⟩) HW.out.2.2.2).trans (HC3.out k hlt)
      have ho := HT.out.1 k hlt
      have hes : endAt ws (k + 1) = (ws.getD k (0, 0)).2 := endAt_succ ws k
      rw [← HP.out] at ho
      generalize (ws.getD k (0, 0)).1 = a at *
      generalize (ws.getD k (0, 0)).2 = e at *
      obtain ⟨h1, h2, h3, h4, h5, h6, h7⟩ := ho
      have HES : Aside (endAt ws (k + 1) = e) := hes
      have H5 : Aside (∀ j, p ≤ j → j < a → Bl s j) := h5
      have H6 : Aside (¬ Bl s a) := h6
      have H7 : Aside (e < s.size → Bl s e) := h7
      clear hes h5 h6 h7
      have hcase : (0 < k ∧ ((a : Int) == (p : Int)) = false) ∨ (decide (0 < k) = false ∧ k ≤ 0) := by
        by_cases hk0 : 0 < k
        · have hpa : p < a := h4 hk0
          exact .inl ⟨hk0, by simp; omega⟩
        · exact .inr ⟨decide_eq_false hk0, by omega⟩
      clear h4
      have hea : e ≤ 1048576 := by omega
      have d1 : decide (a < p) = false := decide_eq_false (by omega)
      have d2 : decide (e ≤ a) = false := decide_eq_false (by omega)
      have d3 : decide (s.size < e) = false := decide_eq_false (by omega)
      rcases hcase with ⟨hk0, hsp⟩ | ⟨hkd, hk0⟩
      all_goals
        go_wp2
        go_loopg [12] (a - p) (fun g t wy => ∃ j : Nat, p ≤ j ∧ j ≤ a ∧ t = .int .i64 j ∧ Aside (j + g = a) ∧ wr = wy)
        case atStart => exact ⟨p, Nat.le_refl _, h1, rfl, by show _ = _; omega, rfl⟩
        case round =>
          obtain ⟨j, hpj, hja, rfl, HJ, rfl⟩ := hrel
          by_cases hjl : j < a
          · have hjs : j < s.size := by omega
            have HY : Aside ((s[j].toNat : Int) = 32 ∨ (s[j].toNat : Int) = 9) := bl_int hjs (H5.out j hpj hjl)
            go_wp2_with (first | (go_at_call 9; refine (blank_yes _ _ HY.out).mono ?_; rintro ee w' ⟨rfl, rfl⟩))
            go_roundg (gk - 1)
            case measure => have := HJ.out; omega
            case rel => exact ⟨j + 1, by omega, by omega, by go_num, by have := HJ.out; show _ = _; omega, rfl⟩
          · obtain rfl : j = a := by omega
            have hjs : j < s.size := by omega
            have HN : Aside (((s[j].toNat : Int) == 32) = false ∧ ((s[j].toNat : Int) == 9) = false) := nbl_int hjs H6.out
            go_wp2_with fail
            refine (blank_no _ _ HN.out.1 HN.out.2).mono ?_
            rintro ee w' ⟨rfl, rfl⟩
            have hje : (j : Int) ≤ (e : Int) := by omega
            have hes : (e : Int) ≤ (s.size : Int) := by omega
            by_cases hel : e < s.size
            · have HY : Aside ((s[e].toNat : Int) = 32 ∨ (s[e].toNat : Int) = 9) := bl_int hel (H7.out hel)
              go_wp2_with fail
              refine (blank_yes _ _ HY.out).mono ?_
              rintro ee w' ⟨rfl, rfl⟩
              go_wp2
              go_quiet (fail)
              go_wp2
              go_roundg (ws.length - (k + 1))
              case measure => have := HK.out; omega
              case rel => exact ⟨k + 1, e, by omega, by go_num, rfl, by omega, by show _ = _; omega, HES.out.symm, below_drewN HB.out _⟩
            · go_wp2
              go_quiet (fail)
              go_wp2
              go_roundg (ws.length - (k + 1))
              case measure => have := HK.out; omega
              case rel => exact ⟨k + 1, e, by omega, by go_num, rfl, by omega, by show _ = _; omega, HES.out.symm, below_drewN HB.out _⟩
    · have hpe : p = endAt ws ws.length := by rw [HP.out, show k = ws.length by omega]
      have HE : Aside (∀ j, p ≤ j → j < s.size → Bl s j) := by rw [hpe]; exact HT.out.2
      clear hpe
      go_wp2
      go_loopg [13] (s.size - p) (fun g t wy => ∃ j : Nat, p ≤ j ∧ j ≤ s.size ∧ t = .int .i64 j ∧ Aside (j + g = s.size) ∧ wr = wy)
      case atStart => exact ⟨p, Nat.le_refl _, hp, rfl, by show _ = _; omega, rfl⟩
      case round =>
        obtain ⟨j, hpj, hjN, rfl, HJ, rfl⟩ := hrel
        by_cases hjl : j < s.size
        · have HY : Aside ((s[j].toNat : Int) = 32 ∨ (s[j].toNat : Int) = 9) := bl_int hjl (HE.out j hpj hjl)
          go_wp2_with (first | (go_at_call 9; refine (blank_yes _ _ HY.out).mono ?_; rintro ee w' ⟨rfl, rfl⟩))
          go_roundg (gk - 1)
          case measure => have := HJ.out; omega
          case rel => exact ⟨j + 1, by omega, by omega, by go_num, by have := HJ.out; show _ = _; omega, rfl⟩
        · go_wp2
          go_ret
          exact ⟨rfl, HW.out.1.trans (HB.out.mono HW.out.1.size)⟩
end Go.Proofs.Qxb6001461a.fnFld
