/-
  The contract of 'fields' (function 16).
-/
import Derived.Test.Qxb6001461aFldPlain
import Derived.WalkKit
import Derived.ProofKit
import Derived.Below
import Derived.WalkSpells
import Derived.Deep.LoopGhost
namespace Go.Proofs.Qxb6001461a.fnFld
open Go.ChangeShapes Go.WideShapes Go.ChangeAt Go.RowKit

theorem info36 : (Try.prog.info? 36).map (fun i => (i.zero, i.size, i.bytes)) = some (some (.agg #[.string ⟨#[]⟩, .int .i64 0, .int .i64 0]), 3, 32) := by kernel_rfl

/-- What 'fields' leaves. -/
def Left (s : ByteArray) (w : World) (e : Ending) (w' : World) : Prop :=
  ∃ (v : Value) (ws : List (Nat × Nat)), e = .returned v ∧ w'.ownsRow w.heap.size 36 3 v ws.length (cellsW s ws) ∧ Below w.heap.size w w' ∧ Tile s ws ∧ (∀ j, endAt ws ws.length ≤ j → j < s.size → Bl s j) ∧ ws.length ≤ s.size

theorem blank_more {s : ByteArray} {i j : Nat} (h : ∀ x, i ≤ x → x < j → Bl s x) (hj : Bl s j) : ∀ x, i ≤ x → x < j + 1 → Bl s x := by
  intro x h1 h2
  by_cases e : x = j
  · rw [e]
    exact hj
  · exact h x h1 (by omega)

theorem three_new {w : World} {x y z : Value} {e : TypeId} : ∀ (j : Nat) (u : Value), [x, y, z][j]? = some u → (w.alloc (.cells #[x, y, z] e)).cell? ((⟨w.heap.size, 0, none⟩ : Addr).add j) = some u := by
  intro j u hj
  match j, hj with
  | 0, hj => simp at hj; subst hj; simp [Addr.add]
  | 1, hj => simp at hj; subst hj; simp [Addr.add]
  | 2, hj => simp at hj; subst hj; simp [Addr.add]

/-- What the append of one more word (j, k) makes of the outer relation. -/
theorem fld_rel {s : ByteArray} {w wr w1 : World} {v v1 : Value} {ws : List (Nat × Nat)} {o : Obj} {i : Nat} (hT : Tile s ws) (hrow : wr.ownsRow w.heap.size 36 3 v ws.length (cellsW s ws)) (hbx : Below w.heap.size w wr) (j k : Nat)
    (hwl : ws.length ≤ i) (hie : i = endAt ws ws.length) (hij : i ≤ j) (hjk : j < k) (hkN : k ≤ s.size) (hB : ∀ x, i ≤ x → x < j → Bl s x) (hnb : ¬ Bl s j) (hbk : k < s.size → Bl s k)
    (hown : w1.ownsRow w.heap.size 36 3 v1 (ws.length + 1) (cellsW s ws ++ [.string (s.extract j k), .int .i64 j, .int .i64 k])) (hgrow : (wr.alloc o).grownBy w1 v.ownBlock) :
    (k = endAt (ws ++ [(j, k)]) (ws ++ [(j, k)]).length ∧ Tile s (ws ++ [(j, k)])) ∧ (ws ++ [(j, k)]).length ≤ k ∧ w1.ownsRow w.heap.size 36 3 v1 (ws ++ [(j, k)]).length (cellsW s (ws ++ [(j, k)])) ∧ Below w.heap.size w w1 := by
  refine ⟨⟨(endAt_snoc ws (j, k)).symm, tile_step hT j k (by omega) hjk hkN (fun x h1 h2 => hB x (by omega) h2) hnb hbk⟩, ?_, ?_, ?_⟩
  · rw [List.length_append]
    show ws.length + 1 ≤ k
    omega
  · rw [cellsW_snoc, List.length_append]
    exact hown
  · have hz := hbx.size
    exact (hbx.alloc hz _).grown hgrow (by simp; omega) (fun b hb => (hrow.lt b hb).1)

set_option maxHeartbeats 1000000 in
set_option maxRecDepth 100000 in
theorem fields_any (s : ByteArray) (esc : Int) (w : World) (hs : s.size ≤ 1048576) :
    Calls Try.prog 16 #[.string s, .int .u8 esc] w (Left s w) := by
  obtain ⟨i0, hi, hz0, hz1, hz2⟩ := info_parts info36
  go_enter Try.func16, Try.ntmps16
  go_wp2
  go_loopg [5, 6] s.size (fun g s5 s6 wx => ∃ (i : Nat) (ws : List (Nat × Nat)), i + g = s.size ∧ s6 = .int .i64 i ∧ Aside (i = endAt ws ws.length ∧ Tile s ws) ∧ ws.length ≤ i ∧
    wx.ownsRow w.heap.size 36 3 s5 ws.length (cellsW s ws) ∧ Below w.heap.size w wx)
  case atStart => exact ⟨0, [], by omega, rfl, ⟨rfl, tile_nil s⟩, Nat.le_refl _, World.ownsRow_nil _ _ _ _, Below.refl _ _⟩
  case round =>
    obtain ⟨i, ws, hig, rfl, HT, hwl, hrow, hbx⟩ := hrel
    have HG : Aside (i + gk = s.size) := hig
    have hiN : i ≤ s.size := by omega
    have HR : Aside (wr.ownsRow w.heap.size 36 3 u5 ws.length (cellsW s ws) ∧ Below w.heap.size w wr ∧ ws.length ≤ i) := ⟨hrow, hbx, hwl⟩
    clear hig hrow hbx hwl
    go_wp2
    go_step3
    go_wp2
    go_loopg [6] (s.size - i) (fun g t wy => ∃ j : Nat, i ≤ j ∧ j ≤ s.size ∧ t = .int .i64 j ∧ Aside (j + g = s.size) ∧ Aside (∀ x, i ≤ x → x < j → Bl s x) ∧ wr = wy)
    case atStart => exact ⟨i, Nat.le_refl _, hiN, rfl, by show _ = _; omega, fun x h1 h2 => absurd h2 (by omega), rfl⟩
    case round =>
      obtain ⟨j, hij, hjN, rfl, HJ, HB, rfl⟩ := hrel
      by_cases hlt : j < s.size
      · by_cases hb : Bl s j
        · rcases (bl_at s j hlt).1 hb with hc | hc
          · have hc1 : (s[j].toNat : Int) = 32 := by omega
            have HBJ : Aside (Bl s j) := hb
            clear hb hc
            go_wp2
            go_roundg (gk - 1)
            case measure => have := HJ.out; omega
            case rel => exact ⟨j + 1, by omega, by omega, by go_num, by have := HJ.out; show _ = _; omega, blank_more HB.out HBJ.out, rfl⟩
          · have hc1 : (s[j].toNat : Int) = 9 := by omega
            have HBJ : Aside (Bl s j) := hb
            clear hb hc
            go_wp2
            go_roundg (gk - 1)
            case measure => have := HJ.out; omega
            case rel => exact ⟨j + 1, by omega, by omega, by go_num, by have := HJ.out; show _ = _; omega, blank_more HB.out HBJ.out, rfl⟩
        · have hnb : ¬ (s[j].toNat = 32 ∨ s[j].toNat = 9) := fun h => hb ((bl_at s j hlt).2 h)
          have hn32 : ((s[j].toNat : Int) == 32) = false := by simp; omega
          have hn9 : ((s[j].toNat : Int) == 9) = false := by simp; omega
          have hjs : ((j : Int) == (s.size : Int)) = false := by simp; omega
          have HNB : Aside (¬ Bl s j) := hb
          clear hb hnb
          go_wp2
          go_step3
          go_wp2
          go_loopg [6, 8] (s.size + 1 - j) (fun g t q wy => ∃ (k : Nat) (z : Int), j ≤ k ∧ k ≤ s.size + 1 ∧ t = .int .i64 k ∧ q = .int .u8 z ∧ Aside (k + g = s.size + 1) ∧ Aside (k = j → z = 0) ∧ wr = wy)
          case atStart => exact ⟨j, 0, Nat.le_refl _, by omega, rfl, rfl, by show _ = _; omega, fun _ => rfl, rfl⟩
          case round =>
            obtain ⟨k, z, hjk, hkN, rfl, rfl, HK, HZ, rfl⟩ := hrel
            clear hn32 hn9
            by_cases hlk : k < s.size
            · by_cases hz : z = 0
              · subst hz
                by_cases hb : Bl s k
                · have hjk' : j < k := by
                    by_cases e : k = j
                    · rw [e] at hb
                      exact absurd hb HNB.out
                    · omega
                  have HBK : Aside (Bl s k) := hb
                  obtain ⟨hrow, hbx, hwl⟩ := HR.out
                  have HROW : Aside (wr.ownsRow w.heap.size 36 3 u5 ws.length (cellsW s ws) ∧ Below w.heap.size w wr) := ⟨hrow, hbx⟩
                  clear hrow hbx
                  have hcc : (s[k].toNat : Int) = 32 ∨ (s[k].toNat : Int) = 9 := by have := (bl_at s k hlk).1 hb; omega
                  clear hb HR
                  rcases hcc with hc | hc
                  all_goals
                    go_wp2_with (first | (at_builtin; refine wpList_append_own _ rfl (.tmp 84) (.tmp 92) 33 rfl w.heap.size 36 i0 (.agg #[.string ⟨#[]⟩, .int .i64 0, .int .i64 0]) 3 32 Try.underlying33 hi hz0 hz1 hz2 rfl (by decide) u5 ws.length (cellsW s ws) rfl (HROW.out.1.alloc _) ⟨wr.heap.size, 0, none⟩ 1 1 [.string (s.extract j k), .int .i64 j, .int .i64 k] rfl rfl ?c1 ?c2 ?c3 ?c4 ?c5 ?_))
                    try (case c1 => exact three_new)
                    case c2 => first | exact ⟨rfl, rfl, rfl⟩ | (intro u hu; simp at hu; rcases hu with rfl | rfl | rfl <;> rfl)
                    case c3 => unfold maxLen; omega
                    case c4 => omega
                    case c5 => have := HROW.out.2.size; simp; omega
                    intro v1 w1 hown1 hgrow1 _
                    have R := fld_rel HT.out.2 HROW.out.1 HROW.out.2 j k hwl HT.out.1 hij hjk' (by omega) HB.out HNB.out (fun _ => HBK.out) hown1 hgrow1
                    clear hown1 hgrow1
                    go_wp2
                    rw [Exit.noGoto_normal]
                    go_wp2
                    go_roundg (s.size - k)
                    case measure => have := HG.out; omega
                    case rel => exact ⟨k, ws ++ [(j, k)], by omega, rfl, R.1, R.2.1, R.2.2.1, R.2.2.2⟩
                · have hnb : ¬ (s[k].toNat = 32 ∨ s[k].toNat = 9) := fun h => hb ((bl_at s k hlk).2 h)
                  have hk32 : ((s[k].toNat : Int) == 32) = false := by simp; omega
                  have hk9 : ((s[k].toNat : Int) == 9) = false := by simp; omega
                  clear hb hnb
                  go_wp2
                  all_goals first
                    | (go_roundg (gk - 1); (case measure => have := HK.out; omega); (case rel => exact ⟨k + 1, _, by omega, by omega, by go_num, rfl, by have := HK.out; show _ = _; omega, fun e => absurd e (by omega), rfl⟩))
                    | (go_roundg (gk - 2); (case measure => have := HK.out; omega); (case rel => exact ⟨k + 2, _, by omega, by omega, by go_num, rfl, by have := HK.out; show _ = _; omega, fun e => absurd e (by omega), rfl⟩))
              · have hz' : (z == 0) = false := by simpa using hz
                have hjk' : j < k := by
                  by_cases e : k = j
                  · exact absurd (HZ.out e) hz
                  · omega
                clear hz
                go_wp2
                all_goals first
                  | (go_roundg (gk - 1); (case measure => have := HK.out; omega); (case rel => exact ⟨k + 1, _, by omega, by omega, by go_num, rfl, by have := HK.out; show _ = _; omega, fun e => absurd e (by omega), rfl⟩))
                  | (go_roundg (gk - 2); (case measure => have := HK.out; omega); (case rel => exact ⟨k + 2, _, by omega, by omega, by go_num, rfl, by have := HK.out; show _ = _; omega, fun e => absurd e (by omega), rfl⟩))
            · have hjk' : j < s.size := hlt
              obtain ⟨hrow, hbx, hwl⟩ := HR.out
              have HROW : Aside (wr.ownsRow w.heap.size 36 3 u5 ws.length (cellsW s ws) ∧ Below w.heap.size w wr) := ⟨hrow, hbx⟩
              clear hrow hbx HR
              rcases (show k = s.size ∨ k = s.size + 1 by omega) with rfl | rfl
              all_goals
                go_wp2_with (first | (at_builtin; refine wpList_append_own _ rfl (.tmp 84) (.tmp 92) 33 rfl w.heap.size 36 i0 (.agg #[.string ⟨#[]⟩, .int .i64 0, .int .i64 0]) 3 32 Try.underlying33 hi hz0 hz1 hz2 rfl (by decide) u5 ws.length (cellsW s ws) rfl (HROW.out.1.alloc _) ⟨wr.heap.size, 0, none⟩ 1 1 [.string (s.extract j s.size), .int .i64 j, .int .i64 s.size] rfl rfl ?d1 ?d2 ?d3 ?d4 ?d5 ?_))
                try (case d1 => exact three_new)
                case d2 => first | exact ⟨rfl, rfl, rfl⟩ | (intro u hu; simp at hu; rcases hu with rfl | rfl | rfl <;> rfl)
                case d3 => unfold maxLen; omega
                case d4 => omega
                case d5 => have := HROW.out.2.size; simp; omega
                intro v1 w1 hown1 hgrow1 _
                have R := fld_rel HT.out.2 HROW.out.1 HROW.out.2 j s.size hwl HT.out.1 hij hjk' (by omega) HB.out HNB.out (fun h => absurd h (Nat.lt_irrefl _)) hown1 hgrow1
                clear hown1 hgrow1
                go_wp2
                rw [Exit.noGoto_normal]
                go_wp2
                go_roundg 0
                case measure => have := HG.out; omega
                case rel => exact ⟨s.size, ws ++ [(j, s.size)], by omega, rfl, R.1, R.2.1, R.2.2.1, R.2.2.2⟩
      · obtain rfl : j = s.size := by omega
        go_wp2
        try rw [Exit.noGoto_ret]
        go_ret
        obtain ⟨hrow, hbx, hwl⟩ := HR.out
        obtain ⟨hie, hT⟩ := HT.out
        exact ⟨u5, ws, rfl, hrow, hbx, hT, fun x h1 h2 => HB.out x (by omega) h2, by omega⟩
end Go.Proofs.Qxb6001461a.fnFld
