/-
  The contract of 'ZZfields' (function 8).
-/
import Derived.Test.Qxb6001461aFldA
namespace Go.Proofs.Qxb6001461a.fnFld
open Go.ChangeShapes Go.WideShapes Go.ChangeAt Go.RowKit

theorem info9 : (Try.prog.info? 9).map (fun i => (i.zero, i.size, i.bytes)) = some (some (.string ⟨#[]⟩), 1, 16) := by kernel_rfl
theorem info3 : (Try.prog.info? 3).map (fun i => (i.zero, i.size, i.bytes)) = some (some (.int .i64 0), 1, 8) := by kernel_rfl

/-- A row of n cells at block g: cell j holds f j; none is frozen. -/
def Row (w : World) (g n : Nat) (f : Nat → Value) : Prop := (∀ j, j < n → w.cell? ⟨g, j, none⟩ = some (f j)) ∧ ∀ j, w.frozen? ⟨g, j, none⟩ = false

theorem row_made {w : World} {base e g n : Nat} {z : Value} (h : w.ownsRow base e 1 (.slice (some ⟨g, 0, none⟩) n n) n (madeCells #[z] n).toList) : Row w g n (fun _ => z) ∧ g < w.heap.size := by
  refine ⟨⟨fun j hj => ?_, fun j => h.frozenAt j⟩, (h.lt g rfl).2⟩
  rw [h.cellAt j (by omega), toList_madeCells_one]
  simp [hj]

theorem Row.past {w w' : World} {g n : Nat} {f : Nat → Value} (h : Row w g n f) (hg : g < w.heap.size) (hb : Below w.heap.size w w') : Row w' g n f :=
  ⟨fun j hj => (hb.cell (p := ⟨g, j, none⟩) hg).trans (h.1 j hj), fun j => (hb.frozen (p := ⟨g, j, none⟩) hg).trans (h.2 j)⟩
theorem Row.congr {w : World} {g n : Nat} {f f' : Nat → Value} (h : Row w g n f) (he : ∀ j, j < n → f j = f' j) : Row w g n f' :=
  ⟨fun j hj => (h.1 j hj).trans (by rw [he j hj]), h.2⟩
theorem Row.other {w : World} {g n b o : Nat} {f : Nat → Value} (h : Row w g n f) (hne : b ≠ g) (u : Value) : Row (w.setCell ⟨b, o, none⟩ u) g n f :=
  ⟨fun j hj => (World.cell?_setCell_other _ _ _ _ (fun e => hne (congrArg Addr.block e))).trans (h.1 j hj), fun j => (World.frozen?_setCell _ _ _ _).trans (h.2 j)⟩
theorem Row.set {w : World} {g n k : Nat} {f : Nat → Value} (h : Row w g n f) (hk : k < n) (u : Value) : Row (w.setCell ⟨g, k, none⟩ u) g n (fun j => if j = k then u else f j) := by
  refine ⟨fun j hj => ?_, fun j => (World.frozen?_setCell _ _ _ _).trans (h.2 j)⟩
  show _ = some (if j = k then u else f j)
  by_cases e : j = k
  · subst e
    rw [if_pos rfl]
    exact World.cell?_setCell_same _ _ _ (h.1 j hj)
  · rw [if_neg e]
    exact (World.cell?_setCell_other _ _ _ _ (fun e' => e (congrArg Addr.off e').symm)).trans (h.1 j hj)

/-- The first k cells filled by X, the rest z. -/
def upto (k : Nat) (X : Nat → Value) (z : Value) (j : Nat) : Value := if j < k then X j else z
theorem upto_zero (X : Nat → Value) (z : Value) (j : Nat) : z = upto 0 X z j := by unfold upto; rw [if_neg (by omega)]
theorem upto_self (k : Nat) (X : Nat → Value) (z : Value) : upto k X z k = z := by unfold upto; rw [if_neg (by omega)]
theorem upto_succ (k : Nat) (X : Nat → Value) (z : Value) (j : Nat) : (if j = k then X k else upto k X z j) = upto (k + 1) X z j := by
  unfold upto
  by_cases e : j = k
  · rw [if_pos e, if_pos (by omega), e]
  · rw [if_neg e]
    by_cases h : j < k
    · rw [if_pos h, if_pos (by omega)]
    · rw [if_neg h, if_neg (by omega)]
theorem upto_full (k : Nat) (X : Nat → Value) (z : Value) (j : Nat) (h : j < k) : upto k X z j = X j := by unfold upto; rw [if_pos h]

/-- The values of the three rows. -/
def X1 (s : ByteArray) (ws : List (Nat × Nat)) (j : Nat) : Value := .string (s.extract (ws.getD j (0, 0)).1 (ws.getD j (0, 0)).2)
def X2 (ws : List (Nat × Nat)) (j : Nat) : Value := .int .i64 (ws.getD j (0, 0)).1
def X3 (ws : List (Nat × Nat)) (j : Nat) : Value := .int .i64 (ws.getD j (0, 0)).2

/-- The three rows, k words through. -/
def Three (s : ByteArray) (ws : List (Nat × Nat)) (w : World) (g1 g2 g3 k : Nat) : Prop :=
  Row w g1 ws.length (upto k (X1 s ws) (.string ⟨#[]⟩)) ∧ Row w g2 ws.length (upto k (X2 ws) (.int .i64 0)) ∧ Row w g3 ws.length (upto k (X3 ws) (.int .i64 0))

theorem three_step {s : ByteArray} {ws : List (Nat × Nat)} {w : World} {g1 g2 g3 k : Nat} (h : Three s ws w g1 g2 g3 k) (hk : k < ws.length) (h12 : g1 < g2) (h23 : g2 < g3) :
    Three s ws (((w.setCell ⟨g1, k, none⟩ (X1 s ws k)).setCell ⟨g2, k, none⟩ (X2 ws k)).setCell ⟨g3, k, none⟩ (X3 ws k)) g1 g2 g3 (k + 1) := by
  obtain ⟨r1, r2, r3⟩ := h
  refine ⟨?_, ?_, ?_⟩
  · exact (((r1.set hk _).other (by omega) _).other (by omega) _).congr fun j _ => upto_succ k _ _ j
  · exact (((r2.other (by omega) _).set hk _).other (by omega) _).congr fun j _ => upto_succ k _ _ j
  · exact (((r3.other (by omega) _).other (by omega) _).set hk _).congr fun j _ => upto_succ k _ _ j

/-- The words' own cells, in a later world. -/
theorem words_at {s : ByteArray} {ws : List (Nat × Nat)} {w1 wx : World} {B : Nat} {A : Option Addr} {cap k : Nat} (h : w1.ownsRow B 36 3 (.slice A ws.length cap) ws.length (cellsW s ws)) (hk : k < ws.length) (hb : Below w1.heap.size w1 wx) :
    ∃ gw, A = some ⟨gw, 0, none⟩ ∧ gw < w1.heap.size ∧ wx.cell? ⟨gw, k * 3, none⟩ = some (X1 s ws k) ∧ wx.cell? ⟨gw, k * 3 + 1, none⟩ = some (X2 ws k) ∧ wx.cell? ⟨gw, k * 3 + 2, none⟩ = some (X3 ws k) := by
  rcases h.2 with ⟨_, h0⟩ | ⟨gw, cap', cur, hv, _⟩
  · omega
  · simp only [Value.slice.injEq] at hv
    obtain ⟨rfl, _, rfl⟩ := hv
    have hg := (h.lt gw rfl).2
    obtain ⟨e0, e1, e2⟩ := cellsW_at s ws k hk
    refine ⟨gw, rfl, hg, ?_, ?_, ?_⟩
    · rw [hb.cell (p := ⟨gw, _, none⟩) hg, h.cellAt _ (by omega)]
      exact e0
    · rw [hb.cell (p := ⟨gw, _, none⟩) hg, h.cellAt _ (by omega)]
      exact e1
    · rw [hb.cell (p := ⟨gw, _, none⟩) hg, h.cellAt _ (by omega)]
      exact e2

/-- What 'ZZfields' leaves. -/
def Laid (s : ByteArray) (w : World) (e : Ending) (w' : World) : Prop :=
  ∃ (g1 g2 g3 : Nat) (ws : List (Nat × Nat)), e = .returned (.tuple #[.slice (some ⟨g1, 0, none⟩) ws.length ws.length, .slice (some ⟨g2, 0, none⟩) ws.length ws.length, .slice (some ⟨g3, 0, none⟩) ws.length ws.length]) ∧
    Below w.heap.size w w' ∧ g1 < w'.heap.size ∧ g2 < w'.heap.size ∧ g3 < w'.heap.size ∧
    (∀ j, j < ws.length → w'.cell? ⟨g1, j, none⟩ = some (.string (s.extract (ws.getD j (0, 0)).1 (ws.getD j (0, 0)).2))) ∧
    (∀ j, j < ws.length → w'.cell? ⟨g2, j, none⟩ = some (.int .i64 (ws.getD j (0, 0)).1)) ∧
    (∀ j, j < ws.length → w'.cell? ⟨g3, j, none⟩ = some (.int .i64 (ws.getD j (0, 0)).2)) ∧
    Tile s ws ∧ (∀ j, endAt ws ws.length ≤ j → j < s.size → Bl s j) ∧ ws.length ≤ s.size

set_option maxHeartbeats 1000000 in
set_option maxRecDepth 100000 in
theorem zz_any (s : ByteArray) (esc : Int) (w : World) (hs : s.size ≤ 1048576) :
    Calls Try.prog 8 #[.string s, .int .u8 esc] w (Laid s w) := by
  obtain ⟨i9, h9, hz90, hz91, hz92⟩ := info_parts info9
  obtain ⟨i3, h3, hz30, hz31, hz32⟩ := info_parts info3
  go_enter Try.func8, Try.ntmps8
  go_wp2_with fail
  refine (fields_any s esc w hs).mono ?_
  rintro e w1 ⟨v, ws, rfl, hown, hbel, hT, hend, hlen⟩
  obtain ⟨A, cap, hv⟩ : ∃ A cap, v = .slice A ws.length cap := by
    rcases hown.2 with ⟨h, h0⟩ | ⟨g, cap, cur, h, _⟩
    · exact ⟨none, 0, by rw [h, h0]⟩
    · exact ⟨some ⟨g, 0, none⟩, cap, h⟩
  rw [hv] at hown ⊢
  clear hv
  have HW : Hid (w1.ownsRow w.heap.size 36 3 (.slice A ws.length cap) ws.length (cellsW s ws) ∧ Below w.heap.size w w1 ∧ Tile s ws ∧ (∀ j, endAt ws ws.length ≤ j → j < s.size → Bl s j)) := ⟨hown, hbel, hT, hend⟩
  clear hown hbel hT hend
  go_wp2_with (first | (at_make; refine wpList_make_full _ rfl _ _ 23 rfl w1.heap.size 9 i9 _ 1 Try.underlying23 h9 hz90 hz91 .i64 .i64 _ _ ws.length rfl rfl rfl rfl (by rw [hz92]; omega) (by unfold maxLen; omega) (Nat.le_refl _) ?_))
  intro w2 hown2 hgrow2
  have r1 := row_made hown2
  have b2 : Below w1.heap.size w1 w2 := (Below.refl _ _).grown hgrow2 (Nat.le_refl _) (by intro k hk; cases hk)
  have H2 : Hid (Row w2 w1.heap.size ws.length (fun _ => .string ⟨#[]⟩) ∧ Below w1.heap.size w1 w2) := ⟨r1.1, b2⟩
  have g12 : w1.heap.size < w2.heap.size := r1.2
  clear hown2 hgrow2 r1 b2
  go_wp2_with (first | (at_make; refine wpList_make_full _ rfl _ _ 24 rfl w2.heap.size 3 i3 _ 1 Try.underlying24 h3 hz30 hz31 .i64 .i64 _ _ ws.length rfl rfl rfl rfl (by rw [hz32]; omega) (by unfold maxLen; omega) (Nat.le_refl _) ?_))
  intro w3 hown3 hgrow3
  have r2 := row_made hown3
  have b3 : Below w2.heap.size w2 w3 := (Below.refl _ _).grown hgrow3 (Nat.le_refl _) (by intro k hk; cases hk)
  have H3 : Hid (Row w3 w2.heap.size ws.length (fun _ => .int .i64 0) ∧ Below w2.heap.size w2 w3) := ⟨r2.1, b3⟩
  have g23 : w2.heap.size < w3.heap.size := r2.2
  clear hown3 hgrow3 r2 b3
  go_wp2_with (first | (at_make; refine wpList_make_full _ rfl _ _ 24 rfl w3.heap.size 3 i3 _ 1 Try.underlying24 h3 hz30 hz31 .i64 .i64 _ _ ws.length rfl rfl rfl rfl (by rw [hz32]; omega) (by unfold maxLen; omega) (Nat.le_refl _) ?_))
  intro w4 hown4 hgrow4
  have r3 := row_made hown4
  have b4 : Below w3.heap.size w3 w4 := (Below.refl _ _).grown hgrow4 (Nat.le_refl _) (by intro k hk; cases hk)
  have g34 : w3.heap.size < w4.heap.size := r3.2
  have H4 : Hid (Three s ws w4 w1.heap.size w2.heap.size w3.heap.size 0 ∧ Below w1.heap.size w1 w4) :=
    ⟨⟨((H2.out.1.past g12 H3.out.2).past (by omega) b4).congr fun j _ => upto_zero _ _ j, (H3.out.1.past g23 b4).congr fun j _ => upto_zero _ _ j, r3.1.congr fun j _ => upto_zero _ _ j⟩,
      H2.out.2.trans ((H3.out.2.mono (by omega)).trans (b4.mono (by omega)))⟩
  clear hown4 hgrow4 r3 b4 H2 H3
  go_wp2
  go_loopg [8] ws.length (fun g t wx => ∃ k : Nat, k ≤ ws.length ∧ t = .int .i64 k ∧ Aside (k + g = ws.length) ∧ Aside (Three s ws wx w1.heap.size w2.heap.size w3.heap.size k ∧ Below w1.heap.size w1 wx ∧ w3.heap.size < wx.heap.size))
  case atStart => exact ⟨0, Nat.zero_le _, rfl, by show _ = _; omega, H4.out.1, H4.out.2, g34⟩
  case round =>
    obtain ⟨k, hk, rfl, HK, HX⟩ := hrel
    clear H4
    by_cases hlt : k < ws.length
    · obtain ⟨gw, hA, hgw, cw0, cw1, cw2⟩ := words_at HW.out.1 hlt HX.out.2.1
      obtain ⟨⟨t1, t2, t3⟩, hb, hsz⟩ := HX.out
      have c1 := t1.1 k hlt
      have c2 := t2.1 k hlt
      have c3 := t3.1 k hlt
      rw [upto_self] at c1 c2 c3
      have f1 := t1.2 k
      have f2 := t2.2 k
      have f3 := t3.2 k
      have n1 : gw ≠ w1.heap.size := by omega
      have n2 : gw ≠ w2.heap.size := by omega
      obtain ⟨S, hS⟩ : ∃ S, X1 s ws k = .string S := ⟨_, rfl⟩
      obtain ⟨a, ha⟩ : ∃ a : Nat, X2 ws k = .int .i64 a := ⟨_, rfl⟩
      obtain ⟨b, hb'⟩ : ∃ b : Nat, X3 ws k = .int .i64 b := ⟨_, rfl⟩
      rw [hS] at cw0
      rw [ha] at cw1
      rw [hb'] at cw2
      have HE : Hid (X1 s ws k = .string S ∧ X2 ws k = .int .i64 a ∧ X3 ws k = .int .i64 b) := ⟨hS, ha, hb'⟩
      clear t1 t2 t3 hb hS ha hb'
      subst hA
      go_wp2
      go_roundg (gk - 1)
      case measure => have := HK.out; omega
      case rel =>
        refine ⟨k + 1, by omega, by go_num, by have := HK.out; show _ = _; omega, ?_⟩
        have T := three_step HX.out.1 hlt g12 g23
        rw [HE.out.1, HE.out.2.1, HE.out.2.2] at T
        exact ⟨T, ((HX.out.2.1.setCell (Nat.le_refl _) _).setCell (Nat.le_of_lt g12) _).setCell (Nat.le_of_lt (Nat.lt_trans g12 g23)) _, by simpa using HX.out.2.2⟩
    · go_wp2
      go_ret3
      obtain ⟨⟨t1, t2, t3⟩, hb, hsz⟩ := HX.out
      obtain ⟨_, hbel, hT, hend⟩ := HW.out
      have hkn : k = ws.length := by omega
      subst hkn
      exact ⟨w1.heap.size, w2.heap.size, w3.heap.size, ws, rfl, hbel.trans (hb.mono hbel.size), by omega, by omega, by omega, fun j hj => (t1.1 j hj).trans (by rw [upto_full _ _ _ _ hj]; rfl), fun j hj => (t2.1 j hj).trans (by rw [upto_full _ _ _ _ hj]; rfl), fun j hj => (t3.1 j hj).trans (by rw [upto_full _ _ _ _ hj]; rfl), hT, hend, hlen⟩
end Go.Proofs.Qxb6001461a.fnFld
