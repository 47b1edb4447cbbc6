/-
  The plain mathematics of 'FnFieldsTilesText': no Go in sight. A text's words as pairs (start, end) that tile it.
-/
import Derived.Test.Qxb6001461aRows
namespace Go.Proofs.Qxb6001461a.fnFld

/-- Byte j of the text is a blank or a tab. -/
def Bl (s : ByteArray) (j : Nat) : Prop := (s.data.toList.getD j 0).toNat = 32 ∨ (s.data.toList.getD j 0).toNat = 9

theorem bl_at (s : ByteArray) (j : Nat) (h : j < s.size) : Bl s j ↔ (s[j].toNat = 32 ∨ s[j].toNat = 9) := by
  have h' : j < s.data.toList.length := h
  have e : s.data.toList.getD j 0 = s[j] := by
    rw [List.getD_eq_getElem?_getD, List.getElem?_eq_getElem h']
    rfl
  unfold Bl
  rw [e]

/-- Where word number k's predecessor ends (0 where there is none). -/
def endAt (ws : List (Nat × Nat)) (k : Nat) : Nat := if k = 0 then 0 else (ws.getD (k - 1) (0, 0)).2

/-- What is asked of one word (a, e), number k, behind the position p. -/
def One (s : ByteArray) (p k a e : Nat) : Prop :=
  p ≤ a ∧ a < e ∧ e ≤ s.size ∧ (0 < k → p < a) ∧ (∀ j, p ≤ j → j < a → Bl s j) ∧ ¬ Bl s a ∧ (e < s.size → Bl s e)

def Tile (s : ByteArray) (ws : List (Nat × Nat)) : Prop := ∀ k, k < ws.length → One s (endAt ws k) k (ws.getD k (0, 0)).1 (ws.getD k (0, 0)).2

theorem tile_nil (s : ByteArray) : Tile s [] := fun _ hk => absurd hk (Nat.not_lt_zero _)

theorem endAt_zero (ws : List (Nat × Nat)) : endAt ws 0 = 0 := rfl
theorem endAt_succ (ws : List (Nat × Nat)) (k : Nat) : endAt ws (k + 1) = (ws.getD k (0, 0)).2 := rfl

theorem getD_snoc_lt (ws : List (Nat × Nat)) (p : Nat × Nat) (k : Nat) (h : k < ws.length) : (ws ++ [p]).getD k (0, 0) = ws.getD k (0, 0) := by
  simp only [List.getD_eq_getElem?_getD]
  rw [List.getElem?_append_left h]
theorem getD_snoc_eq (ws : List (Nat × Nat)) (p : Nat × Nat) : (ws ++ [p]).getD ws.length (0, 0) = p := by
  simp only [List.getD_eq_getElem?_getD]
  rw [List.getElem?_append_right (Nat.le_refl _)]
  simp

theorem endAt_snoc_le (ws : List (Nat × Nat)) (p : Nat × Nat) (k : Nat) (h : k ≤ ws.length) : endAt (ws ++ [p]) k = endAt ws k := by
  cases k with
  | zero => rfl
  | succ k => rw [endAt_succ, endAt_succ, getD_snoc_lt ws p k (by omega)]

theorem endAt_snoc (ws : List (Nat × Nat)) (p : Nat × Nat) : endAt (ws ++ [p]) (ws ++ [p]).length = p.2 := by
  rw [List.length_append]
  show endAt (ws ++ [p]) (ws.length + 1) = p.2
  rw [endAt_succ, getD_snoc_eq]

theorem tile_step {s : ByteArray} {ws : List (Nat × Nat)} (hT : Tile s ws) (a e : Nat) (ha : endAt ws ws.length ≤ a) (hae : a < e) (he : e ≤ s.size)
    (hbl : ∀ j, endAt ws ws.length ≤ j → j < a → Bl s j) (hna : ¬ Bl s a) (heb : e < s.size → Bl s e) : Tile s (ws ++ [(a, e)]) := by
  intro k hk
  rw [List.length_append] at hk
  have hk' : k < ws.length + 1 := hk
  by_cases h : k < ws.length
  · rw [endAt_snoc_le ws _ k (by omega), getD_snoc_lt ws _ k h]
    exact hT k h
  · have e0 : k = ws.length := by omega
    subst e0
    rw [endAt_snoc_le ws _ _ (Nat.le_refl _), getD_snoc_eq]
    refine ⟨ha, hae, he, fun hpos => ?_, hbl, hna, heb⟩
    obtain ⟨m, hm⟩ : ∃ m, ws.length = m + 1 := ⟨ws.length - 1, by omega⟩
    obtain ⟨_, _, _, _, _, _, hlast⟩ := hT m (by omega)
    rw [hm, endAt_succ] at ha ⊢
    by_cases hlt : (ws.getD m (0, 0)).2 < a
    · exact hlt
    · have heq : (ws.getD m (0, 0)).2 = a := by omega
      rw [heq] at hlast
      exact absurd (hlast (by omega)) hna

/-- The cells of the words, as 'fields' lays them: text, start, end. -/
def cellsW (s : ByteArray) (ws : List (Nat × Nat)) : List Value := ws.flatMap fun p => [.string (s.extract p.1 p.2), .int .i64 p.1, .int .i64 p.2]

theorem cellsW_snoc (s : ByteArray) (ws : List (Nat × Nat)) (a e : Nat) : cellsW s (ws ++ [(a, e)]) = cellsW s ws ++ [.string (s.extract a e), .int .i64 a, .int .i64 e] := by
  simp [cellsW]

theorem cellsW_at (s : ByteArray) : ∀ (ws : List (Nat × Nat)) (k : Nat), k < ws.length →
    (cellsW s ws)[k * 3]? = some (.string (s.extract (ws.getD k (0, 0)).1 (ws.getD k (0, 0)).2)) ∧ (cellsW s ws)[k * 3 + 1]? = some (.int .i64 (ws.getD k (0, 0)).1) ∧ (cellsW s ws)[k * 3 + 2]? = some (.int .i64 (ws.getD k (0, 0)).2)
  | [], k, h => absurd h (Nat.not_lt_zero _)
  | p :: ws, 0, _ => by simp [cellsW]
  | p :: ws, k + 1, h => by
    have ih := cellsW_at s ws k (by simpa using h)
    have e : cellsW s (p :: ws) = [.string (s.extract p.1 p.2), .int .i64 p.1, .int .i64 p.2] ++ cellsW s ws := by simp [cellsW]
    have e0 : (k + 1) * 3 = 3 + k * 3 := by omega
    have e1 : (k + 1) * 3 + 1 = 3 + (k * 3 + 1) := by omega
    have e2 : (k + 1) * 3 + 2 = 3 + (k * 3 + 2) := by omega
    rw [e, e2, e1, e0]
    refine ⟨?_, ?_, ?_⟩
    · rw [List.getElem?_append_right (by simp)]
      simpa using ih.1
    · rw [List.getElem?_append_right (by simp)]
      simpa using ih.2.1
    · rw [List.getElem?_append_right (by simp)]
      simpa using ih.2.2

theorem cellsW_len (s : ByteArray) (ws : List (Nat × Nat)) : (cellsW s ws).length = ws.length * 3 := by
  induction ws with
  | nil => rfl
  | cons p ws ih =>
    have e : cellsW s (p :: ws) = [.string (s.extract p.1 p.2), .int .i64 p.1, .int .i64 p.2] ++ cellsW s ws := by simp [cellsW]
    rw [e, List.length_append, ih]
    simp
    omega
end Go.Proofs.Qxb6001461a.fnFld
