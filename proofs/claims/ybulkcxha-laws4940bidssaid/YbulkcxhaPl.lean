import Derived.Test.YbulkcxhaNm
namespace Go.Proofs.Ybulkcxha

/-- The entries of block b among the first p places. -/
def bks (I S : Nat → Int) (i : Nat) : Nat → Nat → List Int
  | 0, _ => []
  | p + 1, b => if evt I S (i + p) = true ∧ p / 256 = b then bks I S i p b ++ [ent (I (i + p)) p] else bks I S i p b
def gath (B : Nat → List Int) : Nat → List Int
  | 0 => []
  | k + 1 => gath B k ++ srt (B k)
def ends (B : Nat → List Int) : Nat → List Nat
  | 0 => []
  | k + 1 => ends B k ++ [(gath B (k + 1)).length]
/-- The block of the last event among the first p places. -/
def lastB (I S : Nat → Int) (i : Nat) : Nat → Int
  | 0 => -1
  | p + 1 => if evt I S (i + p) = true then ((p / 256 : Nat) : Int) else lastB I S i p

structure Jst (s : St) (B : Nat → List Int) : Prop where
  g : s.G = gath B s.E.length
  e : s.E = ends B s.E.length
  l : s.La = B s.E.length
  z : ∀ b, s.E.length < b → B b = []

theorem Jst.comp {s : St} {B : Nat → List Int} (h : Jst s B) : Jst s.comp B := by
  have hE := comp_E s
  have hG : s.comp.G = gath B (s.E.length + 1) := by
    show s.G ++ srt s.La = gath B s.E.length ++ srt (B s.E.length)
    rw [← h.g, ← h.l]
  refine ⟨by rw [hE]; exact hG, ?_, ?_, fun b hb => h.z b (by omega)⟩
  · rw [hE]
    show s.E ++ [(s.G ++ srt s.La).length] = ends B s.E.length ++ [(gath B (s.E.length + 1)).length]
    rw [← h.e, ← hG]
    rfl
  · rw [hE]
    exact (h.z _ (by omega)).symm
theorem Jst.compN (k : Nat) : ∀ {s : St} {B : Nat → List Int}, Jst s B → Jst (compN k s) B := by
  induction k with
  | zero => intro s B h; exact h
  | succ k ih => intro s B h; exact ih h.comp
theorem gath_congr (B C : Nat → List Int) : ∀ k, (∀ b, b < k → B b = C b) → gath B k = gath C k := by
  intro k
  induction k with
  | zero => intro _; rfl
  | succ k ih => intro h; rw [gath, gath, ih (fun b hb => h b (by omega)), h k (by omega)]
theorem ends_congr (B C : Nat → List Int) : ∀ k, (∀ b, b < k → B b = C b) → ends B k = ends C k := by
  intro k
  induction k with
  | zero => intro _; rfl
  | succ k ih => intro h; rw [ends, ends, ih (fun b hb => h b (by omega)), gath_congr B C (k + 1) h]
theorem run_J (I S : Nat → Int) (i p : Nat) : Jst (runSt I S i p) (bks I S i p) := by
  induction p with
  | zero => exact ⟨rfl, rfl, rfl, fun _ _ => rfl⟩
  | succ p ih =>
    rw [runSt]
    have hE := run_E I S i p
    split
    · rename_i hv
      have hadd := add_E (runSt I S i p) (p / 256) (ent (I (i + p)) p) hE
      have hN : Jst (Ybulkcxha.compN (p / 256 - (runSt I S i p).E.length) (runSt I S i p)) (bks I S i p) := Jst.compN _ ih
      have hNE := compN_E (p / 256 - (runSt I S i p).E.length) (runSt I S i p)
      have hc : (Ybulkcxha.compN (p / 256 - (runSt I S i p).E.length) (runSt I S i p)).E.length = p / 256 := by omega
      have hlow : ∀ b, b < p / 256 → bks I S i p b = bks I S i (p + 1) b := fun b hb => by
        rw [bks, if_neg (by omega)]
      refine ⟨?_, ?_, ?_, fun b hb => ?_⟩
      · rw [hadd, ← gath_congr _ _ _ hlow]
        show (Ybulkcxha.compN _ _).G = _
        rw [hN.g, hc]
      · rw [hadd, ← ends_congr _ _ _ hlow]
        show (Ybulkcxha.compN _ _).E = _
        rw [hN.e, hc]
      · rw [hadd, bks, if_pos ⟨hv, rfl⟩]
        show (Ybulkcxha.compN _ _).La ++ [_] = _
        rw [hN.l, hc]
      · rw [hadd] at hb
        rw [bks, if_neg (by omega)]
        exact ih.z b (by omega)
    · rename_i hv
      have hsame : bks I S i (p + 1) = bks I S i p := by
        funext b
        rw [bks, if_neg (fun h => hv h.1)]
      rw [hsame]
      exact ih
theorem last_ge (I S : Nat → Int) (i p : Nat) : -1 ≤ lastB I S i p ∧ lastB I S i p ≤ ((p / 256 : Nat) : Int) := by
  induction p with
  | zero => exact ⟨by simp [lastB], by simp [lastB]⟩
  | succ p ih =>
    rw [lastB]
    split
    · exact ⟨by omega, by omega⟩
    · exact ⟨by omega, by omega⟩
theorem last_run (I S : Nat → Int) (i p : Nat) : (lastB I S i p = -1 → runSt I S i p = ⟨[], [], []⟩) ∧ (0 ≤ lastB I S i p → ((runSt I S i p).E.length : Int) = lastB I S i p) := by
  induction p with
  | zero => exact ⟨fun _ => rfl, fun h => by simp [lastB] at h⟩
  | succ p ih =>
    rw [lastB, runSt]
    split
    · refine ⟨fun h => by omega, fun _ => ?_⟩
      rw [add_E _ _ _ (run_E I S i p)]
    · exact ih
theorem bks_len (I S : Nat → Int) (i p b : Nat) : (bks I S i p b).length ≤ p := by
  induction p with
  | zero => exact Nat.le_refl _
  | succ p ih =>
    rw [bks]
    split
    · simp; omega
    · omega
theorem gath_len_le (B : Nat → List Int) (m : Nat) (h : ∀ b, (B b).length ≤ m) : ∀ k, (gath B k).length ≤ k * m := by
  intro k
  induction k with
  | zero => simp [gath]
  | succ k ih =>
    rw [gath, List.length_append, srt_len, Nat.add_mul]
    have := h k
    omega
theorem ends_len (B : Nat → List Int) : ∀ k, (ends B k).length = k := by
  intro k
  induction k with
  | zero => rfl
  | succ k ih => rw [ends, List.length_append, ih]; rfl
end Go.Proofs.Ybulkcxha
