import Derived.Test.YbulkcxfyB
namespace Go.Proofs.Ybulkcxfy
open Go.RowKit

def toOf (t : Int) : Int := t % 4 + 1
def locK (me : Int) : Nat → List Int → List Int
  | _, [] => []
  | i, t :: r => if toOf t = me then (i : Int) :: locK me (i + 1) r else locK me (i + 1) r
def sndK (me : Int) : Nat → List Int → List (Int × Int)
  | _, [] => []
  | i, t :: r => if toOf t = me then sndK me (i + 1) r else (toOf t, (i : Int)) :: sndK me (i + 1) r
theorem locK_append (me : Int) (xs ys : List Int) : ∀ i, locK me i (xs ++ ys) = locK me i xs ++ locK me (i + xs.length) ys := by
  induction xs with
  | nil => intro i; simp [locK]
  | cons t r ih =>
    intro i
    simp only [List.cons_append, locK, ih, List.length_cons]
    rw [show i + 1 + r.length = i + (r.length + 1) by omega]
    split <;> simp
theorem sndK_append (me : Int) (xs ys : List Int) : ∀ i, sndK me i (xs ++ ys) = sndK me i xs ++ sndK me (i + xs.length) ys := by
  induction xs with
  | nil => intro i; simp [sndK]
  | cons t r ih =>
    intro i
    simp only [List.cons_append, sndK, ih, List.length_cons]
    rw [show i + 1 + r.length = i + (r.length + 1) by omega]
    split <;> simp
theorem take_snoc {α : Type} (l : List α) (d : α) (k : Nat) (hk : k < l.length) : l.take (k + 1) = l.take k ++ [l.getD k d] := by
  rw [List.take_add_one, List.getElem?_eq_getElem hk]; simp [List.getD, hk]
theorem split_at {α : Type} (l : List α) (d : α) (k : Nat) (hk : k < l.length) : l = l.take k ++ (l.getD k d :: l.drop (k + 1)) := by
  rw [show l.getD k d = l[k] by simp [List.getD, hk], List.getElem_cons_drop hk, List.take_append_drop]
theorem lens (me : Int) (ts : List Int) : ∀ i, (locK me i ts).length ≤ ts.length ∧ (sndK me i ts).length ≤ ts.length := by
  induction ts with
  | nil => intro i; simp [locK, sndK]
  | cons t r ih =>
    intro i
    have := ih (i + 1)
    simp only [locK, sndK, List.length_cons]
    split <;> simp <;> omega

def preK (np : Nat) : List Int := (List.range np).map fun (j : Nat) => -1 - (j : Int)
def preS (np : Nat) : List (Int × Int) := (List.range np).map fun (j : Nat) => (9, -1 - (j : Int))
theorem preK_succ (j : Nat) : preK (j + 1) = preK j ++ [-1 - (j : Int)] := by simp [preK, List.range_succ]
theorem preS_succ (j : Nat) : preS (j + 1) = preS j ++ [(9, -1 - (j : Int))] := by simp [preS, List.range_succ]
theorem preK_len (j : Nat) : (preK j).length = j := by simp [preK]
theorem preS_len (j : Nat) : (preS j).length = j := by simp [preS]

def KL (L : List (Nat × Int)) : List Int := L.map fun p => p.2
def KS (Sd : List (Int × Nat × Int)) : List (Int × Int) := Sd.map fun p => (p.1, p.2.2)
theorem KL_snoc (L : List (Nat × Int)) (b : Nat) (k : Int) : KL (L ++ [(b, k)]) = KL L ++ [k] := by simp [KL]
theorem KS_snoc (Sd : List (Int × Nat × Int)) (to : Int) (b : Nat) (k : Int) : KS (Sd ++ [(to, b, k)]) = KS Sd ++ [(to, k)] := by simp [KS]
theorem KL_len (L : List (Nat × Int)) : (KL L).length = L.length := by simp [KL]
theorem KS_len (Sd : List (Int × Nat × Int)) : (KS Sd).length = Sd.length := by simp [KS]

/-- what is read of the local queue at i -/
theorem Rep.readLoc {H : Nat} {w : World} {R : Nat} {me n : Int} {L : List (Nat × Int)} {Sd : List (Int × Nat × Int)} {cs : List Value} {ao : Option Addr} {m c : Nat} {sv : Value} (h : Rep H w R me n L Sd cs (.slice ao m c) sv) (i : Nat) (k : Int) (hk : (KL L)[i]? = some k) :
    ∃ g b, ao = some ⟨g, 0, none⟩ ∧ w.cell? ⟨g, i, none⟩ = some (Mg b) ∧ Blk w b [.int .i64 k] 105 := by
  have hi : i < L.length := by have := (List.getElem?_eq_some_iff.1 hk).1; rwa [KL_len] at this
  have e : (KL L)[i]? = some (L[i]).2 := by simp [KL, hi]
  rw [e] at hk
  obtain rfl := Option.some.inj hk
  have hm := h.mloc L[i] (List.getElem_mem hi)
  have ho := h.loc
  rcases ho.2 with ⟨_, h0⟩ | ⟨g, cap, cur, hv, _⟩
  · omega
  · cases hv
    refine ⟨g, L[i].1, rfl, ?_, hm⟩
    rw [ho.cellAt i (by omega)]
    simp [locCells, hi]
theorem snd_get (Sd : List (Int × Nat × Int)) : ∀ (i : Nat) (hi : i < Sd.length), (sndCells Sd)[i * 2]? = some (.int .i64 (Sd[i]).1) ∧ (sndCells Sd)[i * 2 + 1]? = some (Mg (Sd[i]).2.1) := by
  induction Sd with
  | nil => intro i hi; simp at hi
  | cons p t ih =>
    intro i hi
    match i with
    | 0 => simp [sndCells]
    | i + 1 =>
      have := ih i (by simpa using hi)
      rw [show (i + 1) * 2 = i * 2 + 1 + 1 by omega]
      simpa [sndCells] using this
theorem Rep.readSnd {H : Nat} {w : World} {R : Nat} {me n : Int} {L : List (Nat × Int)} {Sd : List (Int × Nat × Int)} {cs : List Value} {ao : Option Addr} {m c : Nat} {lv : Value} (h : Rep H w R me n L Sd cs lv (.slice ao m c)) (i : Nat) (to k : Int) (hk : (KS Sd)[i]? = some (to, k)) :
    ∃ g b, ao = some ⟨g, 0, none⟩ ∧ w.cell? ⟨g, i * 2, none⟩ = some (.int .i64 to) ∧ w.cell? ⟨g, i * 2 + 1, none⟩ = some (Mg b) ∧ Blk w b [.int .i64 k] 105 := by
  have hi : i < Sd.length := by have := (List.getElem?_eq_some_iff.1 hk).1; rwa [KS_len] at this
  have e : (KS Sd)[i]? = some ((Sd[i]).1, (Sd[i]).2.2) := by simp [KS, hi]
  rw [e] at hk
  simp only [Option.some.injEq, Prod.mk.injEq] at hk
  obtain ⟨rfl, rfl⟩ := hk
  have hm := h.msnd Sd[i] (List.getElem_mem hi)
  have ho := h.snd
  rcases ho.2 with ⟨_, h0⟩ | ⟨g, cap, cur, hv, _⟩
  · omega
  · cases hv
    have sg := snd_get Sd i hi
    refine ⟨g, Sd[i].2.1, rfl, ?_, ?_, hm⟩
    · rw [ho.cellAt (i * 2) (by omega)]; exact sg.1
    · rw [ho.cellAt (i * 2 + 1) (by omega)]; exact sg.2

/-- where the t-th message stands -/
theorem locK_at (me : Int) (ts : List Int) (t : Nat) (ht : t < ts.length) (h : toOf (ts.getD t 0) = me) (np : Nat) :
    (preK np ++ locK me 0 ts)[np + (locK me 0 (ts.take t)).length]? = some (t : Int) := by
  have e : locK me 0 ts = locK me 0 (ts.take t) ++ locK me t (ts.getD t 0 :: ts.drop (t + 1)) := by
    conv => lhs; rw [split_at ts 0 t ht, locK_append]
    rw [List.length_take, Nat.min_eq_left (by omega), Nat.zero_add]
  rw [List.getElem?_append_right (by rw [preK_len]; omega), preK_len, e, List.getElem?_append_right (by omega)]
  simp only [locK, if_pos h]
  rw [show np + (locK me 0 (ts.take t)).length - np - (locK me 0 (ts.take t)).length = 0 by omega]
  rfl
theorem sndK_at (me : Int) (ts : List Int) (t : Nat) (ht : t < ts.length) (h : toOf (ts.getD t 0) ≠ me) (np : Nat) :
    (preS np ++ sndK me 0 ts)[np + (sndK me 0 (ts.take t)).length]? = some (toOf (ts.getD t 0), (t : Int)) := by
  have e : sndK me 0 ts = sndK me 0 (ts.take t) ++ sndK me t (ts.getD t 0 :: ts.drop (t + 1)) := by
    conv => lhs; rw [split_at ts 0 t ht, sndK_append]
    rw [List.length_take, Nat.min_eq_left (by omega), Nat.zero_add]
  rw [List.getElem?_append_right (by rw [preS_len]; omega), preS_len, e, List.getElem?_append_right (by omega)]
  simp only [sndK, if_neg h]
  rw [show np + (sndK me 0 (ts.take t)).length - np - (sndK me 0 (ts.take t)).length = 0 by omega]
  rfl
theorem locK_step (me : Int) (ts : List Int) (t : Nat) (ht : t < ts.length) : locK me 0 (ts.take (t + 1)) = locK me 0 (ts.take t) ++ (if toOf (ts.getD t 0) = me then [(t : Int)] else []) := by
  rw [take_snoc ts 0 t ht, locK_append, List.length_take, Nat.min_eq_left (by omega), Nat.zero_add]
  simp only [locK]
theorem sndK_step (me : Int) (ts : List Int) (t : Nat) (ht : t < ts.length) : sndK me 0 (ts.take (t + 1)) = sndK me 0 (ts.take t) ++ (if toOf (ts.getD t 0) = me then [] else [(toOf (ts.getD t 0), (t : Int))]) := by
  rw [take_snoc ts 0 t ht, sndK_append, List.length_take, Nat.min_eq_left (by omega), Nat.zero_add]
  simp only [sndK]
end Go.Proofs.Ybulkcxfy
