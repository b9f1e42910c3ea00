import Derived.Test.YbulkcxewC
namespace Go.Proofs.Ybulkcxew
open Go.RowKit

def stepOf (c : Int) (p : Int × Int) : Int × Int := (c + p.1 % 16, c + p.1 % 16 + p.2 % 8)
def curFrom : Int → List (Int × Int) → Int
  | c, [] => c
  | c, p :: t => curFrom ((stepOf c p).2 + 1) t
def spansFrom : Int → List (Int × Int) → List (Int × Int)
  | _, [] => []
  | c, p :: t => stepOf c p :: spansFrom ((stepOf c p).2 + 1) t

theorem curFrom_snoc (c : Int) (l : List (Int × Int)) (p : Int × Int) : curFrom c (l ++ [p]) = (stepOf (curFrom c l) p).2 + 1 := by
  induction l generalizing c with
  | nil => rfl
  | cons q t ih => exact ih _
theorem spansFrom_snoc (c : Int) (l : List (Int × Int)) (p : Int × Int) : spansFrom c (l ++ [p]) = spansFrom c l ++ [stepOf (curFrom c l) p] := by
  induction l generalizing c with
  | nil => rfl
  | cons q t ih => simp only [List.cons_append, spansFrom, curFrom]; rw [ih]
theorem spansFrom_length (c : Int) (l : List (Int × Int)) : (spansFrom c l).length = l.length := by
  induction l generalizing c with
  | nil => rfl
  | cons q t ih => simp [spansFrom, ih]
theorem curFrom_bd (c : Int) (l : List (Int × Int)) : c ≤ curFrom c l ∧ curFrom c l ≤ c + 23 * l.length := by
  induction l generalizing c with
  | nil => simp [curFrom]
  | cons q t ih =>
    have := ih ((stepOf c q).2 + 1)
    simp only [curFrom, List.length_cons]
    simp only [stepOf] at this ⊢
    omega
theorem spansFrom_ge (c : Int) (l : List (Int × Int)) : ∀ j, j < (spansFrom c l).length → c ≤ ((spansFrom c l).getD j (0, 0)).1 := by
  induction l generalizing c with
  | nil => intro j hj; simp [spansFrom] at hj
  | cons q t ih =>
    intro j hj
    match j with
    | 0 => simp [spansFrom, stepOf]; omega
    | j + 1 =>
      have := ih ((stepOf c q).2 + 1) j (by simpa [spansFrom] using hj)
      have e : ((spansFrom c (q :: t)).getD (j + 1) (0, 0)) = ((spansFrom ((stepOf c q).2 + 1) t).getD j (0, 0)) := by simp [spansFrom]
      rw [e]
      simp only [stepOf] at this ⊢
      omega
theorem spansFrom_wide (c : Int) (l : List (Int × Int)) : Wide (spansFrom c l) := by
  induction l generalizing c with
  | nil => intro j hj; simp [spansFrom] at hj
  | cons q t ih =>
    intro j hj
    match j with
    | 0 => simp [spansFrom, stepOf]; omega
    | j + 1 =>
      have := ih ((stepOf c q).2 + 1) j (by simpa [spansFrom] using hj)
      simpa [spansFrom] using this
theorem spansFrom_asc (c : Int) (l : List (Int × Int)) : Asc (spansFrom c l) := by
  induction l generalizing c with
  | nil => intro i j _ hj; simp [spansFrom] at hj
  | cons q t ih =>
    intro i j hij hj
    match i, j, hij with
    | 0, j + 1, _ =>
      have := spansFrom_ge ((stepOf c q).2 + 1) t j (by simpa [spansFrom] using hj)
      simp only [spansFrom, List.getD_cons_zero, List.getD_cons_succ]
      omega
    | i + 1, j + 1, hij =>
      have := ih ((stepOf c q).2 + 1) i j (by omega) (by simpa [spansFrom] using hj)
      simpa [spansFrom] using this
theorem holdsB_snoc (x : Int) (l : List (Int × Int)) (p : Int × Int) : holdsB x (l ++ [p]) = (holdsB x l || (decide (p.1 ≤ x) && decide (x ≤ p.2))) := by
  simp [holdsB]

/-- The cells of a list of spans. -/
def spanCells (sp : List (Int × Int)) : List Value := sp.flatMap fun p => [.int .i64 p.1, .int .i64 p.2]
theorem spanCells_snoc (sp : List (Int × Int)) (p : Int × Int) : spanCells (sp ++ [p]) = spanCells sp ++ [.int .i64 p.1, .int .i64 p.2] := by simp [spanCells]
theorem pair_get {α : Type} (f g : α → Value) (l : List α) (d : α) (i : Nat) (hi : i < l.length) :
    (l.flatMap fun p => [f p, g p])[i * 2]? = some (f (l.getD i d)) ∧ (l.flatMap fun p => [f p, g p])[i * 2 + 1]? = some (g (l.getD i d)) := by
  induction l generalizing i with
  | nil => simp at hi
  | cons p t ih =>
    match i with
    | 0 => simp
    | i + 1 =>
      have := ih i (by simpa using hi)
      rw [show (i + 1) * 2 = i * 2 + 1 + 1 by omega]
      simpa using this
theorem pair_len {α : Type} (f g : α → Value) (l : List α) : (l.flatMap fun p => [f p, g p]).length = l.length * 2 := by
  induction l with
  | nil => rfl
  | cons p t ih => simp [ih]; omega

theorem take_snoc {α : Type} (l : List α) (d : α) (k : Nat) (hk : k < l.length) : l.take (k + 1) = l.take k ++ [l.getD k d] := by
  rw [List.take_add_one, List.getElem?_eq_getElem hk]; simp [List.getD, hk]

/-- From an owned row of spans to 'PartOk'. -/
theorem partOk_of_owns {w : World} {B : Nat} {v : Value} {sp : List (Int × Int)} (hl : sp.length ≤ 1024) (h : w.ownsRow B 31 2 v sp.length (spanCells sp)) : PartOk w B v sp := by
  rcases h.2 with ⟨rfl, h0⟩ | ⟨g, cap, cur, rfl, hb, hh, _⟩
  · exact ⟨none, 0, by rw [h0], hl, .inl h0⟩
  · refine ⟨_, cap, rfl, hl, .inr ⟨g, rfl, hb, (Array.getElem?_eq_some_iff.1 hh).1, fun i hi => ?_⟩⟩
    rw [h.cellAt (i * 2) (by omega), h.cellAt (i * 2 + 1) (by omega)]
    exact pair_get _ _ sp (0, 0) i hi

theorem inner_step {st : List (Int × Int)} {j : Nat} {c pg pl X : Int} {bi bw : Bool} (hj : j < st.length) (hp : st.getD j (0, 0) = (pg, pl)) (hc : c = curFrom (-10) (st.take j)) (hbi : bi = (bw || holdsB X (spansFrom (-10) (st.take j)))) :
    c + pg % 16 + pl % 8 + 1 = curFrom (-10) (st.take (j + 1)) ∧ spanCells (spansFrom (-10) (st.take (j + 1))) = spanCells (spansFrom (-10) (st.take j)) ++ [.int .i64 (c + pg % 16), .int .i64 (c + pg % 16 + pl % 8)] ∧
    (bi || (decide (c + pg % 16 ≤ X) && decide (X ≤ c + pg % 16 + pl % 8))) = (bw || holdsB X (spansFrom (-10) (st.take (j + 1)))) := by
  rw [take_snoc st (0, 0) j hj, hp, curFrom_snoc, spansFrom_snoc, spanCells_snoc, holdsB_snoc, ← hc, hbi]
  refine ⟨rfl, rfl, ?_⟩
  simp only [stepOf, Bool.or_assoc]
  rfl

theorem owns_below {w w' : World} {base : Nat} {e : TypeId} {size : Nat} {v : Value} {n : Nat} {xs : List Value} (h : w.ownsRow base e size v n xs) (hb : Below w.heap.size w w') : w'.ownsRow base e size v n xs := by
  refine ⟨h.1, ?_⟩
  rcases h.2 with hn | ⟨g, cap, cur, rfl, hbg, hgg, rest⟩
  · exact .inl hn
  · exact .inr ⟨g, cap, cur, rfl, hbg, (hb.block g (Array.getElem?_eq_some_iff.1 hgg).1).trans hgg, rest⟩

theorem PartOk.grown {w w' : World} {B r : Nat} {v : Value} {sp : List (Int × Int)} (h : PartOk w B v sp) (hg : w.grownBy w' (some r)) (hr : r < B) : PartOk w' B v sp := by
  obtain ⟨ao, cap, rfl, hn, h0 | ⟨b, rfl, hB, hlt, hc⟩⟩ := h
  · exact ⟨ao, cap, rfl, hn, .inl h0⟩
  · refine ⟨_, cap, rfl, hn, .inr ⟨b, rfl, hB, Nat.lt_of_lt_of_le hlt hg.size, fun i hi => ?_⟩⟩
    have e := hg.block b hlt (by intro e; cases e; omega)
    rw [World.cell?_of_block (w := w) (w' := w') (a := ⟨b, i * 2, none⟩) e, World.cell?_of_block (w := w) (w' := w') (a := ⟨b, i * 2 + 1, none⟩) e]
    exact hc i hi
theorem PartOk.mono {w : World} {B B' : Nat} {v : Value} {sp : List (Int × Int)} (h : PartOk w B v sp) (hB : B' ≤ B) : PartOk w B' v sp := by
  obtain ⟨ao, cap, rfl, hn, h0 | ⟨b, rfl, hb, hlt, hc⟩⟩ := h
  · exact ⟨ao, cap, rfl, hn, .inl h0⟩
  · exact ⟨_, cap, rfl, hn, .inr ⟨b, rfl, by omega, hlt, hc⟩⟩

theorem flat_succ (St : Nat → Int) (Vs : Nat → Value) (z : Int) (v : Value) (k : Nat) :
    (List.range (k + 1)).flatMap (fun i => [Value.int .u8 (if i = k then z else St i), if i = k then v else Vs i]) = (List.range k).flatMap (fun i => [Value.int .u8 (St i), Vs i]) ++ [.int .u8 z, v] := by
  rw [List.range_succ, List.flatMap_append]
  congr 1
  · rw [List.flatMap_def, List.flatMap_def]
    congr 1
    refine List.map_congr_left fun i hi => ?_
    have : i ≠ k := by have := List.mem_range.1 hi; omega
    simp [this]
  · simp

theorem inner_world {wo wr w2 : World} {o1 o2 : Obj} {u v' : Value} {j : Nat} {xs news ys : List Value} (hbeli : Below wo.heap.size wo wr) (howni : wr.ownsRow wo.heap.size 31 2 u j xs)
    (hown2 : w2.ownsRow wo.heap.size 31 2 v' (j + 1) (xs ++ news)) (hgrow2 : ((wr.alloc o1).alloc o2).grownBy w2 u.ownBlock) (E2 : Hid (ys = xs ++ news)) :
    Hid (w2.ownsRow wo.heap.size 31 2 v' (j + 1) ys) ∧ Below wo.heap.size wo w2 := by
  have h1 := hbeli.size
  refine ⟨by rw [E2.out]; exact hown2, ((hbeli.alloc h1 _).alloc (by simp; omega) _).grown hgrow2 (by simp; omega) (fun q hq => (howni.lt q hq).1)⟩

/-- What one turn of the outer loop leaves. -/
theorem outer_step {w wo wr w3 : World} {o : Obj} {k m : Nat} {St : Nat → Int} {Vs : Nat → Value} {S : Nat → List (Int × Int)} {z : Int} {v : Value}
    (hbel : Below w.heap.size w wo) (hsz : w.heap.size < wo.heap.size) (hbeli : Below wo.heap.size wo wr) (hparts : ∀ i, i < k → PartOk wo (w.heap.size + 1) (Vs i) (S i)) (hp : PartOk wr wo.heap.size v (S k))
    (hown3 : w3.ownsRow w.heap.size 34 2 (.slice (some ⟨w.heap.size, 0, none⟩) (k + 1) m) (k + 1) ((List.range k).flatMap (fun i => [Value.int .u8 (St i), Vs i]) ++ [.int .u8 z, v])) (hgrow3 : (wr.alloc o).grownBy w3 (some w.heap.size)) :
    w3.ownsRow w.heap.size 34 2 (.slice (some ⟨w.heap.size, 0, none⟩) (k + 1) m) (k + 1) ((List.range (k + 1)).flatMap fun i => [Value.int .u8 (if i = k then z else St i), if i = k then v else Vs i]) ∧
    Below w.heap.size w w3 ∧ w.heap.size < w3.heap.size ∧ ∀ i, i < k + 1 → PartOk w3 (w.heap.size + 1) (if i = k then v else Vs i) (S i) := by
  have h1 := hbeli.size
  have h2 := hgrow3.size
  have h3 : wr.heap.size + 1 = (wr.alloc o).heap.size := by simp
  refine ⟨by rw [flat_succ]; exact hown3, ((hbel.trans (hbeli.mono (by omega))).alloc (by omega) o).grown hgrow3 (by omega) (fun j hj => by cases hj; omega), by omega, fun i hi => ?_⟩
  have up : ∀ u sp, PartOk wr (w.heap.size + 1) u sp → PartOk w3 (w.heap.size + 1) u sp := fun u sp h =>
    (h.below ((Below.refl wr.heap.size wr).alloc (Nat.le_refl _) o) (Nat.le_refl _)).grown hgrow3 (by omega)
  by_cases hik : i = k
  · subst hik
    rw [if_pos rfl]
    exact up _ _ (hp.mono (by omega))
  · rw [if_neg hik]
    exact up _ _ ((hparts i (by omega)).below hbeli (Nat.le_refl _))
end Go.Proofs.Ybulkcxew
