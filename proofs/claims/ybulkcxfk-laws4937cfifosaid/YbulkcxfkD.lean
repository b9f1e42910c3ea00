import Derived.Test.YbulkcxfkC
namespace Go.Proofs.Ybulkcxfk
open Go.RowKit

/-- 'xs = append(xs, u)' WITH ROOM, xs CUT ANYWHERE OUT OF A ROW OF THE CALL's OWN; one cell an element. -/
theorem wpList_append_one {P : Program} (w : World) {ops : Array Oper} {rest : List Oper} {o : Oper} {a : Act} {Q : Exit → Act → World → Prop}
    (hg : o.guard = none) (s x : Operand) (t : TypeId) (hop : o.op = Op.call { callee := Callee.builtin Builtin.append, args := #[s, x], argTypes := #[t, t] })
    (e : TypeId) (i : TypeInfo) (h1 : P.underlying t = some (.slice e)) (h2 : P.info? e = some i) (h4 : i.size = 1)
    (M off L c : Nat) (hs : a.eval s = .slice (some ⟨M, off, none⟩) L c) (ad : Addr) (c2 : Nat) (u : Value) (hx : a.eval x = .slice (some ad) 1 c2) (hcell : w.cell? ad = some u) (h1c : u.oneCell' = true)
    (cs : List Value) (hM : Blk w M cs e) (hfit : off + L < cs.length) (hroom : L + 1 ≤ c)
    (hK : ∀ w', Blk w' M (cs.set (off + L) u) e → Fx (fun k => k = M) w w' → wpList P ops Q rest (a.put o.dst (.slice (some ⟨M, off, none⟩) (L + 1) c)) w') :
    wpList P ops Q (o :: rest) a w := by
  refine wpList_plain hg fun K hK' => ?_
  have hf := run_firstCells_some (P := P) w i.size 1 ad 1 c2 [u] (by simp [h4]) (by
    intro j v hj
    match j, hj with
    | 0, hj => simp at hj; subst hj; simpa [Addr.add] using hcell)
  have hst := run_storeCells_at P M (off + L) e [u] 0 cs.toArray w hM (by simp; omega) (by intro v hv; simp at hv; subst hv; exact h1c)
  simp only [Nat.add_zero] at hst
  have hrun : (Builtin.append_ #[t, t] o.type #[.slice (some ⟨M, off, none⟩) L c, .slice (some ad) 1 c2]).run P w =
      .ok (.slice (some ⟨M, off, none⟩) (L + 1) c) (w.setRow M (cs.toArray.toList.take (off + L) ++ [u] ++ cs.toArray.toList.drop (off + L + [u].length)).toArray) := by
    rw [h4] at hf
    simp [Builtin.append_, run_underlying h1, sizeOf, typeInfo, h2, h4, Builtin.lenOf, hroom, hf, Addr.add_lit, hst]
  unfold Oper.wp
  simp only [execOp, hop, resolve, invoke, builtin, Sem.run_bind, Sem.run_pure, Result.andThen_ok, List.map_toArray, List.map_cons, List.map_nil, hs, hx, hrun]
  refine hK' _ _ (hK _ ?_ ?_)
  · have := setRow_heap w M cs.toArray (cs.toArray.toList.take (off + L) ++ [u] ++ cs.toArray.toList.drop (off + L + [u].length)).toArray e _ hM
    unfold Blk
    rw [this]
    have e1 : cs.set (off + L) u = cs.take (off + L) ++ [u] ++ cs.drop (off + L + 1) := by
      rw [List.set_eq_take_append_cons_drop, if_pos hfit]; simp
    rw [e1]
    rfl
  · exact ⟨rfl, rfl, rfl, by simp, fun k _ hk => setRow_other w M k _ hk⟩

def MOk (w : World) (M : Nat) (t : TypeId) (n o : Nat) (vals : List Value) : Prop := ∃ cs, Blk w M cs t ∧ cs.length = n ∧ ∀ i, i < vals.length → cs[o + i]? = vals[i]?
theorem MOk.fx {w w' : World} {M : Nat} {t : TypeId} {n o : Nat} {vals : List Value} {S : Nat → Prop} (h : MOk w M t n o vals) (hf : Fx S w w') (hS : ¬ S M) : MOk w' M t n o vals := by
  obtain ⟨cs, h1, h2, h3⟩ := h
  exact ⟨cs, h1.fx hf hS, h2, h3⟩
theorem MOk.cell {w : World} {M : Nat} {t : TypeId} {n o : Nat} {vals : List Value} (h : MOk w M t n o vals) (i : Nat) (hi : i < vals.length) : w.cell? ⟨M, o + i, none⟩ = vals[i]? := by
  obtain ⟨cs, h1, h2, h3⟩ := h
  rw [h1.cell, h3 i hi]
theorem MOk.tail {w : World} {M : Nat} {t : TypeId} {n o c : Nat} {v : Value} {vals : List Value} (h : MOk w M t n o (v :: vals)) (hc : vals.length < c) : MOk w M t n (if c = 1 then o else o + 1) vals := by
  obtain ⟨cs, h1, h2, h3⟩ := h
  refine ⟨cs, h1, h2, fun i hi => ?_⟩
  rw [if_neg (by omega)]
  have := h3 (i + 1) (by simp; omega)
  rw [show o + 1 + i = o + (i + 1) by omega, this]
  simp
theorem MOk.snoc {w' : World} {M : Nat} {t : TypeId} {n o : Nat} {u : Value} {vals cs : List Value} (h2 : cs.length = n) (h3 : ∀ i, i < vals.length → cs[o + i]? = vals[i]?) (hb : Blk w' M (cs.set (o + vals.length) u) t)
    (hf : o + vals.length < n) : MOk w' M t n o (vals ++ [u]) := by
  refine ⟨_, hb, by simpa using h2, fun i hi => ?_⟩
  simp at hi
  rcases Nat.lt_or_ge i vals.length with hlt | hge
  · rw [List.getElem?_set_ne (by omega), h3 i hlt, List.getElem?_append_left hlt]
  · obtain rfl : i = vals.length := by omega
    rw [List.getElem?_set_self (by omega)]
    simp

/-- What holds ahead of every step of the script. -/
structure Inv (w0 w : World) (A n o c : Nat) (ns : List (Nat × Int)) : Prop where
  q : QOk w w0.heap.size ns
  m : MOk w (w0.heap.size + 1) 37 n o (ns.map fun p => P0 p.1)
  a : MOk w (A) 3 n o (ns.map fun p => .int .i64 p.2)
  len : ns.length ≤ c
  room : o + c ≤ n
  far : ∀ p ∈ ns, A < p.1
  size : A + 1 ≤ w.heap.size
  bel : Below w0.heap.size w0 w
  hA : w0.heap.size + 1 < A

theorem Inv.fx {w0 w w' : World} {A n o c : Nat} {ns : List (Nat × Int)} {S : Nat → Prop} (h : Inv w0 w A n o c ns) (hf : Fx S w w') (hS : ∀ k, S k → A < k ∧ ∀ p ∈ ns, k ≠ p.1) : Inv w0 w' A n o c ns :=
  ⟨h.q.fx hf (fun hs => by have := (hS _ hs).1; have := h.hA; omega) (fun p hp hs => (hS _ hs).2 p hp rfl), h.m.fx hf (fun hs => by have := (hS _ hs).1; have := h.hA; omega), h.a.fx hf (fun hs => by have := (hS _ hs).1; omega), h.len, h.room, h.far,
    Nat.le_trans h.size hf.size, h.bel.trans (hf.below (by have := h.size; have := h.hA; omega) (fun k hk hs => by have := (hS _ hs).1; have := h.hA; omega)), h.hA⟩

/-- behind a pop -/
theorem Inv.pop {w0 w w' : World} {A n o c : Nat} {b : Nat} {a : Int} {ns : List (Nat × Int)} (h : Inv w0 w A n o c ((b, a) :: ns)) (hq : QOk w' w0.heap.size ns) (hf : Fx (fun k => k = w0.heap.size ∨ k = b) w w') :
    Inv w0 w' A n (if c = 1 then o else o + 1) (c - 1) ns := by
  have hl := h.len
  have hb := h.far (b, a) (by simp)
  have hA := h.hA
  simp at hl hb
  have hm : MOk w (w0.heap.size + 1) 37 n (if c = 1 then o else o + 1) (ns.map fun p => P0 p.1) := MOk.tail (v := P0 b) h.m (by simp; omega)
  have ha : MOk w (A) 3 n (if c = 1 then o else o + 1) (ns.map fun p => .int .i64 p.2) := MOk.tail (v := .int .i64 a) h.a (by simp; omega)
  refine ⟨hq, hm.fx hf (by omega), ha.fx hf (by omega), by omega, by have := h.room; split <;> omega, fun p hp => h.far p (by simp [hp]), Nat.le_trans h.size hf.size,
    h.bel.trans (hf.below (by have := h.size; omega) (fun k hk hs => by omega)), h.hA⟩

theorem chain_any (w0 w : World) (A n o c cap : Nat) (ns : List (Nat × Int)) (L : Nat) (hL : L = ns.length) (h : Inv w0 w A n o c ns) (hn : n ≤ 1024) :
    Calls Yba.prog 11 #[P0 w0.heap.size, .slice (some ⟨w0.heap.size + 1, o, none⟩) L cap] w fun e w' => e = .returned (.bool true) ∧ ∃ q, w' = w.drewN q := by
  subst hL
  match ns, h with
  | [], h => exact (chain_empty _ _ _ w h.q).mono fun e w' ⟨h1, h2⟩ => ⟨h1, 0, h2⟩
  | p :: t, h =>
    have hg : ∀ i, i < (p :: t).length → (p :: t)[i]? = some ((p :: t).getD i (0, 0)) := fun i hi => by simp [List.getD, List.getElem?_eq_getElem hi]
    refine chain_walk _ _ o (p :: t).length cap (fun i => ((p :: t).getD i (0, 0)).1) w (by simp) (by have := h.len; have := h.room; omega) ?_ ?_ ?_ ?_
    · rw [h.q.blk.cell 0]; simp [nxt]
    · rw [h.q.blk.cell 1]
      simp only [lst, List.getLast?_eq_getElem?]
      rw [hg _ (by simp)]
      simp
    · intro i hi
      rw [h.m.cell i (by simpa using hi), List.getElem?_map, hg i hi]
      rfl
    · have gen : ∀ (l : List (Nat × Int)) (hs : Seg w l PN) (i : Nat), i < l.length → w.cell? ⟨(l.getD i (0, 0)).1, 2, none⟩ = some (if i + 1 < l.length then P0 (l.getD (i + 1) (0, 0)).1 else PN) := by
        intro l
        induction l with
        | nil => intro _ i hi; simp at hi
        | cons q t ih =>
          intro hs i hi
          match i with
          | 0 =>
            simp only [List.getD_cons_zero]
            rw [hs.1.cell 2]
            cases t with
            | nil => simp [nxt]
            | cons r t => simp [nxt]
          | i + 1 =>
            have := ih hs.2 i (by simpa using hi)
            simpa using this
      exact gen _ h.q.seg

theorem popcheck_any (w0 w : World) (A n o c : Nat) (ns : List (Nat × Int)) (h : Inv w0 w A n o c ns) :
    Calls Yba.prog 10 #[P0 w0.heap.size, .slice (some ⟨w0.heap.size + 1, o, none⟩) ns.length c, .slice (some ⟨A, o, none⟩) ns.length c] w fun e w' =>
      ∃ o' c' ns', e = .returned (.tuple #[.slice (some ⟨w0.heap.size + 1, o', none⟩) ns'.length c', .slice (some ⟨A, o', none⟩) ns'.length c', .bool true]) ∧ Inv w0 w' A n o' c' ns' ∧ ns' = ns.tail ∧ ns'.length + c ≤ ns.length + c' ∧ c' ≤ c := by
  match ns, h with
  | [], h =>
    refine (popcheck_empty _ _ _ _ _ w h.q).mono ?_
    rintro e w' ⟨rfl, rfl⟩
    exact ⟨o, c, [], rfl, h, rfl, Nat.le_refl _, Nat.le_refl _⟩
  | (b, a) :: t, h =>
    have hb := h.far (b, a) (by simp)
    have hA := h.hA
    simp at hb
    refine (popcheck_cons w0.heap.size (w0.heap.size + 1) A o b ((b, a) :: t).length c a t w h.q (by simp) h.len ?_ ?_ (by omega) (by omega) (by omega) (by omega)).mono ?_
    · have := h.m.cell 0 (by simp); simpa using this
    · have := h.a.cell 0 (by simp); simpa using this
    · rintro e w' ⟨rfl, hq, hf⟩
      have hl := h.len
      simp at hl
      exact ⟨_, _, t, by simp, h.pop hq hf, rfl, by simp; omega, by omega⟩
end Go.Proofs.Ybulkcxfk
