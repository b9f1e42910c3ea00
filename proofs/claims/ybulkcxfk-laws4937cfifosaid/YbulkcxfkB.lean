import Derived.Test.YbulkcxfkA
namespace Go.Proofs.Ybulkcxfk
open Go.RowKit

def nxt (ns : List (Nat × Int)) (v : Value) : Value := match ns with
  | [] => v
  | p :: _ => P0 p.1
def lst (ns : List (Nat × Int)) : Value := match ns.getLast? with
  | none => PN
  | some p => P0 p.1
def Seg (w : World) : List (Nat × Int) → Value → Prop
  | [], _ => True
  | p :: t, v => Blk w p.1 [.int .i64 p.2, .chan none, nxt t v] 46 ∧ Seg w t v

theorem Seg.fx {w w' : World} {ns : List (Nat × Int)} {v : Value} {S : Nat → Prop} (h : Seg w ns v) (hf : Fx S w w') (hS : ∀ p ∈ ns, ¬ S p.1) : Seg w' ns v := by
  induction ns with
  | nil => trivial
  | cons p t ih => exact ⟨h.1.fx hf (hS p (by simp)), ih h.2 (fun q hq => hS q (by simp [hq]))⟩
theorem Seg.append {w : World} {xs ys : List (Nat × Int)} {v : Value} (h : Seg w (xs ++ ys) v) : Seg w xs (nxt ys v) ∧ Seg w ys v := by
  induction xs with
  | nil => exact ⟨trivial, h⟩
  | cons p t ih =>
    obtain ⟨h1, h2⟩ := ih h.2
    refine ⟨⟨?_, h1⟩, h2⟩
    have e : nxt (t ++ ys) v = nxt t (nxt ys v) := by cases t <;> rfl
    have h3 : Blk w p.1 [.int .i64 p.2, .chan none, nxt (t ++ ys) v] 46 := h.1
    rw [e] at h3
    exact h3
theorem Seg.join {w : World} {xs ys : List (Nat × Int)} {v : Value} (h1 : Seg w xs (nxt ys v)) (h2 : Seg w ys v) : Seg w (xs ++ ys) v := by
  induction xs with
  | nil => exact h2
  | cons p t ih =>
    refine ⟨?_, ih h1.2⟩
    have e : nxt (t ++ ys) v = nxt t (nxt ys v) := by cases t <;> rfl
    have := h1.1
    rw [← e] at this
    exact this
theorem Seg.lt {w : World} {ns : List (Nat × Int)} {v : Value} (h : Seg w ns v) : ∀ p ∈ ns, p.1 < w.heap.size := by
  induction ns with
  | nil => intro p hp; simp at hp
  | cons q t ih =>
    intro p hp
    rcases List.mem_cons.1 hp with rfl | hp
    · exact h.1.lt
    · exact ih h.2 p hp

structure QOk (w : World) (Q : Nat) (ns : List (Nat × Int)) : Prop where
  blk : Blk w Q [nxt ns PN, lst ns] 39
  seg : Seg w ns PN
  nodup : (ns.map Prod.fst).Nodup
  notQ : ∀ p ∈ ns, p.1 ≠ Q

theorem QOk.fx {w w' : World} {Q : Nat} {ns : List (Nat × Int)} {S : Nat → Prop} (h : QOk w Q ns) (hf : Fx S w w') (hQ : ¬ S Q) (hS : ∀ p ∈ ns, ¬ S p.1) : QOk w' Q ns :=
  ⟨h.blk.fx hf hQ, h.seg.fx hf hS, h.nodup, h.notQ⟩

theorem nodup_snoc {l : List Nat} {b : Nat} (h : l.Nodup) (hb : b ∉ l) : (l ++ [b]).Nodup := by
  rw [List.nodup_append]
  exact ⟨h, by simp, fun x hx y hy e => by simp at hy; subst hy; subst e; exact hb hx⟩

theorem push_any (Q b : Nat) (a : Int) (ns : List (Nat × Int)) (w : World) (h : QOk w Q ns) (hb : Blk w b [.int .i64 a, .chan none, PN] 46) (hQb : Q ≠ b) (hnb : ∀ p ∈ ns, p.1 ≠ b) :
    Calls Yba.prog 9 #[P0 Q, P0 b] w fun e w' => e = .returned (.tuple #[]) ∧ QOk w' Q (ns ++ [(b, a)]) ∧ Fx (fun k => k = Q ∨ k = b ∨ ∃ p ∈ ns, k = p.1) w w' := by
  have hnd : ((ns ++ [(b, a)]).map Prod.fst).Nodup := by
    rw [List.map_append, List.nodup_append]
    refine ⟨h.nodup, by simp, ?_⟩
    intro x hx y hy
    simp at hy
    subst hy
    obtain ⟨p, hp, rfl⟩ := List.mem_map.1 hx
    exact hnb p hp
  have hnQ : ∀ p ∈ ns ++ [(b, a)], p.1 ≠ Q := by
    intro p hp
    rcases List.mem_append.1 hp with hp | hp
    · exact h.notQ p hp
    · simp at hp; subst hp; exact fun e => hQb e.symm
  rcases List.eq_nil_or_concat ns with rfl | ⟨xs, ⟨t, at'⟩, rfl⟩
  · refine (push_nil Q b _ _ _ _ w h.blk hb hQb).mono ?_
    rintro e w' ⟨rfl, r1, r2, r3⟩
    exact ⟨rfl, ⟨r1, ⟨r2, trivial⟩, hnd, hnQ⟩, r3.mono (fun k _ hk => hk.elim .inl (fun e => .inr (.inl e)))⟩
  · rw [List.concat_eq_append] at h hnb hnd hnQ ⊢
    have hl : lst (xs ++ [(t, at')]) = P0 t := by simp [lst]
    have hblk := h.blk
    rw [hl] at hblk
    obtain ⟨s1, s2⟩ := h.seg.append
    have htQ : Q ≠ t := fun e => h.notQ (t, at') (by simp) e.symm
    have htb : b ≠ t := fun e => hnb (t, at') (by simp) e.symm
    refine (push_some Q b t _ _ _ _ _ _ _ w hblk hb s2.1 hQb htQ htb).mono ?_
    rintro e w' ⟨rfl, r1, r2, r3, r4⟩
    refine ⟨rfl, ⟨?_, ?_, hnd, hnQ⟩, r4.mono ?_⟩
    · have e1 : nxt ((xs ++ [(t, at')]) ++ [(b, a)]) PN = nxt (xs ++ [(t, at')]) PN := by cases xs <;> rfl
      have e2 : lst ((xs ++ [(t, at')]) ++ [(b, a)]) = P0 b := by simp [lst]
      rw [e1, e2]
      exact r1
    · rw [List.append_assoc]
      refine Seg.join ?_ ⟨r3, r2, trivial⟩
      have hnd' := h.nodup
      rw [List.map_append, List.nodup_append] at hnd'
      refine s1.fx r4 ?_
      intro p hp
      have h1 : p.1 ≠ Q := h.notQ p (by simp [hp])
      have h2 : p.1 ≠ b := hnb p (by simp [hp])
      have h3 : p.1 ≠ t := hnd'.2.2 p.1 (List.mem_map.2 ⟨p, hp, rfl⟩) t (by simp)
      rintro (e | e | e)
      · exact h1 e
      · exact h2 e
      · exact h3 e
    · intro k _ hk
      rcases hk with e | e | e
      · exact .inl e
      · exact .inr (.inl e)
      · exact .inr (.inr ⟨(t, at'), by simp, e⟩)

theorem pop_empty (Q : Nat) (w : World) (h : QOk w Q []) : Calls Yba.prog 12 #[P0 Q] w fun e w' => e = .returned PN ∧ w' = w := pop_nil Q _ w h.blk

theorem pop_cons (Q b : Nat) (a : Int) (ns : List (Nat × Int)) (w : World) (h : QOk w Q ((b, a) :: ns)) :
    Calls Yba.prog 12 #[P0 Q] w fun e w' => e = .returned (P0 b) ∧ QOk w' Q ns ∧ Blk w' b [.int .i64 a, .chan none, PN] 46 ∧ Fx (fun k => k = Q ∨ k = b) w w' := by
  have hQb : Q ≠ b := fun e => h.notQ (b, a) (by simp) e.symm
  have hnd := h.nodup
  rw [List.map_cons, List.nodup_cons] at hnd
  have hnQ : ∀ p ∈ ns, p.1 ≠ Q := fun p hp => h.notQ p (by simp [hp])
  have hnb : ∀ p ∈ ns, ¬ (p.1 = Q ∨ p.1 = b) := by
    rintro p hp (e | e)
    · exact hnQ p hp e
    · exact hnd.1 (List.mem_map.2 ⟨p, hp, e⟩)
  match ns, h with
  | [], h =>
    refine (pop_last Q b _ _ _ w h.blk h.seg.1 hQb).mono ?_
    rintro e w' ⟨rfl, r1, r2, r3⟩
    exact ⟨rfl, ⟨r1, trivial, hnd.2, hnQ⟩, r2, r3⟩
  | (c, ac) :: t, h =>
    refine (pop_more Q b c _ _ _ w h.blk h.seg.1 hQb).mono ?_
    rintro e w' ⟨rfl, r1, r2, r3⟩
    refine ⟨rfl, ⟨?_, h.seg.2.fx r3 hnb, hnd.2, hnQ⟩, r2, r3⟩
    have e1 : lst ((b, a) :: (c, ac) :: t) = lst ((c, ac) :: t) := by simp [lst, List.getLast?_cons_cons]
    rw [e1] at r1
    exact r1
end Go.Proofs.Ybulkcxfk
