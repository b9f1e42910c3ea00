import Derived.Test.YbulkcxfkF
namespace Go.Proofs.Ybulkcxfk
open Go.RowKit

set_option maxHeartbeats 4000000 in
set_option maxRecDepth 1000000 in
theorem delete_some (I L k cap : Nat) (C : Nat → Option Nat) (S : Nat → Int) (cs : List Value) (w : World) (hk : 0 < k) (hkL : k ≤ L) (hL : L ≤ cap) (hB : Blk w I cs 33) (hlen : cs.length = cap * 2) (h : PairsAt w I L C S) :
    Calls Yba.prog 17 #[.slice (some ⟨I, 0, none⟩) L cap, .int .i64 0, .int .i64 k] w fun e w' => e = .returned (.slice (some ⟨I, 0, none⟩) (L - k) cap) ∧
      (∃ cs', Blk w' I cs' 33 ∧ cs'.length = cap * 2) ∧ PairsAt w' I (L - k) (fun i => C (k + i)) (fun i => S (k + i)) ∧ Fx (fun q => q = I) w w' := by
  obtain ⟨i33, hi33, hz33, hs33, hb33⟩ := info_parts Yba.info33
  obtain ⟨news, hnews⟩ : ∃ news, news = pairCells (fun i => C (k + i)) (fun i => S (k + i)) (L - k) := ⟨_, rfl⟩
  have hnl : news.length = (L - k) * 2 := by rw [hnews]; exact pairCells_len _ _ _
  obtain ⟨A, hA, hsrc⟩ : ∃ A : Addr, (if cap = k then some (⟨I, 0, none⟩ : Addr) else some ⟨I, k * 2, none⟩) = some A ∧ Hid (∀ t u, news[t]? = some u → w.drew.cell? (A.add t) = some u) := by
    by_cases he : cap = k
    · refine ⟨⟨I, 0, none⟩, by simp [he], fun t u hu => ?_⟩
      have h0 : news.length = 0 := by rw [hnl]; omega
      rw [List.length_eq_zero_iff.1 h0] at hu
      simp at hu
    · refine ⟨⟨I, k * 2, none⟩, by simp [he], fun t u hu => ?_⟩
      rw [hnews] at hu
      rw [Addr.add_lit]
      obtain ⟨i, hi, ⟨rfl, rfl⟩ | ⟨rfl, rfl⟩⟩ := pairCells_get _ _ _ t u hu
      · rw [show k * 2 + i * 2 = (k + i) * 2 by omega]; exact (h (k + i) (by omega)).1
      · rw [show k * 2 + (i * 2 + 1) = (k + i) * 2 + 1 by omega]; exact (h (k + i) (by omega)).2
  have s2 : Hid (∀ u ∈ news, u.oneCell' = true) := by show ∀ u ∈ news, u.oneCell' = true; rw [hnews]; exact pairCells_one _ _ _
  have s3 : Hid (∀ t, t < news.length → (w.drew.cell? ⟨I, 0 + 0 * 2 + t, none⟩).isSome = true ∧ w.drew.frozen? ⟨I, 0 + 0 * 2 + t, none⟩ = false) := by
    intro t ht
    refine ⟨?_, hB.free _⟩
    show (w.cell? _).isSome = true
    rw [hB.cell, List.getElem?_eq_getElem (by omega)]
    rfl
  have s1 := hide hnl
  obtain ⟨W1, hW1⟩ : ∃ W1, W1 = w.drew.setCells I (0 + 0 * 2) news := ⟨_, rfl⟩
  obtain ⟨cs1, b1, l1, e1, e2⟩ := Blk.setCells (t := 33) (b := I) news (0 + 0 * 2) w.drew cs hB (by omega)
  rw [← hW1] at b1
  obtain ⟨zs, hcl, hzl⟩ : ∃ zs, (∀ ty, (Builtin.clear_ #[26] ty #[.slice (some ⟨I, (L - k) * 2, none⟩) (L - (L - k)) (cap - (L - k))]).run Yba.prog W1 = .ok (.tuple #[]) (W1.setCells I ((L - k) * 2) zs)) ∧ zs.length = (L - (L - k)) * 2 := by
    have hz := fun ty => run_clear_pairs W1 ty I ((L - k) * 2) (L - (L - k)) (cap - (L - k)) cs1 b1 (by omega) (by omega)
    obtain ⟨zs, h1, h2⟩ := hz 0
    exact ⟨zs, fun ty => h1, h2⟩
  obtain ⟨cs2, b2, l2, f1, f2⟩ := Blk.setCells (t := 33) (b := I) zs ((L - k) * 2) W1 cs1 b1 (by omega)
  have hpa : PairsAt (W1.setCells I ((L - k) * 2) zs) I (L - k) (fun i => C (k + i)) (fun i => S (k + i)) := fun i hi => by
    have hp := pair_get (fun i => .chan (C (k + i))) (fun i => .int .i64 (S (k + i))) (L - k) i hi
    have g0 := e2 (i * 2) (by omega)
    have g1 := e2 (i * 2 + 1) (by omega)
    rw [show 0 + 0 * 2 + i * 2 = i * 2 by omega] at g0
    rw [show 0 + 0 * 2 + (i * 2 + 1) = i * 2 + 1 by omega] at g1
    rw [b2.cell, b2.cell, f1 _ (by omega), f1 _ (by omega), g0, g1, hnews]
    exact hp
  have hfx : Fx (fun q => q = I) w (W1.setCells I ((L - k) * 2) zs) := by
    refine Fx.setCells (S := fun q => q = I) rfl _ _ _ ?_
    rw [hW1]
    exact Fx.setCells (S := fun q => q = I) rfl _ _ _ ⟨rfl, rfl, rfl, Nat.le_refl _, fun _ _ _ => rfl⟩
  have RR : Hid ((∃ cs', Blk (W1.setCells I ((L - k) * 2) zs) I cs' 33 ∧ cs'.length = cap * 2) ∧ PairsAt (W1.setCells I ((L - k) * 2) zs) I (L - k) (fun i => C (k + i)) (fun i => S (k + i)) ∧ Fx (fun q => q = I) w (W1.setCells I ((L - k) * 2) zs)) :=
    ⟨⟨cs2, b2, l2.trans (l1.trans hlen)⟩, hpa, hfx⟩
  have hW := hide hW1
  have hkc : k ≤ cap := by omega
  clear hW1 b1 b2 l1 l2 e1 e2 f1 f2 hpa hfx hzl hnews hnl hB h
  go_enter Yba.func17, Yba.ntmps17
  go_wp2_with fail
  go_region_law (refine step_append_room rfl (.tmp 22) (.tmp 25) 26 rfl 33 i33 2 Yba.underlying26 hi33 hs33 I 0 0 cap (by simp [Act.eval, Act.put]) A (L - k) (cap - k) news (by simp [Act.eval, Act.put]) s1.out hsrc.out s2.out (by omega) s3.out ?_; rw [← hW.out])
  go_wp2
  go_ret
  exact ⟨rfl, RR.out⟩

theorem delete_any (I L k cap : Nat) (C : Nat → Option Nat) (S : Nat → Int) (cs : List Value) (w : World) (hkL : k ≤ L) (hL : L ≤ cap) (hB : Blk w I cs 33) (hlen : cs.length = cap * 2) (h : PairsAt w I L C S) :
    Calls Yba.prog 17 #[.slice (some ⟨I, 0, none⟩) L cap, .int .i64 0, .int .i64 k] w fun e w' => e = .returned (.slice (some ⟨I, 0, none⟩) (L - k) cap) ∧
      (∃ cs', Blk w' I cs' 33 ∧ cs'.length = cap * 2) ∧ PairsAt w' I (L - k) (fun i => C (k + i)) (fun i => S (k + i)) ∧ Fx (fun q => q = I) w w' := by
  rcases Nat.eq_zero_or_pos k with rfl | hk
  · refine (delete_zero I L cap w hL).mono ?_
    rintro e w' ⟨rfl, rfl⟩
    exact ⟨rfl, ⟨cs, hB, hlen⟩, by simpa using h, Fx.refl _ _⟩
  · exact delete_some I L k cap C S cs w hk hkL hL hB hlen h

structure StackOk (w : World) (St I L cap : Nat) (C : Nat → Option Nat) (S : Nat → Int) : Prop where
  st : Blk w St [.slice (some ⟨I, 0, none⟩) L cap] 30
  items : ∃ cs, Blk w I cs 33 ∧ cs.length = cap * 2
  pairs : PairsAt w I L C S
  ne : St ≠ I
  le : L ≤ cap
  cap : cap ≤ 1024
theorem StackOk.fx {w w' : World} {St I L cap : Nat} {C : Nat → Option Nat} {S : Nat → Int} {T : Nat → Prop} (h : StackOk w St I L cap C S) (hf : Fx T w w') (h1 : ¬ T St) (h2 : ¬ T I) : StackOk w' St I L cap C S := by
  obtain ⟨cs, b, l⟩ := h.items
  exact ⟨h.st.fx hf h1, ⟨cs, b.fx hf h2, l⟩, h.pairs.fx hf h2, h.ne, h.le, h.cap⟩

set_option maxHeartbeats 2000000 in
theorem oldest_any (St I L cap k : Nat) (C : Nat → Option Nat) (S : Nat → Int) (w : World) (h : StackOk w St I L cap C S) (hk : k ≤ L) :
    Calls Yba.prog 15 #[P0 St, .int .i64 k] w fun e w' => ∃ g c, e = .returned (.slice (some ⟨g, 0, none⟩) k c) ∧ PairsAt w' g k C S ∧ w.heap.size ≤ g ∧ StackOk w' St I (L - k) cap (fun i => C (k + i)) (fun i => S (k + i)) ∧ Fx (fun q => q = St ∨ q = I) w w' := by
  have hLc := h.le
  have hc := h.cap
  have hne := h.ne
  have c0 : w.cell? ⟨St, 0, none⟩ = some (.slice (some ⟨I, 0, none⟩) L cap) := h.st.cell 0
  have HH := hide h
  clear h
  have hkz : (k : Int) ≤ (L : Int) := by omega
  go_enter Yba.func15, Yba.ntmps15
  go_wp2_with fail
  refine (clone_any I L k cap C S w (by omega) hk HH.out.pairs).mono ?_
  rintro e wA ⟨g, cg, rfl, hp, hg, hf⟩
  have HA := hide (HH.out.fx hf id id)
  have hgA : 0 < k → g < wA.heap.size := fun h0 => World.block_lt_of_cell? wA _ (hp 0 h0).1
  have c1 : wA.cell? ⟨St, 0, none⟩ = some (.slice (some ⟨I, 0, none⟩) L cap) := HA.out.st.cell 0
  have HP := hide hp
  have HF := hide hf
  have HG := hide hgA
  have hI : I < w.heap.size := by obtain ⟨cs, b, _⟩ := HH.out.items; exact b.lt
  have hS : St < w.heap.size := HH.out.st.lt
  clear hp hf hgA c0
  obtain ⟨cs, hB, hlen⟩ := HA.out.items
  have HD := hide (delete_any I L k cap C S cs wA hk hLc hB hlen HA.out.pairs)
  clear hB hlen
  go_wp2_with fail
  refine (unhide HD).mono ?_
  rintro e wB ⟨rfl, hi, hpb, hfb⟩
  have hst := HA.out.st.fx hfb hne
  have d0 : wB.cell? ⟨St, 0, none⟩ = some (.slice (some ⟨I, 0, none⟩) L cap) := hst.cell 0
  have d1 := hst.free 0
  have R : StackOk (wB.setCell ⟨St, 0, none⟩ (.slice (some ⟨I, 0, none⟩) (L - k) cap)) St I (L - k) cap (fun i => C (k + i)) (fun i => S (k + i)) := by
    have f : Fx (fun q => q = St) wB (wB.setCell ⟨St, 0, none⟩ (.slice (some ⟨I, 0, none⟩) (L - k) cap)) := Fx.setCell (S := fun q => q = St) (Fx.refl _ _) rfl _
    obtain ⟨cs', b', l'⟩ := hi
    exact ⟨hst.set 0 _, ⟨cs', b'.fx f (fun e => hne e.symm), l'⟩, hpb.fx f (fun e => hne e.symm), hne, by omega, hc⟩
  have F : Fx (fun q => q = St ∨ q = I) w (wB.setCell ⟨St, 0, none⟩ (.slice (some ⟨I, 0, none⟩) (L - k) cap)) :=
    (((HF.out.mono (fun _ _ h => h.elim)).trans (hfb.mono (fun _ _ h => .inr h)))).setCell (.inl rfl) _
  have PP : PairsAt (wB.setCell ⟨St, 0, none⟩ (.slice (some ⟨I, 0, none⟩) (L - k) cap)) g k C S := by
    have f : Fx (fun q => q = St ∨ q = I) wA (wB.setCell ⟨St, 0, none⟩ (.slice (some ⟨I, 0, none⟩) (L - k) cap)) := (hfb.mono (fun _ _ h => .inr h)).setCell (.inl rfl) _
    exact HP.out.fx f (by omega)
  have RR := hide (And.intro R (And.intro F PP))
  clear R F PP hi hpb hfb hst HD HA HH HP HF HG c1
  go_wp2
  go_ret
  exact ⟨g, cg, rfl, RR.out.2.2, hg, RR.out.1, RR.out.2.1⟩

set_option maxHeartbeats 2000000 in
theorem take_any (St I L cap K : Nat) (C : Nat → Option Nat) (S : Nat → Int) (cut : Int) (w : World) (h : StackOk w St I L cap C S) (hK : CutAt cut S L K) :
    Calls Yba.prog 8 #[P0 St, .int .i64 cut] w fun e w' => ∃ g c, e = .returned (.slice (some ⟨g, 0, none⟩) K c) ∧ PairsAt w' g K C S ∧ w.heap.size ≤ g ∧ StackOk w' St I (L - K) cap (fun i => C (K + i)) (fun i => S (K + i)) ∧ Fx (fun q => q = St ∨ q = I) w w' := by
  have hKL := hK.1
  have hLc := h.le
  have hc := h.cap
  have c0 : w.cell? ⟨St, 0, none⟩ = some (.slice (some ⟨I, 0, none⟩) L cap) := h.st.cell 0
  have hS := h.st.lt
  have hI : I < w.heap.size := by obtain ⟨cs, b, _⟩ := h.items; exact b.lt
  have h1 : StackOk (w.alloc (.cells #[.int .i64 cut] 28)) St I L cap C S := h.fx ((Fx.refl (fun _ => False) w).alloc _) id id
  have HI := hide (index_any w.heap.size I L K cap C S cut (w.alloc (.cells #[.int .i64 cut] 28)) (by omega) hK (by simp) (fun i hi => (h1.pairs i hi).1) (fun i hi => (h1.pairs i hi).2))
  have H1 := hide h1
  clear h h1 hK
  go_enter Yba.func8, Yba.ntmps8
  go_wp2_with fail
  refine (unhide HI).mono ?_
  rintro e wA ⟨rfl, hf⟩
  have HA := H1.out.fx hf id id
  have c1 : wA.cell? ⟨St, 0, none⟩ = some (.slice (some ⟨I, 0, none⟩) L cap) := HA.st.cell 0
  have HO := hide (oldest_any St I L cap K C S wA HA hKL)
  have hf0 : Fx (fun q => q = St ∨ q = I) w wA := (((Fx.refl (fun _ => False) w).alloc _).trans hf).mono (fun _ _ h => h.elim)
  have hsz := hf0.size
  have HF := hide hf0
  clear HA H1 HI hf hf0 c0
  rcases Nat.lt_or_ge K L with hlt | hge
  · rw [if_pos hlt]
    go_wp2_with fail
    refine (unhide HO).mono ?_
    rintro e wB ⟨g, c, rfl, hp, hg, hs, hfb⟩
    have RR := hide (And.intro hp (And.intro hs (HF.out.trans hfb)))
    clear hp hs hfb HO c1
    go_wp2
    go_ret
    exact ⟨g, c, rfl, RR.out.1, by omega, RR.out.2.1, RR.out.2.2⟩
  · rw [if_neg (by omega)]
    obtain rfl : L = K := by omega
    go_wp2_with fail
    refine (unhide HO).mono ?_
    rintro e wB ⟨g, c, rfl, hp, hg, hs, hfb⟩
    have RR := hide (And.intro hp (And.intro hs (HF.out.trans hfb)))
    clear hp hs hfb HO c1
    go_wp2
    go_ret
    exact ⟨g, c, rfl, RR.out.1, by omega, RR.out.2.1, RR.out.2.2⟩
end Go.Proofs.Ybulkcxfk
