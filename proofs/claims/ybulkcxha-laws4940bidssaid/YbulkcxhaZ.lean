import Derived.Test.YbulkcxhaY
namespace Go.Proofs.Ybulkcxha
open Go.RowKit

theorem Mem.same3 {H sb : Nat} {f0 pv gv ev lv : Value} {G : List Int} {E : List Nat} {La : List Int} {w : World} (h : Mem H sb f0 pv gv ev lv G E La w) : Mem H sb f0 pv gv ev lv G E La (w.setCell ⟨sb, 3, none⟩ gv) := by
  have f2 := Fx.set1 w sb 3 gv
  exact ⟨h.blk.set 3 gv, h.hsb, own_fx h.g f2 (fun b hb hc => h.gne (by rw [hb, hc])), own_fx h.e f2 (fun b hb hc => h.ene (by rw [hb, hc])), own_fx h.l f2 (fun b hb hc => h.lne (by rw [hb, hc])), h.gl, h.ln⟩

set_option maxHeartbeats 8000000 in
set_option maxRecDepth 100000 in
theorem complete_none (H sb : Nat) (f0 pv gv ev : Value) (G : List Int) (E : List Nat) (w : World) (h : Mem H sb f0 pv gv ev (.slice none 0 0) G E [] w) (hE : E.length < 15) :
    Calls Yba.prog 15 #[.pointer (some ⟨sb, 2, none⟩)] w fun e w' => e = .returned (.tuple #[]) ∧ (∃ gv' ev', Mem H sb f0 pv gv' ev' (.slice none 0 0) G (E ++ [G.length]) [] w') ∧ Below H w w' := by
  obtain ⟨i36, hi36, hz36, hs36, hb36⟩ := info_parts Yba.info36
  obtain ⟨i3, hi3, hz3, hs3, hb3⟩ := info_parts Yba.info3
  have HM := hide h
  have hw := h.Hw
  obtain ⟨go, gc, hgv, hgo⟩ : ∃ ao c, gv = .slice ao G.length c ∧ ((ao = none ∧ c = 0 ∧ G.length = 0) ∨ ∃ g, ao = some ⟨g, 0, none⟩ ∧ G.length ≤ c) := by
    rcases h.g.2 with ⟨h1, h2⟩ | ⟨g, cap, cur, h1, _, _, h3, _⟩
    · exact ⟨none, 0, by rw [h1, h2], .inl ⟨rfl, rfl, h2⟩⟩
    · exact ⟨_, _, h1, .inr ⟨g, rfl, h3⟩⟩
  subst hgv
  have HG := hide hgo
  have c3 : w.cell? ⟨sb, 3, none⟩ = some (.slice go G.length gc) := h.blk.cell 3
  have c5 : w.cell? ⟨sb, 5, none⟩ = some (.slice none 0 0) := h.blk.cell 5
  have f3 := h.blk.free 3
  have s1 := hide h.g
  have M1 : Hid (Mem H sb f0 pv (.slice go G.length gc) ev (.slice none 0 0) G E [] _) := h.same3
  have X1 : Hid (Fx (fun k => H ≤ k) w _) := (Fx.set1 w sb 3 (.slice go G.length gc)).mono (fun k _ hk => by have := h.hsb; omega)
  clear h hgo
  go_enter Yba.func15, Yba.ntmps15
  go_upto_region 1 with fail
  go_cut [19] from 10 to 21 (fun _ wc => Hid (Mem H sb f0 pv (.slice go G.length gc) ev (.slice none 0 0) G E [] wc) ∧ Hid (Fx (fun k => H ≤ k) w wc))
  case first =>
    go_region_law (refine step_append_none rfl (.tmp 14) (.tmp 18) 28 rfl H 36 i36 1 Yba.underlying28 hi36 (.slice go G.length gc) G.length (uL G) (by simp [Act.eval]) s1.out (by simp [Act.eval]) ?_)
    all_goals (go_wp2_with fail; go_meet; exact ⟨M1.out.alike ((Fx.refl _ _).trans ⟨rfl, rfl, rfl, Nat.le_refl _, fun _ _ _ => rfl⟩), X1.out.trans ⟨rfl, rfl, rfl, Nat.le_refl _, fun _ _ _ => rfl⟩⟩)
  case rest =>
    obtain ⟨M1', X1'⟩ := hcut
    clear HM s1 c3 c5 f3 M1 X1
    have c3 : wc.cell? ⟨sb, 3, none⟩ = some (.slice go G.length gc) := M1'.out.blk.cell 3
    go_upto_region 2 with fail
    go_cut [2] from 5 to 28 (fun _ wd => wd = wc)
    case first =>
      rcases HG.out with ⟨rfl, rfl, h0⟩ | ⟨g, rfl, hcap⟩
      · rw [h0] at c3 ⊢
        go_wp2_with fail
        refine (sort_nil _ _ _).mono ?_
        rintro e w2 ⟨rfl, rfl⟩
        go_wp2_with fail
        go_meet
        case rel => rfl
      · by_cases hc : gc = G.length
        · have hc2 : (gc == G.length) = true := by simp [hc]
          go_wp2_with fail
          refine (sort_nil _ _ _).mono ?_
          rintro e w2 ⟨rfl, rfl⟩
          go_wp2_with fail
          go_meet
          case rel => rfl
        · have hc2 : (gc == G.length) = false := by simp [hc]
          go_wp2_with fail
          refine (sort_nil _ _ _).mono ?_
          rintro e w2 ⟨rfl, rfl⟩
          go_wp2_with fail
          go_meet
          case rel => rfl
    case rest =>
      obtain rfl := hcut
      obtain ⟨eo, ec, hev⟩ : ∃ ao c, ev = .slice ao E.length c := by
        rcases M1'.out.e.2 with ⟨h1, h2⟩ | ⟨g, cap, cur, h1, _⟩
        · exact ⟨none, 0, by rw [h1, h2]⟩
        · exact ⟨_, _, h1⟩
      subst hev
      have c4 : wc.cell? ⟨sb, 4, none⟩ = some (.slice eo E.length ec) := M1'.out.blk.cell 4
      have c4a : ∀ o, (wc.alloc o).cell? ⟨sb, 4, none⟩ = some (.slice eo E.length ec) := fun o => (M1'.out.blk.alloc o).cell 4
      have hw2 := M1'.out.Hw
      have NE : Hid (nL (E ++ [G.length]) = nL E ++ [.int .i64 ((G.length : Nat) : Int)]) := by show _ = _; simp [nL]
      go_upto_region 3 with fail
      go_cut [41] from 29 to 45 (fun _ wd => ∃ (g4 cap4 : Nat), Hid (Mem H sb f0 pv (.slice go G.length gc) (.slice (some ⟨g4, 0, none⟩) (E.length + 1) cap4) (.slice none 0 0) G (E ++ [G.length]) [] wd) ∧ Hid (Fx (fun k => H ≤ k) w wd))
      case first =>
        go_region_law (refine step_append_lies _ rfl (.tmp 34) (.tmp 40) 29 rfl H 3 i3 (.int .i64 0) 1 8 Yba.underlying29 hi3 hz3 hs3 hb3 rfl (by decide) (.slice eo E.length ec) E.length (nL E) (by simp [Act.eval]) (M1'.out.e.alloc _) ⟨wc.heap.size, 0, none⟩ 1 1 [.int .i64 ((G.length : Nat) : Int)] (by simp [Act.eval]) rfl (one_new wc _ 3) (one_one _ rfl) (by decide) (by unfold maxLen; omega) (by omega) (by show H ≤ (wc.alloc _).heap.size; simp; omega) _ rfl ?_; intro g1 cap1 w3 hown hgrow0 hat hlt; have hgrow : (wc.alloc (.cells #[.int .i64 ((G.length : Nat) : Int)] 3)).grownBy w3 (Value.slice eo E.length ec).ownBlock := ⟨hgrow0.os, hgrow0.tape, hgrow0.output, hgrow0.size, hgrow0.block⟩; obtain ⟨b1, m1, x1⟩ := (M1'.out.alloc (.cells #[.int .i64 ((G.length : Nat) : Int)] 3)).pushE (E' := E ++ [G.length]) (by rw [NE.out]; exact hown) hgrow hat (by simp); have d4 : w3.cell? ⟨sb, 4, none⟩ = some (.slice eo E.length ec) := b1.cell 4; have e4 := b1.free 4; have d5 : w3.cell? ⟨sb, 5, none⟩ = some (.slice none 0 0) := b1.cell 5; have e5 := b1.free 5; have M3 := hide m1; have X3 : Hid (Fx (fun k => H ≤ k) w _) := (X1'.out.alloc (.cells #[.int .i64 ((G.length : Nat) : Int)] 3)).trans x1; clear hown hgrow0 hgrow hat hlt b1 m1 x1)
        all_goals (go_wp2_with fail; go_meet; exact ⟨_, _, M3, X3⟩)
      case rest =>
        obtain ⟨g4, cap4, M3, X3⟩ := hcut
        have c4' : wc.cell? ⟨sb, 4, none⟩ = some (.slice (some ⟨g4, 0, none⟩) (E.length + 1) cap4) := M3.out.blk.cell 4
        have hl16 : (E.length : Int) + 1 < 16 := by omega
        go_wp2
        exact bodyPost_ret (results_none rfl _ _ _) rfl ⟨rfl, ⟨_, _, M3.out⟩, X3.out.below hw (fun k hk hc => by omega)⟩
end Go.Proofs.Ybulkcxha
