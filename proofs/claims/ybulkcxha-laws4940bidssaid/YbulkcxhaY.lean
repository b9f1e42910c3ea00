import Derived.Test.YbulkcxhaX
import Derived.Deep.Cut
import Derived.Deep.CutRange
namespace Go.Proofs.Ybulkcxha
open Go.RowKit

theorem Yba.info36 : (Yba.prog.info? 36).map (fun i => (i.zero, i.size, i.bytes)) = some (some (.int .u32 0), 1, 4) := by kernel_rfl
theorem Yba.info3 : (Yba.prog.info? 3).map (fun i => (i.zero, i.size, i.bytes)) = some (some (.int .i64 0), 1, 8) := by kernel_rfl

theorem step_append_none {P : Program} {w : World} {ops : Array Oper} {o : Oper} {a : Act} {K : Act → World → Prop} {Q : Exit → Act → World → Prop} {E : Prop} (hgd : o.guard = none) (s x : Operand) (t : TypeId)
    (ho : o.op = .call { callee := .builtin .append, args := #[s, x], argTypes := #[t, t] })
    (base : Nat) (e : TypeId) (i : TypeInfo) (size : Nat) (ht : P.underlying t = some (.slice e)) (hi : P.info? e = some i)
    (v : Value) (n : Nat) (xs : List Value) (hs : a.eval s = v) (hown : w.ownsRow base e size v n xs) (hx : a.eval x = .slice none 0 0)
    (h : K (a.put o.dst v) w) : if Region.wanted o (yielded ops a.tmps) = true then Oper.wp P o a w K Q else E := by
  have hw : Region.wanted o (yielded ops a.tmps) = true := by simp [Region.wanted, hgd]
  rw [if_pos hw]
  have hrun := run_append_owned_none (P := P) (w := w) base t o.type e i size ht hi v n xs hown
  unfold Oper.wp
  simp [execOp, ho, resolve, invoke, builtin, hs, hx, hrun, Result.andThen]
  exact h

set_option maxHeartbeats 4000000 in
theorem runsEnd_any (sb : Nat) (w : World) (c2 : w.cell? ⟨sb, 2, none⟩ = some (.slice none 0 0)) :
    Calls Yba.prog 27 #[.pointer (some ⟨sb, 2, none⟩)] w fun e w' => e = .returned (.int .i64 0) ∧ w' = w := by
  go_enter Yba.func27, Yba.ntmps27
  go_wp2
  go_ret
  exact ⟨rfl, rfl⟩

theorem runsEnd_q (sb : Nat) (w : World) (c2 : w.cell? ⟨sb, 2, none⟩ = some (.slice none 0 0)) (q : Nat) :
    Calls Yba.prog 27 #[.pointer (some ⟨sb, 2, none⟩)] (w.drewN q) fun e w' => e = .returned (.int .i64 0) ∧ ∃ n, w' = w.drewN n :=
  (runsEnd_any sb (w.drewN q) c2).mono (fun _ _ h => ⟨h.1, ⟨q, h.2⟩⟩)

set_option maxHeartbeats 4000000 in
theorem lastStart_any (sb : Nat) (ao : Option Addr) (n c : Nat) (w : World) (hn : n ≤ 1000) (c2 : w.cell? ⟨sb, 2, none⟩ = some (.slice none 0 0)) (c4 : w.cell? ⟨sb, 4, none⟩ = some (.slice ao n c)) :
    Calls Yba.prog 14 #[.pointer (some ⟨sb, 2, none⟩)] w fun e w' => e = .returned (.int .i64 ((256 * n : Nat) : Int)) ∧ ∃ q, w' = w.drewN q := by
  have w1 : IntKind.i64.wrap ((n : Int) * 256) = (n : Int) * 256 := wrapN _ (by omega)
  have w2 : IntKind.i64.wrap (0 + (n : Int) * 256) = (n : Int) * 256 := by rw [wrapN _ (by omega)]; omega
  go_enter Yba.func14, Yba.ntmps14
  go_wp2
  go_quiet ((go_at_call 27; exact runsEnd_q sb w c2 _))
  go_wp2
  go_ret
  exact ⟨by rw [show ((256 * n : Nat) : Int) = (n : Int) * 256 by omega]; rfl, nq, rfl⟩

theorem uL_append (xs ys : List Int) : uL (xs ++ ys) = uL xs ++ uL ys := by simp [uL]
theorem nL_append (xs ys : List Nat) : nL (xs ++ ys) = nL xs ++ nL ys := by simp [nL]
theorem own_cap {w : World} {H N M cap size : Nat} {e : TypeId} {a : Addr} {xs : List Value} (h : w.ownsRow H e size (.slice (some a) N cap) M xs) : N ≤ cap := by
  rcases h.2 with ⟨h0, _⟩ | ⟨g', cap', cur, hv, hb, hg, h3, _⟩
  · simp at h0
  · simp only [Value.slice.injEq] at hv
    omega
theorem one_new (w : World) (x : Value) (t : TypeId) : ∀ j u, ([x] : List Value)[j]? = some u → (w.alloc (.cells #[x] t)).cell? ((⟨w.heap.size, 0, none⟩ : Addr).add j) = some u := by
  intro j u hj
  match j, hj with
  | 0, hj => simp at hj; subst hj; simp [Addr.add]
theorem one_one (x : Value) (hx : x.oneCell' = true) : ∀ u ∈ ([x] : List Value), u.oneCell' = true := by
  intro u hu; simp at hu; subst hu; exact hx
theorem own_news {w : World} {H g N cap : Nat} {xs : List Value} (h : w.ownsRow H 36 1 (.slice (some ⟨g, 0, none⟩) N cap) N xs) : ∀ j u, xs[j]? = some u → w.cell? ((⟨g, 0, none⟩ : Addr).add j) = some u := h.cells rfl
theorem uL_one (xs : List Int) : ∀ u ∈ uL xs, u.oneCell' = true := by
  intro u hu
  simp only [uL, List.mem_map] at hu
  obtain ⟨x, _, rfl⟩ := hu
  rfl

set_option maxHeartbeats 8000000 in
set_option maxRecDepth 100000 in
theorem complete_some (H sb : Nat) (f0 pv gv ev : Value) (lb lc : Nat) (G : List Int) (E : List Nat) (La : List Int) (w : World) (h : Mem H sb f0 pv gv ev (.slice (some ⟨lb, 0, none⟩) La.length lc) G E La w) (hne : 0 < La.length) (hb : G.length + La.length ≤ 10000) (hE : E.length < 15) :
    Calls Yba.prog 15 #[.pointer (some ⟨sb, 2, none⟩)] w fun e w' => e = .returned (.tuple #[]) ∧ (∃ gv' ev', Mem H sb f0 pv gv' ev' (.slice none 0 0) (G ++ srt La) (E ++ [(G ++ srt La).length]) [] w') ∧ Below H w w' := by
  obtain ⟨i36, hi36, hz36, hs36, hb36⟩ := info_parts Yba.info36
  obtain ⟨i3, hi3, hz3, hs3, hb3⟩ := info_parts Yba.info3
  have HM := hide h
  have hw := h.Hw
  obtain ⟨go, gc, hgv⟩ : ∃ ao c, gv = .slice ao G.length c := by
    rcases h.g.2 with ⟨h1, h2⟩ | ⟨g, cap, cur, h1, _⟩
    · exact ⟨none, 0, by rw [h1, h2]⟩
    · exact ⟨_, _, h1⟩
  subst hgv
  have c3 : w.cell? ⟨sb, 3, none⟩ = some (.slice go G.length gc) := h.blk.cell 3
  have c5 : w.cell? ⟨sb, 5, none⟩ = some (.slice (some ⟨lb, 0, none⟩) La.length lc) := h.blk.cell 5
  have s1 := hide h.g
  have s2 := hide (own_news h.l)
  clear h
  go_enter Yba.func15, Yba.ntmps15
  go_upto_region 1 with fail
  go_cut [19] from 10 to 21 (fun _ wc => ∃ g cap : Nat, Hid (Mem H sb f0 pv (.slice (some ⟨g, 0, none⟩) (G.length + La.length) cap) ev (.slice (some ⟨lb, 0, none⟩) La.length lc) (G ++ La) E La wc) ∧ Hid (Fx (fun k => H ≤ k) w wc))
  case first =>
    go_region_law (refine step_append_lies _ rfl (.tmp 14) (.tmp 18) 28 rfl H 36 i36 (.int .u32 0) 1 4 Yba.underlying28 hi36 hz36 hs36 hb36 rfl (by decide) (.slice go G.length gc) G.length (uL G) (by simp [Act.eval]) s1.out ⟨lb, 0, none⟩ La.length lc (uL La) (by simp [Act.eval]) (by simp [uL]) s2.out (uL_one La) hne (by unfold maxLen; omega) (by omega) hw _ rfl ?_; intro g cap w1 hown hgrow0 hat hlt; have hgrow : w.grownBy w1 (Value.slice go G.length gc).ownBlock := ⟨hgrow0.os, hgrow0.tape, hgrow0.output, hgrow0.size, hgrow0.block⟩; obtain ⟨b1, m1, x1⟩ := HM.out.pushG (G' := G ++ La) (by rw [uL_append]; exact hown) hgrow hat (by simp); have d3 : w1.cell? ⟨sb, 3, none⟩ = some (.slice go G.length gc) := b1.cell 3; have e3 := b1.free 3; have M1 := hide m1; have X1 := hide x1; clear hown hgrow0 hgrow hat hlt b1 m1 x1)
    all_goals (go_wp2_with fail; go_meet; exact ⟨_, _, M1, X1⟩)
  case rest =>
    obtain ⟨g, cap, M1, X1⟩ := hcut
    clear HM s1 s2 c3 c5
    obtain ⟨post, hrw, hback⟩ := own_rw (N := G.length + La.length) (by have := M1.out.g; rwa [List.length_append] at this)
    have RW := hide hrw
    have BK := hide hback
    have c3 : wc.cell? ⟨sb, 3, none⟩ = some (.slice (some ⟨g, 0, none⟩) (G.length + La.length) cap) := M1.out.blk.cell 3
    clear hrw hback
    have hcap : G.length + La.length ≤ cap := own_cap M1.out.g
    have hc1 : ¬ cap = G.length := by omega
    have hc2 : (cap == G.length) = false := by simp; omega
    go_wp2_with fail
    refine (sort_any g G.length La.length _ (uL G) post La.toArray wc wc RW.out (by simp [uL]) (by simp) (by omega)).mono ?_
    rintro e w2 ⟨rfl, hr2⟩
    have hfx := hr2.fx
    have M2 : Hid (Mem H sb f0 pv (.slice (some ⟨g, 0, none⟩) (G.length + La.length) cap) ev (.slice (some ⟨lb, 0, none⟩) La.length lc) (G ++ srt La) E La w2) := by
      have h := M1.out
      have hg : ∀ b, (Value.slice (some ⟨g, 0, none⟩) (G.length + La.length) cap).ownBlock = some b → b = g := fun b hb => by simp [Value.ownBlock] at hb; exact hb.symm
      refine ⟨h.blk.fx hfx (fun e => h.gne (by rw [e]; rfl)), h.hsb, ?_, own_fx h.e hfx (fun b hb hc => own_own h.e h.g (by decide) b hb (by rw [hc]; rfl)), own_fx h.l hfx (fun b hb hc => h.gl b (by rw [hc]; rfl) hb), h.gl, h.ln⟩
      have := BK.out w2 (srt La) (srt_len La) (by simpa using hr2)
      rw [List.length_append, srt_len]
      exact this
    have X2 : Hid (Fx (fun k => H ≤ k) w w2) := X1.out.trans (hfx.mono (fun k _ hk => by have := (own_ge M1.out.g g rfl).1; omega))
    clear hr2 hfx M1 X1 RW BK c3
    obtain ⟨eo, ec, hev⟩ : ∃ ao c, ev = .slice ao E.length c := by
      rcases M2.out.e.2 with ⟨h1, h2⟩ | ⟨g, cap, cur, h1, _⟩
      · exact ⟨none, 0, by rw [h1, h2]⟩
      · exact ⟨_, _, h1⟩
    subst hev
    have c3 : w2.cell? ⟨sb, 3, none⟩ = some (.slice (some ⟨g, 0, none⟩) (G.length + La.length) cap) := M2.out.blk.cell 3
    have c4 : w2.cell? ⟨sb, 4, none⟩ = some (.slice eo E.length ec) := M2.out.blk.cell 4
    have c4a : ∀ o, (w2.alloc o).cell? ⟨sb, 4, none⟩ = some (.slice eo E.length ec) := fun o => (M2.out.blk.alloc o).cell 4
    have hw2 := M2.out.Hw
    have NE : Hid (nL (E ++ [(G ++ srt La).length]) = nL E ++ [.int .i64 ((G.length + La.length : Nat) : Int)]) := by show _ = _; simp [nL, srt_len]
    go_upto_region 3 with fail
    go_cut [41] from 29 to 45 (fun _ wc => ∃ (go gc : Nat), Hid (Mem H sb f0 pv (.slice (some ⟨g, 0, none⟩) (G.length + La.length) cap) (.slice (some ⟨go, 0, none⟩) (E.length + 1) gc) (.slice none 0 0) (G ++ srt La) (E ++ [(G ++ srt La).length]) [] wc) ∧ Hid (Fx (fun k => H ≤ k) w wc))
    case first =>
      go_region_law (refine step_append_lies _ rfl (.tmp 34) (.tmp 40) 29 rfl H 3 i3 (.int .i64 0) 1 8 Yba.underlying29 hi3 hz3 hs3 hb3 rfl (by decide) (.slice eo E.length ec) E.length (nL E) (by simp [Act.eval]) (M2.out.e.alloc _) ⟨w2.heap.size, 0, none⟩ 1 1 [.int .i64 ((G.length + La.length : Nat) : Int)] (by simp [Act.eval]) rfl (one_new w2 _ 3) (one_one _ rfl) (by decide) (by unfold maxLen; omega) (by omega) (by show H ≤ (w2.alloc _).heap.size; simp; omega) _ rfl ?_; intro g1 cap1 w3 hown hgrow0 hat hlt; have hgrow : (w2.alloc (.cells #[.int .i64 ((G.length + La.length : Nat) : Int)] 3)).grownBy w3 (Value.slice eo E.length ec).ownBlock := ⟨hgrow0.os, hgrow0.tape, hgrow0.output, hgrow0.size, hgrow0.block⟩; obtain ⟨b1, m1, x1⟩ := (M2.out.alloc (.cells #[.int .i64 ((G.length + La.length : Nat) : Int)] 3)).pushE (E' := E ++ [(G ++ srt La).length]) (by rw [NE.out]; exact hown) hgrow hat (by simp); have d4 : w3.cell? ⟨sb, 4, none⟩ = some (.slice eo E.length ec) := b1.cell 4; have e4 := b1.free 4; have d5 : w3.cell? ⟨sb, 5, none⟩ = some (.slice (some ⟨lb, 0, none⟩) La.length lc) := b1.cell 5; have e5 := b1.free 5; have M3 := hide m1; have X3 : Hid (Fx (fun k => H ≤ k) w _) := (X2.out.alloc (.cells #[.int .i64 ((G.length + La.length : Nat) : Int)] 3)).trans x1; clear hown hgrow0 hgrow hat hlt b1 m1 x1)
      all_goals (go_wp2_with fail; go_meet; exact ⟨_, _, M3, X3⟩)
    case rest =>
      obtain ⟨g4, cap4, M3, X3⟩ := hcut
      have c4' : wc.cell? ⟨sb, 4, none⟩ = some (.slice (some ⟨g4, 0, none⟩) (E.length + 1) cap4) := M3.out.blk.cell 4
      have hl16 : (E.length : Int) + 1 < 16 := by omega
      go_wp2
      exact bodyPost_ret (results_none rfl _ _ _) rfl ⟨rfl, ⟨_, _, M3.out⟩, X3.out.below hw (fun k hk hc => by omega)⟩
end Go.Proofs.Ybulkcxha
