import Derived.Test.YbulkcxhaZ
namespace Go.Proofs.Ybulkcxha
open Go.RowKit

structure St where
  G : List Int
  E : List Nat
  La : List Int
def St.comp (s : St) : St := ⟨s.G ++ srt s.La, s.E ++ [(s.G ++ srt s.La).length], []⟩
def compN : Nat → St → St
  | 0, s => s
  | k + 1, s => compN k s.comp
def St.add (s : St) (c : Nat) (x : Int) : St := ⟨(compN (c - s.E.length) s).G, (compN (c - s.E.length) s).E, (compN (c - s.E.length) s).La ++ [x]⟩
def MemE (H sb : Nat) (f0 pv : Value) (s : St) (w : World) : Prop := ∃ gv ev lv, Mem H sb f0 pv gv ev lv s.G s.E s.La w

/-- An entry: the id above the place in its block. -/
def ent (id : Int) (p : Nat) : Int := bits .or .u32 (id * 256 % 4294967296) ((p : Int) % 256)

theorem complete_any (H sb : Nat) (f0 pv : Value) (s : St) (w : World) (h : MemE H sb f0 pv s w) (hb : s.G.length + s.La.length ≤ 10000) (hE : s.E.length < 15) :
    Calls Yba.prog 15 #[.pointer (some ⟨sb, 2, none⟩)] w fun e w' => e = .returned (.tuple #[]) ∧ MemE H sb f0 pv s.comp w' ∧ Below H w w' := by
  obtain ⟨gv, ev, lv, h⟩ := h
  rcases Nat.eq_zero_or_pos s.La.length with h0 | h0
  · have hn : s.La = [] := List.eq_nil_of_length_eq_zero h0
    have hl := h.ln hn
    rw [hn] at h
    subst hl
    refine (complete_none H sb f0 pv gv ev s.G s.E w h hE).mono ?_
    rintro e w' ⟨he, ⟨g', e', hm⟩, hbl⟩
    refine ⟨he, ⟨g', e', .slice none 0 0, ?_⟩, hbl⟩
    unfold St.comp
    rw [hn, srt_nil, List.append_nil]
    exact hm
  · obtain ⟨lb, lc, hv, _, _⟩ := h.l.form h0
    subst hv
    refine (complete_some H sb f0 pv gv ev lb lc s.G s.E s.La w h h0 hb hE).mono ?_
    rintro e w' ⟨he, ⟨g', e', hm⟩, hbl⟩
    exact ⟨he, ⟨g', e', _, hm⟩, hbl⟩

theorem comp_total (s : St) : s.comp.G.length + s.comp.La.length = s.G.length + s.La.length := by simp [St.comp, srt_len]
theorem comp_E (s : St) : s.comp.E.length = s.E.length + 1 := by simp [St.comp]
theorem MemE.c2 {H sb : Nat} {f0 pv : Value} {s : St} {w : World} (h : MemE H sb f0 pv s w) : w.cell? ⟨sb, 2, none⟩ = some (.slice none 0 0) := by
  obtain ⟨gv, ev, lv, h⟩ := h
  exact h.blk.cell 2
theorem MemE.c4 {H sb : Nat} {f0 pv : Value} {s : St} {w : World} (h : MemE H sb f0 pv s w) : ∃ ao c, w.cell? ⟨sb, 4, none⟩ = some (.slice ao s.E.length c) := by
  obtain ⟨gv, ev, lv, h⟩ := h
  have c := h.blk.cell 4
  rcases h.e.2 with ⟨h1, h2⟩ | ⟨g, cap, cur, h1, _⟩
  · exact ⟨none, 0, by rw [h2, ← h1]; exact c⟩
  · exact ⟨some ⟨g, 0, none⟩, cap, by rw [← h1]; exact c⟩
theorem MemE.below {H sb : Nat} {f0 pv : Value} {s : St} {w : World} (h : MemE H sb f0 pv s w) (q : Nat) : MemE H sb f0 pv s (w.drewN q) := by
  obtain ⟨gv, ev, lv, h⟩ := h
  exact ⟨gv, ev, lv, h.alike ((Fx.refl _ w).drewN q)⟩
theorem MemE.c5 {H sb : Nat} {f0 pv : Value} {s : St} {w : World} (h : MemE H sb f0 pv s w) : ∃ gv ev ao c, Mem H sb f0 pv gv ev (.slice ao s.La.length c) s.G s.E s.La w := by
  obtain ⟨gv, ev, lv, h⟩ := h
  rcases h.l.2 with ⟨h1, h2⟩ | ⟨g, cap, cur, h1, _⟩
  · exact ⟨gv, ev, none, 0, by rw [h2, ← h1]; exact h⟩
  · exact ⟨gv, ev, some ⟨g, 0, none⟩, cap, by rw [← h1]; exact h⟩

set_option maxHeartbeats 8000000 in
set_option maxRecDepth 100000 in
theorem add_any (H sb place : Nat) (f0 pv : Value) (id : Int) (s : St) (w : World) (h : MemE H sb f0 pv s w) (hp : place ≤ 4095) (hE : s.E.length ≤ place / 256) (hb : s.G.length + s.La.length ≤ 9000) :
    Calls Yba.prog 11 #[.pointer (some ⟨sb, 2, none⟩), .int .i64 place, .int .u32 id] w fun e w' => e = .returned (.tuple #[]) ∧ MemE H sb f0 pv (s.add (place / 256) (ent id place)) w' ∧ Below H w w' := by
  obtain ⟨i36, hi36, hz36, hs36, hb36⟩ := info_parts Yba.info36
  have HM := hide h
  have hw : H ≤ w.heap.size := by obtain ⟨_, _, _, h⟩ := h; exact h.Hw
  have c2 := h.c2
  obtain ⟨ao, c, c4⟩ := h.c4
  clear h
  go_enter Yba.func11, Yba.ntmps11
  go_wp2_with fail
  refine (lastStart_any sb ao s.E.length c w (by omega) c2 c4).mono ?_
  rintro e w1 ⟨rfl, q, rfl⟩
  clear c2 c4
  go_wp2_with fail
  go_loopg [6] 20 (fun kx s6 wr => ∃ t : St, s6 = .int .i64 ((256 * t.E.length : Nat) : Int) ∧ t.E.length ≤ place / 256 ∧ place / 256 - t.E.length ≤ kx ∧ Hid (t.G.length + t.La.length ≤ 9000) ∧ Hid (MemE H sb f0 pv t wr) ∧ Hid (Below H w wr) ∧ Hid (compN (place / 256 - t.E.length) t = compN (place / 256 - s.E.length) s))
  case atStart => exact ⟨s, rfl, hE, by omega, hb, HM.out.below q, ⟨rfl, rfl, rfl, Nat.le_refl _, fun _ _ => rfl⟩, rfl⟩
  case round =>
    obtain ⟨t, rfl, ht1, hg, htb, htm, htbl, htc⟩ := hrel
    rcases Nat.lt_or_ge t.E.length (place / 256) with hlt | hge
    · have hgi : ((256 * t.E.length : Nat) : Int) + 256 ≤ (place : Int) := by omega
      have hgi2 : 256 * (t.E.length : Int) + 256 ≤ (place : Int) := by omega
      go_wp2_with fail
      refine (complete_any H sb f0 pv t _ htm.out (by have := htb.out; omega) (by omega)).mono ?_
      rintro e w2 ⟨rfl, hm2, hb2⟩
      have M2 := hide hm2
      have B2 := hide (htbl.out.trans hb2)
      have C2 : Hid (compN (place / 256 - t.comp.E.length) t.comp = compN (place / 256 - s.E.length) s) := by
        show _ = _
        rw [← htc.out, comp_E, show place / 256 - t.E.length = (place / 256 - (t.E.length + 1)) + 1 by omega]
        rfl
      have CE := comp_E t
      clear hm2 hb2
      go_wp2
      go_roundg (place / 256 - t.comp.E.length)
      case measure => omega
      case rel => exact ⟨t.comp, by go_num, by omega, by omega, by show _ ≤ _; rw [comp_total]; exact htb.out, M2, B2, C2⟩
    · have hgi : (place : Int) < ((256 * t.E.length : Nat) : Int) + 256 := by omega
      have hgi2 : (place : Int) < 256 * (t.E.length : Int) + 256 := by omega
      obtain ⟨gv, ev, lo, lc, hm⟩ := htm.out.c5
      have M := hide hm
      have c5 : wr.cell? ⟨sb, 5, none⟩ = some (.slice lo t.La.length lc) := hm.blk.cell 5
      have hw3 := hm.Hw
      clear hm
      have TB := htb.out
      have EA : Hid (s.add (place / 256) (ent id place) = ⟨t.G, t.E, t.La ++ [ent id place]⟩) := by
        show _ = _
        rw [St.add, ← htc.out, show place / 256 - t.E.length = 0 by omega]
        rfl
      have UE : Hid (uL (t.La ++ [ent id place]) = uL t.La ++ [.int .u32 (ent id place)]) := by show _ = _; simp [uL]
      go_wp2_with (at_builtin; refine wpList_append_lies _ rfl _ _ 28 rfl H 36 i36 (.int .u32 0) 1 4 Yba.underlying28 hi36 hz36 hs36 hb36 rfl (by decide) (.slice lo t.La.length lc) t.La.length (uL t.La) rfl (M.out.l.alloc _) ⟨wr.heap.size, 0, none⟩ 1 1 [.int .u32 (ent id place)] rfl rfl (one_new wr _ 36) (one_one _ rfl) (by decide) (by unfold maxLen; omega) (by omega) (by show H ≤ (wr.alloc _).heap.size; simp; omega) _ rfl ?_; intro g1 cap1 w3 hown hgrow hat hlt; obtain ⟨b1, m1, x1⟩ := (M.out.alloc (.cells #[.int .u32 (ent id place)] 36)).pushL (La' := t.La ++ [ent id place]) (by rw [UE.out]; exact hown) hgrow hat (by simp) (by simp); have d5 : w3.cell? ⟨sb, 5, none⟩ = some (.slice lo t.La.length lc) := b1.cell 5; have e5 := b1.free 5; have M3 := hide m1; have X3 := hide x1; clear hown hgrow hat hlt b1 m1 x1)
      go_end0
      refine ⟨rfl, by rw [EA.out]; exact ⟨_, _, _, M3.out⟩, htbl.out.trans ?_⟩
      exact Below.trans ((Below.refl H wr).alloc hw3 _) (X3.out.below (by simp; omega) (fun k hk hc => by omega))
end Go.Proofs.Ybulkcxha
