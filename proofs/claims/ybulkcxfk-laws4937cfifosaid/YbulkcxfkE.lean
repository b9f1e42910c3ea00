import Derived.Test.YbulkcxfkD
namespace Go.Proofs.Ybulkcxfk
open Go.RowKit

theorem Yba.info37 : (Yba.prog.info? 37).map (fun i => (i.zero, i.size, i.bytes)) = some (some (.pointer none), 1, 8) := by kernel_rfl
theorem Yba.info3 : (Yba.prog.info? 3).map (fun i => (i.zero, i.size, i.bytes)) = some (some (.int .i64 0), 1, 8) := by kernel_rfl

theorem mok_of_made {w : World} {base e g n : Nat} {xs : List Value} (o : Nat) (h : w.ownsRow base e 1 (.slice (some ⟨g, 0, none⟩) 0 n) 0 xs) : MOk w g e n o [] := by
  rcases h.2 with ⟨h', _⟩ | ⟨g', cap', cur, h', _, hg, _, _, hs, _⟩
  · simp at h'
  · simp only [Value.slice.injEq, Option.some.injEq, Addr.mk.injEq, and_true, true_and] at h'
    obtain ⟨rfl, rfl⟩ := h'
    exact ⟨cur.toList, hg, by simpa using hs, fun i hi => by simp at hi⟩

theorem inv_start {w w1 w2 : World} {n : Nat} (hown1 : w1.ownsRow (w.heap.size + 1) 37 1 (.slice (some ⟨w.heap.size + 1, 0, none⟩) 0 n) 0 []) (hgrow1 : (w.alloc (.cells #[PN, PN] 39)).grownBy w1 none)
    (hown2 : w2.ownsRow (w.heap.size + 1) 3 1 (.slice (some ⟨w1.heap.size, 0, none⟩) 0 n) 0 []) (hgrow2 : w1.grownBy w2 none) : Inv w w2 w1.heap.size n 0 n [] := by
  have h1 := (hown1.lt _ rfl).2
  have h2 := (hown2.lt _ rfl).2
  simp at h1 h2
  have f1 : Fx (fun _ => False) (w.alloc (.cells #[PN, PN] 39)) w1 := ⟨hgrow1.os, hgrow1.tape, hgrow1.output, hgrow1.size, fun k hk _ => hgrow1.block k hk (by simp)⟩
  have f2 : Fx (fun _ => False) w1 w2 := ⟨hgrow2.os, hgrow2.tape, hgrow2.output, hgrow2.size, fun k hk _ => hgrow2.block k hk (by simp)⟩
  have f0 : Fx (fun _ => False) w (w.alloc (.cells #[PN, PN] 39)) := (Fx.refl _ _).alloc _
  refine ⟨⟨((Blk.new w #[PN, PN] 39).fx f1 id).fx f2 id, trivial, by simp, fun p hp => by simp at hp⟩, (mok_of_made 0 hown1).fx f2 id, mok_of_made 0 hown2, by simp, by omega, fun p hp => by simp at hp, by omega,
    ((f0.trans f1).trans f2).below (Nat.le_refl _) (fun k _ => id), by omega⟩

theorem push_facts {w0 wr w2 : World} {A n o c : Nat} {ns : List (Nat × Int)} {o1 o2 : Obj} (h : Inv w0 wr A n o c ns)
    (hf : Fx (fun k => k = w0.heap.size ∨ k = wr.heap.size + 1 ∨ ∃ p ∈ ns, k = p.1) ((wr.alloc o1).alloc o2) w2) :
    (∃ cs, Blk w2 (w0.heap.size + 1) cs 37 ∧ cs.length = n ∧ ∀ i, i < ns.length → cs[o + i]? = (ns.map fun p => P0 p.1)[i]?) ∧
    (∃ ds, Blk w2 A ds 3 ∧ ds.length = n ∧ ∀ i, i < ns.length → ds[o + i]? = (ns.map fun p => Value.int .i64 p.2)[i]?) := by
  have hs := h.size
  have hA := h.hA
  have f0 : Fx (fun _ => False) wr ((wr.alloc o1).alloc o2) := ((Fx.refl _ _).alloc _).alloc _
  have nS : ∀ k, w0.heap.size < k → k ≤ A → ¬ (k = w0.heap.size ∨ k = wr.heap.size + 1 ∨ ∃ p ∈ ns, k = p.1) := by
    rintro k h1 h2 (e | e | ⟨p, hp, e⟩)
    · omega
    · omega
    · have := h.far p hp; omega
  obtain ⟨cs, b1, l1, e1⟩ := (h.m.fx f0 id).fx hf (nS _ (by omega) (by omega))
  obtain ⟨ds, b2, l2, e2⟩ := (h.a.fx f0 id).fx hf (nS _ (by omega) (by omega))
  exact ⟨⟨cs, b1, l1, fun i hi => e1 i (by simpa using hi)⟩, ⟨ds, b2, l2, fun i hi => e2 i (by simpa using hi)⟩⟩

theorem inv_push {w0 wr w2 w3 w4 : World} {A n o c : Nat} {ar : Int} {ns : List (Nat × Int)} {cs ds : List Value} {o1 o2 o3 o4 : Obj} (h : Inv w0 wr A n o c ns)
    (hq : QOk w2 w0.heap.size (ns ++ [(wr.heap.size + 1, ar)])) (hf : Fx (fun k => k = w0.heap.size ∨ k = wr.heap.size + 1 ∨ ∃ p ∈ ns, k = p.1) ((wr.alloc o1).alloc o2) w2)
    (lc : cs.length = n) (hc : ∀ i, i < ns.length → cs[o + i]? = (ns.map fun p => P0 p.1)[i]?) (ld : ds.length = n) (hd : ∀ i, i < ns.length → ds[o + i]? = (ns.map fun p => Value.int .i64 p.2)[i]?)
    (hb3 : Blk w3 (w0.heap.size + 1) (cs.set (o + ns.length) (P0 (wr.heap.size + 1))) 37) (hf3 : Fx (fun k => k = w0.heap.size + 1) (w2.alloc o3) w3)
    (hb4 : Blk w4 A (ds.set (o + ns.length) (.int .i64 ar)) 3) (hf4 : Fx (fun k => k = A) (w3.alloc o4) w4) (hl : ns.length < c) :
    Inv w0 w4 A n o c (ns ++ [(wr.heap.size + 1, ar)]) := by
  have hs := h.size
  have hA := h.hA
  have hr := h.room
  have f01 : Fx (fun _ => False) wr ((wr.alloc o1).alloc o2) := ((Fx.refl _ _).alloc _).alloc _
  have f23 : Fx (fun _ => False) w2 (w2.alloc o3) := (Fx.refl _ _).alloc _
  have f34 : Fx (fun _ => False) w3 (w3.alloc o4) := (Fx.refl _ _).alloc _
  have far : ∀ p ∈ ns ++ [(wr.heap.size + 1, ar)], A < p.1 := by
    intro p hp
    rcases List.mem_append.1 hp with hp | hp
    · exact h.far p hp
    · simp at hp; subst hp; show A < wr.heap.size + 1; omega
  have q4 : QOk w4 w0.heap.size (ns ++ [(wr.heap.size + 1, ar)]) :=
    (((hq.fx f23 id (fun _ _ => id)).fx hf3 (by omega) (fun p hp e => by have := far p hp; omega)).fx f34 id (fun _ _ => id)).fx hf4 (by omega) (fun p hp e => by have := far p hp; omega)
  refine ⟨q4, ?_, ?_, by simp; omega, hr, far, ?_, ?_, hA⟩
  · rw [List.map_append]
    refine MOk.snoc (cs := cs) lc (fun i hi => hc i (by simpa using hi)) ?_ (by simp; omega)
    simp only [List.length_map]
    exact (hb3.fx f34 id).fx hf4 (by omega)
  · rw [List.map_append]
    refine MOk.snoc (cs := ds) ld (fun i hi => hd i (by simpa using hi)) ?_ (by simp; omega)
    simp only [List.length_map]
    exact hb4
  · have z1 := f01.size
    have z2 := hf.size
    have z3 := f23.size
    have z4 := hf3.size
    have z5 := f34.size
    have z6 := hf4.size
    omega
  · have z1 := f01.size
    have z2 := hf.size
    have z3 := f23.size
    have z4 := hf3.size
    have z5 := f34.size
    refine ((((((h.bel.trans (f01.below (by omega) (fun k _ => id))).trans (hf.below (by omega) (fun k hk hs => ?_))).trans (f23.below (by omega) (fun k _ => id))).trans (hf3.below (by omega) (fun k hk hs => by omega))).trans (f34.below (by omega) (fun k _ => id)))).trans (hf4.below (by omega) (fun k hk hs => by omega))
    rcases hs with e | e | ⟨p, hp, e⟩
    · omega
    · omega
    · have := h.far p hp; omega

set_option maxHeartbeats 4000000 in
set_option maxRecDepth 100000 in
theorem fifo_walk (a0 : Option Addr) (n cap0 : Nat) (Pu : Nat → Bool) (Ar : Nat → Int) (w : World)
    (hm : n ≤ 9223372036854775807) (ha : 0 < n → ∃ b off, a0 = some ⟨b, off, none⟩ ∧ b < w.heap.size ∧ ∀ r, r < n → w.cell? ⟨b, off + r * 2, none⟩ = some (.bool (Pu r)) ∧ w.cell? ⟨b, off + r * 2 + 1, none⟩ = some (.int .i64 (Ar r))) :
    Calls Yba.prog 5 #[.slice a0 n cap0] w fun e w' => e = .returned (.bool true) ∧ Below w.heap.size w w' := by
  have HC := hide ha
  clear ha
  rcases Nat.lt_or_ge 1024 n with hbig | hbig
  · go_enter Yba.func5, Yba.ntmps5
    go_wp2
    go_ret
    exact ⟨rfl, Below.refl _ _⟩
  obtain ⟨i37, hi37, hz37, hs37, hb37⟩ := info_parts Yba.info37
  obtain ⟨i3, hi3, hz3, hs3, hb3⟩ := info_parts Yba.info3
  go_enter Yba.func5, Yba.ntmps5
  go_wp2_with (at_make; first | (refine wpList_make_own _ rfl (.const (.int .i64 0)) (.tmp 16) 40 rfl (w.heap.size + 1) 37 i37 _ 1 Yba.underlying40 hi37 hz37 hs37 _ _ _ n rfl rfl rfl (by rw [hb37]; omega) (by unfold maxLen; omega) (by simp) ?_; intro w1 hown1 hgrow1) | (refine wpList_make_own _ rfl (.const (.int .i64 0)) (.tmp 19) 41 rfl (w.heap.size + 1) 3 i3 _ 1 Yba.underlying41 hi3 hz3 hs3 _ _ _ n rfl rfl rfl (by rw [hb3]; omega) (by unfold maxLen; omega) (by have := hgrow1.size; simp at this; omega) ?_; intro w2 hown2 hgrow2))
  have hI := inv_start (by simpa using hown1) hgrow1 hown2 hgrow2
  generalize w1.heap.size = A at hI ⊢
  clear hown1 hgrow1 hown2 hgrow2 w1
  go_loopg [4, 5, 6] n (fun kx s4 s5 s6 wr => ∃ (k o c : Nat) (ns : List (Nat × Int)), s6 = .int .i64 k ∧ k ≤ n ∧ n - k ≤ kx ∧ s4 = .slice (some ⟨w.heap.size + 1, o, none⟩) ns.length c ∧ s5 = .slice (some ⟨A, o, none⟩) ns.length c ∧
    ns.length + n ≤ k + c ∧ c ≤ n ∧ Hid (Inv w wr A n o c ns))
  case atStart => exact ⟨0, 0, n, [], rfl, Nat.zero_le _, by omega, rfl, rfl, by simp, Nat.le_refl _, hI⟩
  case round =>
    clear hI
    obtain ⟨k, o, c, ns, rfl, hk, hg, rfl, rfl, hnc, hcn, hI⟩ := hrel
    rcases Nat.lt_or_ge k n with hlt | hge
    · obtain ⟨b, off, rfl, hb, hc⟩ := unhide HC (by omega)
      obtain ⟨c0, c1⟩ := hc k hlt
      rw [← hI.out.bel.cell (by exact hb)] at c0 c1
      clear hc
      have hsz := hI.out.size
      have hA := hI.out.hA
      cases hp : Pu k with
      | true =>
        rw [hp] at c0
        clear hp
        have q1 : QOk ((wr.alloc (Obj.cells #[Value.bool true, Value.int IntKind.i64 (Ar k)] 43)).alloc (Obj.cells #[Value.int IntKind.i64 (Ar k), Value.chan none, Value.pointer none] 46)) w.heap.size ns :=
          hI.out.q.fx (((Fx.refl (fun _ => False) wr).alloc _).alloc _) id (fun _ _ => id)
        have bx : Blk ((wr.alloc (Obj.cells #[Value.bool true, Value.int IntKind.i64 (Ar k)] 43)).alloc (Obj.cells #[Value.int IntKind.i64 (Ar k), Value.chan none, Value.pointer none] 46)) wr.heap.size [.bool true, .int .i64 (Ar k)] 43 :=
          (Blk.new wr #[Value.bool true, Value.int IntKind.i64 (Ar k)] 43).alloc _
        have nb : Blk ((wr.alloc (Obj.cells #[Value.bool true, Value.int IntKind.i64 (Ar k)] 43)).alloc (Obj.cells #[Value.int IntKind.i64 (Ar k), Value.chan none, Value.pointer none] 46)) (wr.heap.size + 1) [.int .i64 (Ar k), .chan none, PN] 46 := by
          have := Blk.new (wr.alloc (Obj.cells #[Value.bool true, Value.int IntKind.i64 (Ar k)] 43)) #[Value.int IntKind.i64 (Ar k), Value.chan none, Value.pointer none] 46
          simpa using this
        have hnlt := hI.out.q.seg.lt
        have hp := push_any w.heap.size (wr.heap.size + 1) (Ar k) ns _ q1 nb (by omega) (fun p hp => by have := hnlt p hp; omega)
        have HP := hide hp
        have HBX := hide bx
        have HLT := hide hnlt
        clear hp q1 bx nb hnlt
        go_wp2_with fail
        refine (unhide HP).mono ?_
        rintro e wA ⟨rfl, hq, hf⟩
        obtain ⟨⟨cs, b1, l1, e1⟩, ⟨ds, b2, l2, e2⟩⟩ := push_facts hI.out hf
        have bxA : Blk wA wr.heap.size [.bool true, .int .i64 (Ar k)] 43 := HBX.out.fx hf (by
          rintro (e | e | ⟨p, hp, e⟩)
          · omega
          · omega
          · have := HLT.out p hp; omega)
        have HQ := hide hq
        have HF := hide hf
        have E1 := hide e1
        have E2 := hide e2
        have B1 := hide b1
        have B2 := hide b2
        have BX := hide bxA
        have hAw := b2.lt
        clear HP HBX HLT hq hf e1 e2 b1 b2 bxA
        go_wp2_with (first | (at_builtin; refine wpList_append_one _ rfl (.tmp 39) (.tmp 41) 40 rfl 37 i37 Yba.underlying40 hi37 hs37 (w.heap.size + 1) o ns.length c rfl ⟨wA.heap.size, 0, none⟩ 1 (P0 (wr.heap.size + 1)) rfl (by simp) rfl cs (B1.out.alloc _) (by have := hI.out.room; omega) (by omega) ?_; intro wB hb3 hf3; have opc := ((BX.out.alloc _).fx hf3 (by omega)).cell 1; simp at opc; have B2' := hide ((B2.out.alloc _).fx hf3 (by omega)); have HB3 := hide hb3; have HF3 := hide hf3; clear B1 B2 BX hb3 hf3) | (at_builtin; refine wpList_append_one _ rfl (.tmp 43) (.tmp 46) 41 rfl 3 i3 Yba.underlying41 hi3 hs3 A o ns.length c rfl ⟨wB.heap.size, 0, none⟩ 1 (.int .i64 (Ar k)) rfl (by simp) rfl ds (B2'.out.alloc _) (by have := hI.out.room; omega) (by omega) ?_; intro wC hb4 hf4; have IC := hide (inv_push hI.out HQ.out HF.out l1 E1.out l2 E2.out HB3.out HF3.out hb4 hf4 (by omega)); clear hb4 hf4 HB3 HF3 HQ HF E1 E2 B2' opc) | (go_at_call 11; refine (chain_any w wC A n o c c (ns ++ [(wr.heap.size + 1, Ar k)]) (ns.length + 1) (by simp) IC.out hbig).mono ?_; rintro e w' ⟨rfl, q, rfl⟩))
        go_roundg (n - (k + 1))
        case measure => omega
        case rel => exact ⟨k + 1, o, c, ns ++ [(wr.heap.size + 1, Ar k)], by go_num, by omega, by omega, by simp, by simp, by simp; omega, by omega, IC.out.fx ((Fx.refl (fun _ => False) wC).drewN q) (fun _ h => h.elim)⟩
      | false =>
        rw [hp] at c0
        clear hp
        have i1 : Inv w (wr.alloc (Obj.cells #[Value.bool false, Value.int IntKind.i64 (Ar k)] 43)) A n o c ns := hI.out.fx ((Fx.refl (fun _ => False) wr).alloc _) (fun _ h => h.elim)
        have hp := popcheck_any w _ A n o c ns i1
        have HP := hide hp
        clear hp i1
        go_wp2_with fail
        refine (unhide HP).mono ?_
        rintro e wA ⟨o', c', ns', rfl, hi', ht, hl1, hl2⟩
        have IA := hide hi'
        clear hi' HP ht
        go_wp2_with (go_at_call 11; refine (chain_any w wA A n o' c' c' ns' _ rfl IA.out hbig).mono ?_; rintro e w' ⟨rfl, q, rfl⟩)
        go_roundg (n - (k + 1))
        case measure => omega
        case rel => exact ⟨k + 1, o', c', ns', by go_num, by omega, by omega, rfl, rfl, by omega, by omega, IA.out.fx ((Fx.refl (fun _ => False) wA).drewN q) (fun _ h => h.elim)⟩
    · obtain rfl : n = k := by omega
      clear hg hk hge
      go_wp2_with fail
      go_loopg [4, 5, 10] ns.length (fun kx s4 s5 s10 wi => ∃ (j o c : Nat) (ms : List (Nat × Int)), s10 = .int .i64 j ∧ j ≤ 1024 ∧ j ≤ kx ∧ s4 = .slice (some ⟨w.heap.size + 1, o, none⟩) ms.length c ∧ s5 = .slice (some ⟨A, o, none⟩) ms.length c ∧
        Hid (j = ms.length) ∧ Hid (Inv w wi A n o c ms))
      case atStart => exact ⟨ns.length, o, c, ns, rfl, by have := hI.out.len; omega, Nat.le_refl _, rfl, rfl, rfl, hI⟩
      case round =>
        clear hI hnc hcn
        obtain ⟨j, o, c, ms, rfl, hj, hgj, rfl, rfl, hjm, hI⟩ := hrel
        rcases Nat.eq_zero_or_pos j with h0 | hpos
        · subst h0
          have hms : ms = [] := List.eq_nil_of_length_eq_zero hjm.out.symm
          subst hms
          have hq := hI.out.q
          have c0 := hq.blk.cell 0
          have c1 := hq.blk.cell 1
          simp [nxt, lst] at c0 c1
          have HP := hide (pop_empty w.heap.size _ hq)
          have hbel := hide hI.out.bel
          clear hq hI hjm
          go_wp2_with fail
          refine (unhide HP).mono ?_
          rintro e wA ⟨rfl, rfl⟩
          clear HP
          go_wp2
          go_ret
          exact ⟨rfl, hbel.out⟩
        · have HP := hide (popcheck_any w _ A n o c ms hI.out)
          go_wp2_with fail
          refine (unhide HP).mono ?_
          rintro e wA ⟨o', c', ns', rfl, hi', ht, hl1, hl2⟩
          have IA := hide hi'
          have HT := hide ht
          clear hi' HP ht
          go_wp2_with (go_at_call 11; refine (chain_any w wA A n o' c' c' ns' _ rfl IA.out hbig).mono ?_; rintro e w' ⟨rfl, q, rfl⟩)
          go_roundg (j - 1)
          case measure => omega
          case rel => exact ⟨j - 1, o', c', ns', by go_num, by omega, by omega, rfl, rfl, by show _ = _; rw [HT.out, List.length_tail, ← hjm.out], IA.out.fx ((Fx.refl (fun _ => False) wA).drewN q) (fun _ h => h.elim)⟩
end Go.Proofs.Ybulkcxfk
