import Derived.Test.YbulkcxfkS
import Derived.RegionTactic
namespace Go.Proofs.Ybulkcxfk
open Go.RowKit

theorem Yba.info31 : (Yba.prog.info? 31).map (fun i => (i.zero, i.size, i.bytes)) = some (some (.chan none), 1, 8) := by kernel_rfl
theorem Yba.info4 : (Yba.prog.info? 4).map (fun i => (i.zero, i.size, i.bytes)) = some (some (.bool false), 1, 1) := by kernel_rfl
theorem mkchan (w : World) : (Instr.makeChan 31 (.int .i64 1)).run Yba.prog w = .ok (.chan (some w.heap.size)) (w.alloc (.chan 1 #[] false 0 0 false)) := by
  obtain ⟨i, hi, _, _, hb⟩ := info_parts Yba.info4
  simp [Instr.makeChan, asInt, asIntOf, run_underlying Yba.underlying31, typeInfo, hi, hb]

def ChansAt (w : World) (Ch k : Nat) (C : Nat → Option Nat) : Prop := ∀ i, i < k → w.cell? ⟨Ch, i, none⟩ = some (.chan (C i))

theorem step_rel {w W : World} {I n k : Nat} {C' : Nat → Option Nat} {S : Nat → Int} {ds cs : List Value} {ch : Option Nat} (h : Blk W w.heap.size (ds.set k (.chan ch)) 31 ∧ Blk W I cs 33 ∧
      (∀ i, i < k + 1 → W.cell? ⟨w.heap.size, i, none⟩ = some (.chan (C' i))) ∧ PairsAt W I k C' S ∧ Fx (fun q => q = w.heap.size ∨ q = I) w W) (hdl : ds.length = n) (hcl : cs.length = n * 2) (hlt : k < n) (hCh : w.heap.size < I) :
    Hid (∃ ds, Blk ((W.setCell ⟨I, k * 2, none⟩ (.chan (C' k))).setCell ⟨I, k * 2 + 1, none⟩ (.int .i64 (S k))).drew w.heap.size ds 31 ∧ ds.length = n) ∧
    Hid (ChansAt ((W.setCell ⟨I, k * 2, none⟩ (.chan (C' k))).setCell ⟨I, k * 2 + 1, none⟩ (.int .i64 (S k))).drew w.heap.size (k + 1) C') ∧
    Hid (∃ cs, Blk ((W.setCell ⟨I, k * 2, none⟩ (.chan (C' k))).setCell ⟨I, k * 2 + 1, none⟩ (.int .i64 (S k))).drew I cs 33 ∧ cs.length = n * 2) ∧
    Hid (PairsAt ((W.setCell ⟨I, k * 2, none⟩ (.chan (C' k))).setCell ⟨I, k * 2 + 1, none⟩ (.int .i64 (S k))).drew I (k + 1) C' S) ∧
    Hid (Fx (fun q => q = w.heap.size ∨ q = I) w ((W.setCell ⟨I, k * 2, none⟩ (.chan (C' k))).setCell ⟨I, k * 2 + 1, none⟩ (.int .i64 (S k))).drew) := by
  obtain ⟨h1, h2, h3, h4, h5⟩ := h
  have f : Fx (fun q => q = I) W ((W.setCell ⟨I, k * 2, none⟩ (.chan (C' k))).setCell ⟨I, k * 2 + 1, none⟩ (.int .i64 (S k))).drew :=
    Fx.trans (Fx.setCell (S := fun q => q = I) (Fx.setCell (S := fun q => q = I) (Fx.refl _ _) rfl _) rfl _) ⟨rfl, rfl, rfl, Nat.le_refl _, fun _ _ _ => rfl⟩
  obtain ⟨r1, r2⟩ := pair_store h2 hcl hlt h4
  have h1' := h1.fx f (by omega)
  exact ⟨⟨_, h1', by simpa using hdl⟩, fun i hi => by rw [h1'.cell, ← h1.cell]; exact h3 i hi, r1, r2, h5.trans (f.mono (fun _ _ h => .inr h))⟩

theorem wakes_facts {w wS w3 : World} {I St n : Nat} {C : Nat → Option Nat} {S : Nat → Int} {a0 : Option Addr} (fA : Fx (fun q => q = w.heap.size ∨ q = I) w wS) (hI : InRow w w.heap.size a0 n S) (cD : ChansAt wS w.heap.size n C)
    (hf : Fx (fun q => q = St ∨ q = I) wS w3) (hSt : w.heap.size < St) (hCh : w.heap.size < I) : InRow w3 w.heap.size a0 n S ∧ ChansAt w3 w.heap.size n C ∧ Below w.heap.size w w3 ∧ wS.heap.size ≤ w3.heap.size := by
  have f : Fx (fun q => q = w.heap.size ∨ q = I ∨ q = St) w w3 := (fA.mono (fun _ _ h => h.elim .inl (fun e => .inr (.inl e)))).trans (hf.mono (fun _ _ h => h.elim (fun e => .inr (.inr e)) (fun e => .inr (.inl e))))
  exact ⟨hI.fx f (fun k hk => by omega), fun i hi => (World.cell?_of_block (w := wS) (hf.block w.heap.size (World.block_lt_of_cell? wS _ (cD i hi)) (by omega))).trans (cD i hi), f.below (Nat.le_refl _) (fun k hk => by omega), hf.size⟩

set_option maxHeartbeats 4000000 in
set_option maxRecDepth 100000 in
theorem wakes_walk (a0 : Option Addr) (n cap0 : Nat) (S : Nat → Int) (cut : Int) (w : World) (hm : n ≤ 9223372036854775807) (h : InRow w w.heap.size a0 n S) :
    Calls Yba.prog 4 #[.slice a0 n cap0, .int .i64 cut] w fun e w' => e = .returned (.bool true) ∧ Below w.heap.size w w' := by
  have HI := hide h
  clear h
  rcases Nat.lt_or_ge 1024 n with hbig | hbig
  · go_enter Yba.func4, Yba.ntmps4
    go_wp2
    go_ret
    exact ⟨rfl, Below.refl _ _⟩
  obtain ⟨K, hK⟩ := cutAt_ex cut S n
  have hKn := hK.1
  have HK := hide hK
  clear hK
  obtain ⟨i31, hi31, hz31, hs31, hb31⟩ := info_parts Yba.info31
  obtain ⟨i33, hi33, hz33, hs33, hb33⟩ := info_parts Yba.info33
  go_enter Yba.func4, Yba.ntmps4
  go_wp2_with (at_make; first | (refine wpList_make_full _ rfl (.tmp 19) (.tmp 19) 35 rfl w.heap.size 31 i31 _ 1 Yba.underlying35 hi31 hz31 hs31 _ _ _ _ n rfl rfl rfl rfl (by rw [hb31]; omega) (by unfold maxLen; omega) (Nat.le_refl _) ?_; intro w1 hown1 hgrow1) | (refine wpList_make_full _ rfl (.tmp 22) (.tmp 22) 26 rfl w.heap.size 33 i33 _ 2 Yba.underlying26 hi33 hz33 hs33 _ _ _ _ n rfl rfl rfl rfl (by rw [hb33]; omega) (by unfold maxLen; omega) hgrow1.size ?_; intro w2 hown2 hgrow2))
  obtain ⟨ds, hD, hdl⟩ := blk_of_made hown1
  obtain ⟨cs, hB, hcl⟩ := blk_of_made hown2
  have hD2 : Blk w2 w.heap.size ds 31 := hD.fx (fx_grown hgrow2) (by simp)
  have hIlt := hB.lt
  have hCh := hD.lt
  have hf2 : Fx (fun q => q = w.heap.size ∨ q = w1.heap.size) w w2 := ((fx_grown hgrow1).mono (by simp)).trans ((fx_grown hgrow2).mono (by simp))
  clear hown1 hown2 hgrow1 hgrow2 hD
  generalize hII : w1.heap.size = I at *
  clear hII w1
  go_loopg [7] n (fun kx s7 wr => ∃ (k : Nat) (C : Nat → Option Nat), s7 = .int .i64 k ∧ k ≤ n ∧ n - k ≤ kx ∧ Hid (∃ ds, Blk wr w.heap.size ds 31 ∧ ds.length = n) ∧ Hid (ChansAt wr w.heap.size k C) ∧
    Hid (∃ cs, Blk wr I cs 33 ∧ cs.length = n * 2) ∧ Hid (PairsAt wr I k C S) ∧ Hid (Fx (fun q => q = w.heap.size ∨ q = I) w wr) ∧ I < wr.heap.size)
  case atStart => exact ⟨0, fun _ => none, rfl, Nat.zero_le _, by omega, ⟨ds, hD2, by omega⟩, fun i hi => absurd hi (Nat.not_lt_zero _), ⟨cs, hB, hcl⟩, fun i hi => absurd hi (Nat.not_lt_zero _), hf2, hIlt⟩
  case round =>
    clear hD2 hB hdl hcl hf2 hIlt
    obtain ⟨k, C, rfl, hk, hg, hdk, hck, hbk, hpk, hfk, hIlt⟩ := hrel
    rcases Nat.lt_or_ge k n with hlt | hge
    · obtain ⟨b, off, rfl, hb, hc⟩ := (HI.out.fx hfk.out (fun k hk => by omega)) (by omega)
      have c0 := hc k hlt
      clear hc
      have mk := mkchan
      obtain ⟨ds, hD, hdl⟩ := hdk.out
      obtain ⟨cs, hB, hcl⟩ := hbk.out
      obtain ⟨x0, dd⟩ : ∃ v, wr.cell? ⟨w.heap.size, k, none⟩ = some v := ⟨_, by rw [hD.cell, List.getElem?_eq_getElem (by omega)]⟩
      obtain ⟨v0, d0⟩ : ∃ v, wr.cell? ⟨I, k * 2, none⟩ = some v := ⟨_, by rw [hB.cell, List.getElem?_eq_getElem (by omega)]⟩
      obtain ⟨v1, d1⟩ : ∃ v, wr.cell? ⟨I, k * 2 + 1, none⟩ = some v := ⟨_, by rw [hB.cell, List.getElem?_eq_getElem (by omega)]⟩
      have fd := hD.free k
      have f0 := hB.free (k * 2)
      have f1 := hB.free (k * 2 + 1)
      have hkz : (k : Int) < (n : Int) := by omega
      have hDlt := hD.lt
      go_wp2
      obtain ⟨W, hW⟩ : ∃ W, W = (wr.setCell { block := w.heap.size, off := k } (Value.chan (some wr.heap.size))).alloc (Obj.chan 1 #[] false 0 0 false) := ⟨_, rfl⟩
      rw [← hW]
      have fW : Fx (fun q => q = w.heap.size) wr W := by rw [hW]; exact (Fx.setCell (S := fun q => q = w.heap.size) (Fx.refl _ _) rfl _).alloc _
      have hDW : Blk W w.heap.size (ds.set k (.chan (some wr.heap.size))) 31 := by rw [hW]; exact (hD.set k _).alloc _
      have hBW : Blk W I cs 33 := hB.fx fW (by omega)
      have hpW : PairsAt W I k C S := hpk.out.fx fW (by omega)
      have e0 : W.cell? ⟨w.heap.size, k, none⟩ = some (.chan (some wr.heap.size)) := by rw [hDW.cell, List.getElem?_set_self (by omega)]
      have e1 : W.cell? ⟨b, off + k, none⟩ = some (.int .i64 (S k)) := (World.cell?_of_block (w := wr) (fW.block b (World.block_lt_of_cell? wr _ c0) (by omega))).trans c0
      have e2 : W.cell? ⟨I, k * 2, none⟩ = some v0 := (World.cell?_of_block (w := wr) (fW.block I hIlt (by omega))).trans d0
      have e3 : W.cell? ⟨I, k * 2 + 1, none⟩ = some v1 := (World.cell?_of_block (w := wr) (fW.block I hIlt (by omega))).trans d1
      have g0 := hBW.free (k * 2)
      have g1 := hBW.free (k * 2 + 1)
      have eC : ∀ i, i < k + 1 → W.cell? ⟨w.heap.size, i, none⟩ = some (.chan ((fun i => if i = k then some wr.heap.size else C i) i)) := fun i hi => by
        show _ = some (Value.chan (if i = k then some wr.heap.size else C i))
        by_cases hik : i = k
        · subst hik; rw [if_pos rfl]; exact e0
        · rw [if_neg hik, hDW.cell, List.getElem?_set_ne (by omega), ← hD.cell]; exact hck.out i (by omega)
      have pC : PairsAt W I k (fun i => if i = k then some wr.heap.size else C i) S := fun i hi => by simp only; rw [if_neg (by omega)]; exact hpW i hi
      obtain ⟨C', hC', eC, pC⟩ : ∃ C' : Nat → Option Nat, C' k = some wr.heap.size ∧ (∀ i, i < k + 1 → W.cell? ⟨w.heap.size, i, none⟩ = some (.chan (C' i))) ∧ PairsAt W I k C' S := ⟨fun i => if i = k then some wr.heap.size else C i, by simp, eC, pC⟩
      have HC' := hide hC'
      have HDW := hide (And.intro hDW (And.intro hBW (And.intro eC (And.intro pC (hfk.out.trans (fW.mono (fun _ _ h => .inl h)))))))
      have hWs := fW.size
      clear hW fW hDW hBW hpW eC pC hD hB hck hpk hfk dd d0 d1 c0 fd f0 f1 hdk hbk hC'
      go_region
      go_wp2
      have R := step_rel HDW.out hdl hcl hlt hCh
      rw [HC'.out] at R
      clear HDW
      go_roundg (n - (k + 1))
      case measure => omega
      case rel => exact ⟨k + 1, _, by go_num, by omega, by omega, R.1, R.2.1, R.2.2.1, R.2.2.2.1, R.2.2.2.2, by simp; omega⟩
    · obtain rfl : n = k := by omega
      clear hg hk hge
      obtain ⟨cs, hB, hl⟩ := hbk.out
      have fS : Fx (fun _ => False) wr (wr.alloc (.cells #[.slice (some ⟨I, 0, none⟩) n n] 30)) := (Fx.refl _ _).alloc _
      have hS : StackOk (wr.alloc (.cells #[.slice (some ⟨I, 0, none⟩) n n] 30)) wr.heap.size I n n C S :=
        ⟨Blk.new wr #[.slice (some ⟨I, 0, none⟩) n n] 30, ⟨cs, hB.fx fS id, hl⟩, hpk.out.fx fS id, by omega, Nat.le_refl _, hbig⟩
      have fA : Fx (fun q => q = w.heap.size ∨ q = I) w (wr.alloc (.cells #[.slice (some ⟨I, 0, none⟩) n n] 30)) := hfk.out.trans (fS.mono (fun _ _ h => h.elim))
      obtain ⟨ds, hD, hdl⟩ := hdk.out
      have cD : ChansAt (wr.alloc (.cells #[.slice (some ⟨I, 0, none⟩) n n] 30)) w.heap.size n C := fun i hi => (World.cell?_of_block (w := wr) (fS.block w.heap.size hD.lt id)).trans (hck.out i hi)
      have hwr := hfk.out.size
      have HS := hide hS
      have FA := hide fA
      have CD := hide cD
      have HR := hide (HI.out.fx fA (fun k hk => by omega))
      clear hB hl hS fS fA hD hdl cD hdk hck hbk hpk hfk
      have hCc := hide (cut_any a0 n cap0 w.heap.size K S cut _ hbig HR.out HK.out)
      go_wp2_with fail
      refine (unhide hCc).mono ?_
      rintro e wA ⟨rfl, rfl⟩
      clear hCc
      have hTT := hide (take_any wr.heap.size I n n K C S cut _ HS.out HK.out)
      go_wp2_with fail
      refine (unhide hTT).mono ?_
      rintro e w3 ⟨g, c, rfl, hp, hg, hs2, hf2⟩
      obtain ⟨hr3, cd3, hbel, hsz3⟩ := wakes_facts FA.out HI.out CD.out hf2 (by omega) hCh
      obtain ⟨St, hStE⟩ : ∃ St, wr.heap.size = St := ⟨_, rfl⟩
      have hStI : w.heap.size < St := by omega
      rw [hStE] at hs2
      rw [hStE]
      have hst : w3.cell? ⟨St, 0, none⟩ = some (.slice (some ⟨I, 0, none⟩) (n - K) n) := hs2.st.cell 0
      have HP := hide hp
      have H2 := hide hs2
      have H3 := hide hr3
      have C3 := hide cd3
      have HB := hide hbel
      clear hp hs2 hr3 cd3 hbel hf2 hTT HS FA CD HR HI hg hsz3 hStE
      have hKz : (K : Int) ≤ (n : Int) := by omega
      have hneq : (((n - K : Nat) : Int) != (n : Int) - (K : Int)) = false := by simp; omega
      have neq := neq_chan31
      go_wp2
      go_loopg [11] K (fun kx s11 wr => ∃ (k q : Nat), s11 = .int .i64 k ∧ k ≤ K ∧ K - k ≤ kx ∧ w3.drewN q = wr)
      case atStart => exact ⟨0, 0, rfl, Nat.zero_le _, by omega, rfl⟩
      case round =>
        obtain ⟨k, q, rfl, hk, hgk, rfl⟩ := hrel
        rcases Nat.lt_or_ge k K with hlt | hge
        · have c0 := C3.out k (by omega)
          have d0 := (HP.out k hlt).1
          have hkz : (k : Int) < (K : Int) := by omega
          have hkn : (k : Int) < (n : Int) := by omega
          go_wp2
          go_quiet (fail)
          go_wp2
          go_roundg (K - (k + 1))
          case measure => omega
          case rel => exact ⟨k + 1, q + nq, by go_num, by omega, by omega, rfl⟩
        · obtain rfl : K = k := by omega
          clear hgk hk hge HP
          go_wp2
          go_loopg [12] n (fun kx s12 wr => ∃ (k q : Nat), s12 = .int .i64 k ∧ K ≤ k ∧ k ≤ n ∧ n - k ≤ kx ∧ w3.drewN q = wr)
          case atStart => exact ⟨K, q, rfl, Nat.le_refl _, hKn, by omega, rfl⟩
          case round =>
            obtain ⟨k, q, rfl, hKk, hkn, hgk, rfl⟩ := hrel
            rcases Nat.lt_or_ge k n with hlt | hge
            · have c0 := C3.out k hlt
              have d0 := (H2.out.pairs (k - K) (by omega)).1
              simp only [show K + (k - K) = k by omega] at d0
              have hkn : (k : Int) < (n : Int) := by omega
              have hx0 : (0 : Int) ≤ (k : Int) - (K : Int) := by omega
              have hx1 : (k : Int) - (K : Int) < ((n - K : Nat) : Int) := by omega
              go_wp2
              go_quiet (fail)
              go_wp2
              go_roundg (n - (k + 1))
              case measure => omega
              case rel => exact ⟨k + 1, q + nq, by go_num, by omega, by omega, by omega, rfl⟩
            · obtain rfl : n = k := by omega
              clear hgk hKk hkn hge hst
              have hK2 : CutAt cut (fun i => S (K + i)) (n - K) 0 := ⟨Nat.zero_le _, fun i hi => absurd hi (Nat.not_lt_zero _), fun h => HK.out.2.2 (by omega)⟩
              have hT2 := take_any St I (n - K) n 0 _ _ cut (w3.drewN q) (H2.out.fx ((Fx.refl (fun _ => False) w3).drewN q) id id) hK2
              simp only [Nat.sub_zero, Nat.zero_add] at hT2
              have HT2 := hide hT2
              clear hT2 hK2
              go_wp2_with fail
              refine (unhide HT2).mono ?_
              rintro e w4 ⟨g2, c2, rfl, _, _, hs4, hf4⟩
              have fD : Fx (fun q => q = St ∨ q = I) w3 w4 := ((Fx.refl _ w3).drewN q).trans hf4
              have H4 := hide (H3.out.fx fD (fun k hk => by omega))
              have C4 : Hid (ChansAt w4 w.heap.size n C) := fun i hi => (World.cell?_of_block (w := w3) (fD.block w.heap.size (World.block_lt_of_cell? w3 _ (C3.out i hi)) (by omega))).trans (C3.out i hi)
              have B4 := hide (HB.out.trans (fD.below (by have := HB.out.size; omega) (fun k hk => by omega)))
              have hst : w4.cell? ⟨St, 0, none⟩ = some (.slice (some ⟨I, 0, none⟩) (n - K) n) := hs4.st.cell 0
              have S4 := hide hs4
              clear hs4 hf4 fD HT2 H3 C3 HB H2
              go_wp2
              go_loopg [14] n (fun kx s14 wr => ∃ (k q : Nat), s14 = .int .i64 k ∧ K ≤ k ∧ k ≤ n ∧ n - k ≤ kx ∧ w4.drewN q = wr)
              case atStart => exact ⟨K, 0, rfl, Nat.le_refl _, hKn, by omega, rfl⟩
              case round =>
                obtain ⟨k, q, rfl, hKk, hkn, hgk, rfl⟩ := hrel
                rcases Nat.lt_or_ge k n with hlt | hge
                · obtain ⟨b, off, rfl, hb, hc⟩ := H4.out (by omega)
                  have r0 := hc k (by omega)
                  clear hc
                  have c0 := C4.out k hlt
                  obtain ⟨d0, d1⟩ := S4.out.pairs (k - K) (by omega)
                  simp only [show K + (k - K) = k by omega] at d0 d1
                  have hkn : (k : Int) < (n : Int) := by omega
                  have hx0 : (0 : Int) ≤ (k : Int) - (K : Int) := by omega
                  have hx1 : (k : Int) - (K : Int) < ((n - K : Nat) : Int) := by omega
                  go_wp2
                  go_quiet (fail)
                  go_wp2
                  go_roundg (n - (k + 1))
                  case measure => omega
                  case rel => exact ⟨k + 1, q + nq, by go_num, by omega, by omega, by omega, rfl⟩
                · obtain rfl : n = k := by omega
                  go_wp2
                  go_ret
                  exact ⟨rfl, B4.out.trans ⟨rfl, rfl, rfl, Nat.le_refl _, fun _ _ => rfl⟩⟩
end Go.Proofs.Ybulkcxfk
