import Derived.Test.YbulkcxfyQ
namespace Go.Proofs.Ybulkcxfy
open Go.RowKit

/-- the bytes that came in -/
def InRow (w : World) (B : Nat) (a0 : Option Addr) (ts : List Int) : Prop :=
  0 < ts.length → ∃ b off, a0 = some ⟨b, off, none⟩ ∧ b < B ∧ ∀ r, r < ts.length → w.cell? ⟨b, off + r, none⟩ = some (.int .u8 (ts.getD r 0))

theorem preK_at (np i : Nat) (l : List Int) (h : i < np) : (preK np ++ l)[i]? = some (-1 - (i : Int)) := by
  rw [List.getElem?_append_left (by rw [preK_len]; exact h)]
  simp [preK, h]
theorem preS_at (np i : Nat) (l : List (Int × Int)) (h : i < np) : (preS np ++ l)[i]? = some (9, -1 - (i : Int)) := by
  rw [List.getElem?_append_left (by rw [preS_len]; exact h)]
  simp [preS, h]

theorem send_self' (H R b : Nat) (k to me n : Int) (L : List (Nat × Int)) (Sd : List (Int × Nat × Int)) (cs : List Value) (lv sv : Value) (w : World) (h : Rep H w R me n L Sd cs lv sv) (hb : Blk w b [.int .i64 k] 105) (hL : L.length ≤ 100000) (hto : to = me) :
    Calls Yba.prog 8 #[P0 R, .int .i64 to, Mg b] w fun e w' => e = .returned (.tuple #[]) ∧ (∃ cs' v', Rep H w' R me n (L ++ [(b, k)]) Sd cs' v' sv) ∧ Below H w w' := by
  subst hto
  exact send_self H R b k to n L Sd cs lv sv w h hb hL

set_option maxHeartbeats 8000000 in
set_option maxRecDepth 100000 in
theorem routes_walk (a0 a1 : Int) (a2 : Option Addr) (m cap : Nat) (ts : List Int) (w : World) (hm : m = ts.length) (hm2 : m ≤ 9223372036854775807) (h0 : 0 ≤ a0 ∧ a0 ≤ 255) (h1 : 0 ≤ a1 ∧ a1 ≤ 255) (hts : ∀ r, r < ts.length → 0 ≤ ts.getD r 0 ∧ ts.getD r 0 ≤ 255) (h : InRow w w.heap.size a2 ts) :
    Calls Yba.prog 5 #[.int .u8 a0, .int .u8 a1, .slice a2 m cap] w fun e w' => e = .returned (.bool true) ∧ Below w.heap.size w w' := by
  have HM := hide hm
  have HI := hide h
  have HT := hide hts
  clear h hts hm
  rcases Nat.lt_or_ge 1024 m with hbig | hbig
  · go_enter Yba.func5, Yba.ntmps5
    go_wp2
    go_ret
    exact ⟨rfl, Below.refl _ _⟩
  obtain ⟨i107, hi107, hz107, hs107, hb107⟩ := info_parts Yba.info107
  obtain ⟨i109, hi109, hz109, hs109, hb109⟩ := info_parts Yba.info109
  obtain ⟨arr, hbuild, ha0, ha1, ha2, ha3, ha4⟩ := build_one (a0 % 4 + 1)
  have HBD := hide hbuild
  have HA := hide (And.intro ha0 (And.intro ha1 (And.intro ha2 (And.intro ha3 ha4))))
  clear hbuild ha0 ha1 ha2 ha3 ha4
  go_enter Yba.func5, Yba.ntmps5
  go_wp2_with (first | (refine wpList_value rfl _ (exec_build1 (s := .tmp 32) rfl rfl HBD.out) ?_) | (refine wpList_value rfl _ (exec_box (s := .tmp 33) rfl rfl) ?_))
  have hme : 1 ≤ a0 % 4 + 1 ∧ a0 % 4 + 1 ≤ 4 := by omega
  have hnp : 0 ≤ a1 % 8 ∧ a1 % 8 ≤ 7 := by omega
  clear HBD
  generalize a0 % 4 + 1 = me at hme HA ⊢
  generalize a1 % 8 = z at hnp ⊢
  obtain ⟨np, rfl⟩ : ∃ np : Nat, z = np := ⟨z.toNat, by omega⟩
  go_loopg [10] np (fun kx s10 wr => ∃ (j : Nat) (L : List (Nat × Int)) (Sd : List (Int × Nat × Int)) (cs : List Value) (lv sv : Value), s10 = .int .i64 j ∧ j ≤ np ∧ np - j ≤ kx ∧
    Hid (Rep w.heap.size wr w.heap.size me 0 L Sd cs lv sv) ∧ Hid (KL L = preK j) ∧ Hid (KS Sd = preS j) ∧ Hid (Below w.heap.size w wr))
  case atStart => exact ⟨0, [], [], _, _, _, rfl, Nat.zero_le _, by omega, rep_start w arr me 0 HA.out.1 HA.out.2.1 HA.out.2.2.1 HA.out.2.2.2.1 HA.out.2.2.2.2, rfl, rfl, (Below.refl _ _).alloc (Nat.le_refl _) _⟩
  case round =>
    obtain ⟨j, L, Sd, cs, lv, sv, rfl, hj, hg, hrep, hKL, hKS, hbel⟩ := hrel
    rcases Nat.lt_or_ge j np with hlt | hge
    · have c36 : wr.cell? ⟨w.heap.size, 36, none⟩ = some lv := (hrep.out.box.cell 36).trans hrep.out.hlv
      have hHw : w.heap.size < wr.heap.size := hrep.out.box.lt
      have hLl : L.length = j := by rw [← KL_len, hKL.out, preK_len]
      have hSl : Sd.length = j := by rw [← KS_len, hKS.out, preS_len]
      have HLl := hide hLl
      have HSl := hide hSl
      clear hLl hSl
      have hLb : L.length ≤ 7 := by have := HLl.out; omega
      have hSb : Sd.length ≤ 7 := by have := HSl.out; omega
      go_wp2_with (first | (at_builtin; refine wpList_append_own _ rfl (.tmp 47) (.tmp 53) 84 rfl w.heap.size 107 i107 .nilIface 1 16 Yba.underlying84 hi107 hz107 hs107 hb107 rfl (by decide) lv L.length (locCells L) rfl ((hrep.out.loc.alloc _).alloc _) ⟨wr.heap.size + 1, 0, none⟩ 1 1 [Mg wr.heap.size] rfl rfl (by simpa using one_new (wr.alloc (.cells #[.int .i64 (-1 - (j : Int))] 105)) (Mg wr.heap.size) 107) (one_one _ rfl) (by unfold maxLen; omega) (by omega) (by simp; omega) ?_; intro v' w1 hown hgrow _; obtain ⟨ao, c, hv⟩ := own_shape hown; subst hv; obtain ⟨b1, r1, r2⟩ := (hrep.out.alloc (.cells #[.int .i64 (-1 - (j : Int))] 105)).pushLocal (Blk.new wr #[.int .i64 (-1 - (j : Int))] 105) hown hgrow; have d36 := (b1.cell 36).trans hrep.out.hlv; have f36 := b1.free 36; have d38 := (b1.cell 38).trans hrep.out.hsv; have f38 := b1.free 38; have R1 := hide r1; have R2 := hide ((hbel.out.alloc (by omega) _).trans r2); have hw1 := b1.lt; clear hown hgrow b1 r1 r2 hrep hbel c36) | (at_builtin; refine wpList_append_own _ rfl (.tmp 62) (.tmp 69) 86 rfl w.heap.size 109 i109 (.agg #[.int .i64 0, .nilIface]) 2 24 Yba.underlying86 hi109 hz109 hs109 hb109 rfl (by decide) sv Sd.length (sndCells Sd) rfl ((R1.out.snd.alloc _).alloc _) ⟨w1.heap.size + 1, 0, none⟩ 1 1 [.int .i64 9, Mg w1.heap.size] rfl rfl (by simpa using two_new ((w1.setCell ⟨w.heap.size, 36, none⟩ (.slice ao (L.length + 1) c)).alloc (.cells #[.int .i64 (-1 - (j : Int))] 105)) (.int .i64 9) (Mg w1.heap.size) 109) (two_one _ _ rfl rfl) (by unfold maxLen; omega) (by omega) (by simp; omega) ?_; intro v'' w2 hown hgrow _; obtain ⟨ao2, c2, hv⟩ := own_shape hown; subst hv; obtain ⟨b1, r1, r2⟩ := (R1.out.alloc (.cells #[.int .i64 (-1 - (j : Int))] 105)).pushSend (b := w1.heap.size) (k := -1 - (j : Int)) (by simpa using Blk.new (w1.setCell ⟨w.heap.size, 36, none⟩ (.slice ao (L.length + 1) c)) #[.int .i64 (-1 - (j : Int))] 105) hown hgrow; have e38 := (b1.cell 38).trans R1.out.hsv; have g38 := b1.free 38; have R3 := hide r1; have R4 := hide ((R2.out.alloc (by simp; omega) _).trans r2); clear hown hgrow b1 r1 r2 R1 R2 d36 f36 d38 f38))
      go_roundg (np - (j + 1))
      case measure => omega
      case rel => exact ⟨j + 1, _, _, _, _, _, by go_num, by omega, by omega, R3, by show _ = _; rw [KL_snoc, hKL.out, preK_succ], by show _ = _; rw [KS_snoc, hKS.out, preS_succ], R4⟩
    · obtain rfl : np = j := by omega
      clear hg hj hge
      go_wp2
      go_loopg [76] m (fun kx s76 wr => ∃ (t : Nat) (L : List (Nat × Int)) (Sd : List (Int × Nat × Int)) (cs : List Value) (lv sv : Value), s76 = .int .i64 t ∧ t ≤ m ∧ m - t ≤ kx ∧
        Hid (Rep w.heap.size wr w.heap.size me 0 L Sd cs lv sv) ∧ Hid (KL L = preK np ++ locK me 0 (ts.take t)) ∧ Hid (KS Sd = preS np ++ sndK me 0 (ts.take t)) ∧ Hid (Below w.heap.size w wr))
      case atStart => exact ⟨0, L, Sd, cs, lv, sv, rfl, Nat.zero_le _, by omega, hrep, by show _ = _; rw [hKL.out]; simp [locK], by show _ = _; rw [hKS.out]; simp [sndK], hbel⟩
      case round =>
        clear hrep hKL hKS hbel
        obtain ⟨t, L, Sd, cs, lv, sv, rfl, ht, hg, hrep, hKL, hKS, hbel⟩ := hrel
        rcases Nat.lt_or_ge t m with hlt | hge
        · have hml := HM.out
          obtain ⟨b, off, rfl, hb, hc⟩ := HI.out (by omega)
          have c0 := hc t (by omega)
          rw [← hbel.out.cell (by exact hb)] at c0
          have htv := HT.out t (by omega)
          have hLl : L.length ≤ 2000 := by
            rw [← KL_len, hKL.out, List.length_append, preK_len]
            have := (lens me (ts.take t) 0).1
            rw [List.length_take] at this
            omega
          have hSl : Sd.length ≤ 2000 := by
            rw [← KS_len, hKS.out, List.length_append, preS_len]
            have := (lens me (ts.take t) 0).2
            rw [List.length_take] at this
            omega
          have eL := locK_step me ts t (by omega)
          have eS := sndK_step me ts t (by omega)
          generalize ts.getD t 0 = tv at c0 htv eL eS
          have hHw : w.heap.size < wr.heap.size := hrep.out.box.lt
          have EL := hide eL
          have ES := hide eS
          clear hc eL eS hml
          have nb := Blk.new wr #[.int .i64 (t : Int)] 105
          by_cases hto : toOf tv = me
          · have hS := hide (send_self' w.heap.size w.heap.size wr.heap.size t (tv % 4 + 1) me 0 L Sd cs lv sv _ (hrep.out.alloc (.cells #[.int .i64 (t : Int)] 105)) nb (by omega) hto)
            have HTO := hide hto
            clear nb hto
            go_wp2_with fail
            refine (unhide hS).mono ?_
            rintro e w' ⟨rfl, ⟨cs', v', hr⟩, hb'⟩
            have HR := hide hr
            have HB := hide ((hbel.out.alloc (by omega) _).trans hb')
            clear hr hb' hS hrep hbel c0
            go_wp2
            go_roundg (m - (t + 1))
            case measure => omega
            case rel => exact ⟨t + 1, _, _, _, _, _, by go_num, by omega, by omega, HR, by show _ = _; rw [KL_snoc, hKL.out, EL.out, if_pos HTO.out, List.append_assoc], by show _ = _; rw [hKS.out, ES.out, if_pos HTO.out, List.append_nil], HB⟩
          · have hS := hide (send_other w.heap.size w.heap.size wr.heap.size t (tv % 4 + 1) me 0 L Sd cs lv sv _ (hrep.out.alloc (.cells #[.int .i64 (t : Int)] 105)) nb (by omega) hto)
            have HTO := hide hto
            clear nb hto
            go_wp2_with fail
            refine (unhide hS).mono ?_
            rintro e w' ⟨rfl, ⟨cs', v', hr⟩, hb'⟩
            have HR := hide hr
            have HB := hide ((hbel.out.alloc (by omega) _).trans hb')
            clear hr hb' hS hrep hbel c0
            go_wp2
            go_roundg (m - (t + 1))
            case measure => omega
            case rel => exact ⟨t + 1, _, _, _, _, _, by go_num, by omega, by omega, HR, by show _ = _; rw [hKL.out, EL.out, if_neg HTO.out, List.append_nil], by show _ = _; rw [KS_snoc, hKS.out, ES.out, if_neg HTO.out, List.append_assoc]; rfl, HB⟩
        · obtain rfl : m = t := by omega
          clear hg ht hge
          have hml := HM.out
          rw [List.take_of_length_le (by omega)] at hKL hKS
          obtain ⟨ao, cl, rfl⟩ := own_shape hrep.out.loc
          obtain ⟨so, sl, rfl⟩ := own_shape hrep.out.snd
          have c0 : wr.cell? ⟨w.heap.size, 0, none⟩ = some (.int .i64 me) := (hrep.out.box.cell 0).trans hrep.out.hself
          have c36 : wr.cell? ⟨w.heap.size, 36, none⟩ = some (.slice ao L.length cl) := (hrep.out.box.cell 36).trans hrep.out.hlv
          have c38 : wr.cell? ⟨w.heap.size, 38, none⟩ = some (.slice so Sd.length sl) := (hrep.out.box.cell 38).trans hrep.out.hsv
          have hLl : L.length = np + (locK me 0 ts).length := by rw [← KL_len, hKL.out, List.length_append, preK_len]
          have hSl : Sd.length = np + (sndK me 0 ts).length := by rw [← KS_len, hKS.out, List.length_append, preS_len]
          have hlb := lens me ts 0
          have HLl := hide hLl
          have HSl := hide hSl
          have hL2 : np ≤ L.length ∧ L.length ≤ 2000 := by omega
          have hS2 : np ≤ Sd.length ∧ Sd.length ≤ 2000 := by omega
          obtain ⟨wF, rfl⟩ : ∃ wF, wF = wr := ⟨_, rfl⟩
          clear hLl hSl hlb hml
          go_wp2
          go_loopg [13] np (fun kx s13 wr => ∃ i : Nat, s13 = .int .i64 i ∧ i ≤ np ∧ np - i ≤ kx ∧ wF = wr)
          case atStart => exact ⟨0, rfl, Nat.zero_le _, by omega, rfl⟩
          case round =>
            obtain ⟨i, rfl, hi, hg, rfl⟩ := hrel
            rcases Nat.lt_or_ge i np with hlt | hge
            · obtain ⟨g1, b1, rfl, x1, hb1⟩ := hrep.out.readLoc i (-1 - (i : Int)) (by rw [hKL.out]; exact preK_at np i _ hlt)
              obtain ⟨g2, b2, rfl, x2, x3, hb2⟩ := hrep.out.readSnd i 9 (-1 - (i : Int)) (by rw [hKS.out]; exact preS_at np i _ hlt)
              have K1 := hide (k_any b1 _ wF hb1)
              have K2 := hide (k_any b2 _ wF hb2)
              clear hb1 hb2
              have hiL : (i : Int) < (L.length : Int) := by omega
              have hiS : (i : Int) < (Sd.length : Int) := by omega
              go_wp2_with fail
              refine (unhide K1).mono ?_
              rintro e w' ⟨rfl, rfl⟩
              clear K1
              go_wp2_with fail
              refine (unhide K2).mono ?_
              rintro e w' ⟨rfl, rfl⟩
              clear K2
              go_wp2
              go_roundg (np - (i + 1))
              case measure => omega
              case rel => exact ⟨i + 1, by go_num, by omega, by omega, rfl⟩
            · obtain rfl : np = i := by omega
              clear hg hi hge
              go_wp2
              go_loopg [16, 17, 176] m (fun kx s16 s17 s176 wr => ∃ (t li si : Nat), s176 = .int .i64 t ∧ s16 = .int .i64 li ∧ s17 = .int .i64 si ∧ t ≤ m ∧ m - t ≤ kx ∧ wF = wr ∧ li ≤ 2000 ∧ si ≤ 2000 ∧
                Hid (li = np + (locK me 0 (ts.take t)).length) ∧ Hid (si = np + (sndK me 0 (ts.take t)).length))
              case atStart => exact ⟨0, np, np, rfl, rfl, rfl, Nat.zero_le _, by omega, rfl, by omega, by omega, by show _ = _; simp [locK], by show _ = _; simp [sndK]⟩
              case round =>
                obtain ⟨t, li, si, rfl, rfl, rfl, ht, hg, rfl, hl1, hs1, hli, hsi⟩ := hrel
                rcases Nat.lt_or_ge t m with hlt | hge
                · have hml := HM.out
                  obtain ⟨b, off, rfl, hb, hc⟩ := HI.out (by omega)
                  have r0 := hc t (by omega)
                  rw [← hbel.out.cell (by exact hb)] at r0
                  have htv := HT.out t (by omega)
                  have eL := locK_step me ts t (by omega)
                  have eS := sndK_step me ts t (by omega)
                  have aL := locK_at me ts t (by omega)
                  have aS := sndK_at me ts t (by omega)
                  generalize ts.getD t 0 = tv at r0 htv eL eS aL aS
                  clear hc
                  by_cases hto : toOf tv = me
                  · have htb : (tv % 4 + 1 == me) = true := by simpa [toOf] using hto
                    have aL' := aL hto np
                    rw [← hli.out, ← hKL.out] at aL'
                    have hliL : li < L.length := by have := (List.getElem?_eq_some_iff.1 aL').1; rwa [KL_len] at this
                    obtain ⟨g1, b1, rfl, x1, hb1⟩ := hrep.out.readLoc li t aL'
                    have K1 := hide (k_any b1 _ wF hb1)
                    rw [if_pos hto] at eL eS
                    have NL : Hid (li + 1 = np + (locK me 0 (ts.take (t + 1))).length) := by show _ = _; rw [eL, List.length_append, hli.out]; simp; omega
                    have NS : Hid (si = np + (sndK me 0 (ts.take (t + 1))).length) := by show _ = _; rw [eS, List.append_nil]; exact hsi.out
                    have hliz : (li : Int) < (L.length : Int) := by omega
                    clear hb1 aL' aL aS eL eS hto hml hli hsi
                    go_wp2_with fail
                    refine (unhide K1).mono ?_
                    rintro e w' ⟨rfl, rfl⟩
                    clear K1
                    go_wp2
                    go_roundg (m - (t + 1))
                    case measure => omega
                    case rel => exact ⟨t + 1, li + 1, si, by go_num, by go_num, rfl, by omega, by omega, rfl, by omega, hs1, NL, NS⟩
                  · have htb : (tv % 4 + 1 == me) = false := by simpa [toOf] using hto
                    have aS' := aS hto np
                    rw [← hsi.out, ← hKS.out] at aS'
                    have hsiS : si < Sd.length := by have := (List.getElem?_eq_some_iff.1 aS').1; rwa [KS_len] at this
                    obtain ⟨g1, b1, rfl, x0, x1, hb1⟩ := hrep.out.readSnd si (tv % 4 + 1) t aS'
                    have K1 := hide (k_any b1 _ wF hb1)
                    rw [if_neg hto] at eL eS
                    have NL : Hid (li = np + (locK me 0 (ts.take (t + 1))).length) := by show _ = _; rw [eL, List.append_nil]; exact hli.out
                    have NS : Hid (si + 1 = np + (sndK me 0 (ts.take (t + 1))).length) := by show _ = _; rw [eS, List.length_append, hsi.out]; simp; omega
                    have hsiz : (si : Int) < (Sd.length : Int) := by omega
                    clear hb1 aS' aL aS eL eS hto hml hli hsi
                    go_wp2_with fail
                    refine (unhide K1).mono ?_
                    rintro e w' ⟨rfl, rfl⟩
                    clear K1
                    go_wp2
                    go_roundg (m - (t + 1))
                    case measure => omega
                    case rel => exact ⟨t + 1, li, si + 1, by go_num, rfl, by go_num, by omega, by omega, rfl, hl1, by omega, NL, NS⟩
                · obtain rfl : m = t := by omega
                  have hml := HM.out
                  have e1 : li = L.length := by rw [hli.out, List.take_of_length_le (by omega), HLl.out]
                  have e2 : si = Sd.length := by rw [hsi.out, List.take_of_length_le (by omega), HSl.out]
                  subst e1
                  subst e2
                  clear hml
                  go_wp2
                  go_ret
                  exact ⟨by simp, hbel.out⟩
end Go.Proofs.Ybulkcxfy
