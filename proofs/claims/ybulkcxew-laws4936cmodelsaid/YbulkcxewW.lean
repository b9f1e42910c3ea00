import Derived.Test.YbulkcxewP
namespace Go.Proofs.Ybulkcxew
open Go.RowKit

def InPart (w : World) (v : Value) (st : List (Int × Int)) : Prop :=
  ∃ ao cp, v = .slice ao st.length cp ∧ st.length ≤ 9223372036854775807 ∧ (0 < st.length → ∃ b off, ao = some ⟨b, off, none⟩ ∧ b < w.heap.size ∧
    ∀ c, c < st.length → w.cell? ⟨b, off + c * 2, none⟩ = some (.int .u8 (st.getD c (0, 0)).1) ∧ w.cell? ⟨b, off + c * 2 + 1, none⟩ = some (.int .u8 (st.getD c (0, 0)).2)) ∧
    ∀ c, c < st.length → 0 ≤ (st.getD c (0, 0)).1 ∧ (st.getD c (0, 0)).1 ≤ 255 ∧ 0 ≤ (st.getD c (0, 0)).2 ∧ (st.getD c (0, 0)).2 ≤ 255

theorem Yba.info34 : (Yba.prog.info? 34).map (fun i => (i.zero, i.size, i.bytes)) = some (some (.agg #[.int .u8 0, .slice none 0 0]), 2, 32) := by kernel_rfl
theorem Yba.info31 : (Yba.prog.info? 31).map (fun i => (i.zero, i.size, i.bytes)) = some (some (.agg #[.int .i64 0, .int .i64 0]), 2, 16) := by kernel_rfl

theorem two_new (w : World) (x y : Value) (t : TypeId) : ∀ j u, ([x, y] : List Value)[j]? = some u → (w.alloc (.cells #[x, y] t)).cell? ((⟨w.heap.size, 0, none⟩ : Addr).add j) = some u := by
  intro j u hj
  match j, hj with
  | 0, hj => simp at hj; subst hj; simp [Addr.add]
  | 1, hj => simp at hj; subst hj; simp [Addr.add]
theorem two_one (x y : Value) (hx : x.oneCell' = true) (hy : y.oneCell' = true) : ∀ u ∈ ([x, y] : List Value), u.oneCell' = true := by
  intro u hu; simp at hu; rcases hu with rfl | rfl <;> assumption

set_option maxHeartbeats 8000000 in
set_option maxRecDepth 100000 in
theorem walk (a0 : Option Addr) (m cap0 : Nat) (a1 : Int) (a2 : Option Addr) (ls cap2 : Nat) (V : Nat → Value) (PS : Nat → List (Int × Int)) (w : World)
    (hm : m ≤ 9223372036854775807) (ha : 0 < m → ∃ b off, a0 = some ⟨b, off, none⟩ ∧ b < w.heap.size ∧ ∀ r, r < m → w.cell? ⟨b, off + r, none⟩ = some (V r))
    (hV : ∀ r, r < m → InPart w (V r) (PS r)) (h1 : 0 ≤ a1 ∧ a1 ≤ 65535) (hls : ls ≤ 9223372036854775807)
    (hs : 0 < ls → ∃ b off, a2 = some ⟨b, off, none⟩ ∧ b < w.heap.size ∧ ∀ r, r < ls → ∃ z, w.cell? ⟨b, off + r, none⟩ = some (.int .u8 z)) :
    Calls Yba.prog 3 #[.slice a0 m cap0, .int .u16 a1, .slice a2 ls cap2] w fun e w' => e = .returned (.bool true) ∧ Below w.heap.size w w' := by
  have HC := hide ha
  have HV := hide hV
  have HS := hide hs
  clear ha hV hs
  rcases Nat.lt_or_ge 1024 m with hbig | hbig
  · go_enter Yba.func3, Yba.ntmps3
    go_wp2
    go_ret
    exact ⟨rfl, Below.refl _ _⟩
  go_enter Yba.func3, Yba.ntmps3
  go_wp2
  go_loopg [27] m (fun kx s27 wr => ∃ k : Nat, s27 = .int .i64 k ∧ k ≤ m ∧ m - k ≤ kx ∧ w = wr ∧ Hid (∀ r, r < k → (PS r).length ≤ 1024))
  case atStart => exact ⟨0, rfl, Nat.zero_le _, by omega, rfl, fun r hr => absurd hr (Nat.not_lt_zero _)⟩
  case round =>
    obtain ⟨k, rfl, hk, hg, rfl, hall⟩ := hrel
    rcases Nat.lt_or_ge k m with hlt | hge
    · obtain ⟨b, off, rfl, hb, hc⟩ := unhide HC (by omega)
      obtain ⟨ao, cp, hv, hlen, _, _⟩ := unhide HV k hlt
      have c0 := hc k hlt
      rw [hv] at c0
      clear hc hv
      by_cases hb2 : (PS k).length ≤ 1024
      · go_wp2
        go_roundg (m - (k + 1))
        case measure => omega
        case rel => exact ⟨k + 1, by go_num, by omega, by omega, rfl, fun r hr => by
          rcases Nat.lt_or_ge r k with h | h
          · exact hall.out r h
          · obtain rfl : r = k := by omega
            exact hb2⟩
      · go_wp2
        go_ret
        exact ⟨rfl, Below.refl _ _⟩
    · obtain rfl : m = k := by omega
      clear hg hk hge
      obtain ⟨i34, hi34, hz34, hs34, hb34⟩ := info_parts Yba.info34
      obtain ⟨i31, hi31, hz31, hs31, hb31⟩ := info_parts Yba.info31
      have hXb : -20 ≤ a1 % 600 - 20 ∧ a1 % 600 - 20 ≤ 600 := by omega
      go_wp2_with (at_make; refine wpList_make_own _ rfl _ _ 26 rfl w.heap.size 34 i34 _ 2 Yba.underlying26 hi34 hz34 hs34 _ _ _ m rfl rfl rfl (by rw [hb34]; omega) (by unfold maxLen; omega) (Nat.le_refl _) ?_; intro w1 hown hgrow)
      generalize a1 % 600 - 20 = X at hXb ⊢
      generalize hS : (fun i => spansFrom (-10) (PS i)) = S
      go_loopg [10, 11, 44] m (fun kx s10 s11 s44 wr => ∃ (k : Nat) (Vs : Nat → Value) (St : Nat → Int) (bw : Bool), s44 = .int .i64 k ∧ k ≤ m ∧ m - k ≤ kx ∧ s10 = .slice (some ⟨w.heap.size, 0, none⟩) k m ∧ s11 = .bool bw ∧
        Hid (bw = anyB X S k) ∧ wr.ownsRow w.heap.size 34 2 (.slice (some ⟨w.heap.size, 0, none⟩) k m) k ((List.range k).flatMap fun i => [.int .u8 (St i), Vs i]) ∧ Below w.heap.size w wr ∧ w.heap.size < wr.heap.size ∧
        Hid (∀ i, i < k → PartOk wr (w.heap.size + 1) (Vs i) (S i)))
      case atStart => exact ⟨0, fun _ => .bool true, fun _ => 0, false, rfl, Nat.zero_le _, by omega, rfl, rfl, by show _ = _; simp [anyB], by simpa using hown, (Below.refl _ _).grown hgrow (Nat.le_refl _) (by intro k hk; cases hk),
        (hown.lt _ rfl).2, fun i hi => absurd hi (Nat.not_lt_zero _)⟩
      case round =>
        clear hown hgrow
        obtain ⟨k, Vs, St, bw, rfl, hk, hg, rfl, rfl, hbw, hown, hbel, hsz, hparts⟩ := hrel
        rcases Nat.lt_or_ge k m with hlt | hge
        · obtain ⟨b, off, rfl, hb, hc⟩ := unhide HC (by omega)
          obtain ⟨ao, cp, hv, _, hao, hbds⟩ := unhide HV k hlt
          have hlen := hall.out k hlt
          have HAO := hide hao
          have HB := hide hbds
          have c0 := hc k hlt
          rw [← hbel.cell (by exact hb), hv] at c0
          clear hc hv hao hbds
          obtain ⟨st, hst⟩ : ∃ st, PS k = st := ⟨_, rfl⟩
          rw [hst] at c0 hlen HAO HB
          have HST := hide hst
          clear hst
          obtain ⟨wo, rfl⟩ : ∃ wo, wo = wr := ⟨_, rfl⟩
          go_wp2_with fail
          go_loopg [11, 14, 15, 51] st.length (fun kx s11 s14 s15 s51 wi => ∃ (j : Nat) (bi : Bool) (c : Int), s51 = .int .i64 j ∧ j ≤ st.length ∧ st.length - j ≤ kx ∧ s15 = .int .i64 c ∧ -10 ≤ c ∧ c ≤ -10 + 23 * j ∧ Hid (c = curFrom (-10) (st.take j)) ∧
            s11 = .bool bi ∧ Hid (bi = (bw || holdsB X (spansFrom (-10) (st.take j)))) ∧ wi.ownsRow wo.heap.size 31 2 s14 j (spanCells (spansFrom (-10) (st.take j))) ∧ Below wo.heap.size wo wi)
          case atStart => exact ⟨0, bw, -10, rfl, Nat.zero_le _, by omega, rfl, by omega, by omega, rfl, rfl, by show _ = _; simp [holdsB, spansFrom], World.ownsRow_nil _ _ _ _, Below.refl _ _⟩
          case round =>
            obtain ⟨j, bi, c, rfl, hj, hgj, rfl, hc1, hc2, hcc, rfl, hbi, howni, hbeli⟩ := hrel
            have hszi := hbeli.size
            rcases Nat.lt_or_ge j st.length with hjlt | hjge
            · obtain ⟨b', off', rfl, hb', hcl⟩ := unhide HAO (by omega)
              have hbd := unhide HB j hjlt
              obtain ⟨d0, d1⟩ := hcl j hjlt
              rw [← hbel.cell (by exact hb'), ← hbeli.cell (by have := hbel.size; show b' < wo.heap.size; omega)] at d0 d1
              obtain ⟨p, hp⟩ : ∃ p, st.getD j (0, 0) = p := ⟨_, rfl⟩
              rw [hp] at hbd d0 d1
              have HPP := hide hp
              clear hp hcl
              obtain ⟨pg, pl⟩ := p
              simp only at hbd d0 d1
              obtain ⟨e1, e2, e3⟩ := inner_step hjlt HPP.out hcc.out hbi.out
              have E1 := hide e1
              have E2 := hide e2
              have E3 := hide e3
              clear e1 e2 e3 hcc hbi HPP
              go_wp2_with (at_builtin; refine wpList_append_own _ rfl _ _ 27 rfl wo.heap.size 31 i31 (.agg #[.int .i64 0, .int .i64 0]) 2 16 Yba.underlying27 hi31 hz31 hs31 hb31 rfl (by decide) u14 j _ rfl ((howni.alloc _).alloc _) ⟨wr.heap.size + 1, 0, none⟩ 1 1 [.int .i64 (c + pg % 16), .int .i64 (c + pg % 16 + pl % 8)] rfl rfl (by simpa using two_new (wr.alloc (.cells #[.int .u8 pg, .int .u8 pl] 29)) (.int .i64 (c + pg % 16)) (.int .i64 (c + pg % 16 + pl % 8)) 31) (two_one _ _ rfl rfl) (by unfold maxLen; omega) (by omega) (by simp; omega) ?_; intro v' w2 hown2 hgrow2 _; obtain ⟨RO, hb2⟩ := inner_world hbeli howni hown2 hgrow2 E2; clear hown2 hgrow2 d0 d1 howni E2)
              all_goals
                go_roundg (st.length - (j + 1))
                case measure => omega
                case rel => exact ⟨j + 1, _, _, by go_num, by omega, by omega, rfl, by omega, by omega, E1.out, rfl, by
                  have h := E3.out
                  show _ = _
                  rw [← h]
                  first | (rw [decide_eq_true (by assumption), decide_eq_true (by assumption)]; simp) | (rw [decide_eq_false (show ¬ (X ≤ c + pg % 16 + pl % 8) by omega)]; simp) | (rw [decide_eq_false (show ¬ (c + pg % 16 ≤ X) by omega)]; simp), RO.out, hb2⟩
            · obtain rfl : j = st.length := by omega
              have hST : S k = spansFrom (-10) st := by rw [← hS, ← HST.out]
              rw [List.take_of_length_le (Nat.le_refl _)] at howni hbi
              rw [← hST] at howni hbi
              have hpk : PartOk wr wo.heap.size u14 (S k) := partOk_of_owns (by rw [hST, spansFrom_length]; exact hlen) (by rw [show (S k).length = st.length by rw [hST, spansFrom_length]]; exact howni)
              obtain ⟨uo, uL, uc, hu⟩ : ∃ uo uL uc, u14 = .slice uo uL uc := by obtain ⟨ao, cp, h, _⟩ := hpk; exact ⟨_, _, _, h⟩
              subst hu
              have hownW := owns_below hown hbeli
              have HPK := hide hpk
              clear hpk hST howni hcc hown c0 HAO HB HC HV
              have hkb : ∀ z, z = anyB X S k → (z || holdsB X (S k)) = anyB X S (k + 1) := fun z hz => by rw [anyB_succ, hz]
              have HKB := hide (hkb bw hbw.out)
              clear hkb
              rcases Nat.lt_or_ge k ls with hks | hks
              · obtain ⟨b2, off2, rfl, hb2, hz⟩ := unhide HS (by omega)
                obtain ⟨z, hz⟩ := hz k hks
                rw [← hbel.cell (by exact hb2), ← hbeli.cell (by show b2 < wo.heap.size; omega)] at hz
                go_wp2_with (at_builtin; refine wpList_append_fits _ rfl _ _ 26 rfl w.heap.size 34 i34 2 Yba.underlying26 hi34 hs34 w.heap.size k m _ rfl (hownW.alloc _) ⟨wr.heap.size, 0, none⟩ 1 1 [.int .u8 z, .slice uo uL uc] rfl rfl (two_new _ _ _ _) (two_one _ _ rfl rfl) (by omega) ?_; intro w3 hown3 hgrow3; have R := outer_step hbel hsz hbeli hparts.out HPK.out hown3 hgrow3; clear hown3 hgrow3 hownW hz)
                go_roundg (m - (k + 1))
                case measure => omega
                case rel => exact ⟨k + 1, _, _, _, by go_num, by omega, by omega, rfl, rfl, hbi.out.trans HKB.out, R.1, R.2.1, R.2.2.1, R.2.2.2⟩
              · go_wp2_with (at_builtin; refine wpList_append_fits _ rfl _ _ 26 rfl w.heap.size 34 i34 2 Yba.underlying26 hi34 hs34 w.heap.size k m _ rfl (hownW.alloc _) ⟨wr.heap.size, 0, none⟩ 1 1 [.int .u8 0, .slice uo uL uc] rfl rfl (two_new _ _ _ _) (two_one _ _ rfl rfl) (by omega) ?_; intro w3 hown3 hgrow3; have R := outer_step hbel hsz hbeli hparts.out HPK.out hown3 hgrow3; clear hown3 hgrow3 hownW)
                go_roundg (m - (k + 1))
                case measure => omega
                case rel => exact ⟨k + 1, _, _, _, by go_num, by omega, by omega, rfl, rfl, hbi.out.trans HKB.out, R.1, R.2.1, R.2.2.1, R.2.2.2⟩
        · obtain rfl : m = k := by omega
          go_wp2_with fail
          have hpair : ∀ i, i < m → _ := fun i hi => pair_get (fun i => Value.int .u8 (St i)) (fun i => Vs i) (List.range m) 0 i (by simpa using hi)
          have hrg : ∀ i, i < m → (List.range m).getD i 0 = i := fun i hi => by simp [List.getD, hi]
          refine (ids_any (w.heap.size + 1) w.heap.size m m _ _ _ _ _ St Vs S X _ hbig (by simp; omega)
            (fun i hi => by rw [(hown.alloc _).cellAt (i * 2) (by omega), (hpair i hi).1, hrg i hi])
            (fun i hi => by rw [(hown.alloc _).cellAt (i * 2 + 1) (by omega), (hpair i hi).2, hrg i hi])
            (fun i hi => (hparts.out i hi).below ((Below.refl _ _).alloc (Nat.le_refl _) _) (Nat.le_refl _))
            (fun i _ => by rw [← hS]; exact spansFrom_asc _ _) (fun i _ => by rw [← hS]; exact spansFrom_wide _ _)).mono ?_
          rintro e w' ⟨rfl, hbf⟩
          have hend : Below w.heap.size w w' := (hbel.alloc (by omega) _).trans (hbf.mono (by simp; omega))
          clear hbf hown hparts hpair hrg HC HV HS hall
          have hbw' := hbw.out
          subst hbw'
          go_wp2
          go_ret
          exact ⟨by simp, hend⟩
end Go.Proofs.Ybulkcxew
