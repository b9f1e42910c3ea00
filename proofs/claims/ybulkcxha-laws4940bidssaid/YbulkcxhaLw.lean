import Derived.Test.YbulkcxhaBk
import Derived.Test.YbulkcxhaS
import Derived.OwnWalk
import Derived.Laws.AppendOwnNone
namespace Go.Proofs.Ybulkcxha
open Go.RowKit

theorem Yba.info37 : (Yba.prog.info? 37).map (fun i => (i.zero, i.size, i.bytes)) = some (some (.int .u32 0), 1, 4) := by kernel_rfl

theorem ent_raw (x : Int) (p : Nat) : bits .or .u32 (IntKind.u32.wrap (x * 256)) (IntKind.u32.wrap ((p : Int).tmod 256)) = ent x p := by
  have h1 : IntKind.u32.wrap (x * 256) = x * 256 % 4294967296 := by simp [IntKind.wrap, IntKind.bits, IntKind.signed]
  have h2 : IntKind.u32.wrap ((p : Int).tmod 256) = (p : Int) % 256 := by
    have : IntKind.u32.wrap ((p : Int).tmod 256) = (p : Int).tmod 256 % 4294967296 := by simp [IntKind.wrap, IntKind.bits, IntKind.signed]
    rw [this, show (p : Int).tmod 256 = (p : Int) % 256 from rfl]
    omega
  rw [h1, h2, ent]

/-- the numbers that came in -/
def InRowU (w : World) (B : Nat) (a0 : Option Addr) (n : Nat) (S : Nat → Int) : Prop :=
  0 < n → ∃ b off, a0 = some ⟨b, off, none⟩ ∧ b < B ∧ ∀ r, r < n → w.cell? ⟨b, off + r, none⟩ = some (.int .u32 (S r))
theorem InRowU.below {w w' : World} {B : Nat} {a0 : Option Addr} {n : Nat} {S : Nat → Int} (h : InRowU w B a0 n S) (hb : Below B w w') : InRowU w' B a0 n S := fun h0 => by
  obtain ⟨b, off, e, hlt, hc⟩ := h h0
  exact ⟨b, off, e, hlt, fun r hr => (hb.cell (by exact hlt)).trans (hc r hr)⟩
/-- the row of ids, its numbers whatever -/
def IdRow (w : World) (ib n : Nat) : Prop := ∃ cs, Blk w ib cs 37 ∧ cs.length = n ∧ ∀ r, r < n → ∃ x, cs[r]? = some (.int .u32 x)
theorem IdRow.set {w : World} {ib n : Nat} (h : IdRow w ib n) (k : Nat) (hk : k < n) (x : Int) : IdRow (w.setCell ⟨ib, k, none⟩ (.int .u32 x)) ib n := by
  obtain ⟨cs, hb, hl, hc⟩ := h
  refine ⟨cs.set k (.int .u32 x), hb.set k _, by simpa using hl, fun r hr => ?_⟩
  by_cases e : k = r
  · subst e
    exact ⟨x, by simp [hl, hk]⟩
  · obtain ⟨y, hy⟩ := hc r hr
    exact ⟨y, by rw [List.getElem?_set_ne e]; exact hy⟩
theorem IdRow.get {w : World} {ib n : Nat} (h : IdRow w ib n) : ∃ I : Nat → Int, ∀ r, r < n → w.cell? ⟨ib, r, none⟩ = some (.int .u32 (I r)) := by
  obtain ⟨cs, hb, hl, hc⟩ := h
  refine ⟨fun r => if hr : r < n then Classical.choose (hc r hr) else 0, fun r hr => ?_⟩
  have e : (if hr : r < n then Classical.choose (hc r hr) else 0) = Classical.choose (hc r hr) := dif_pos hr
  rw [hb.cell]
  show cs[r]? = some (.int .u32 (if hr : r < n then Classical.choose (hc r hr) else 0))
  rw [e]
  exact Classical.choose_spec (hc r hr)
theorem IdRow.free {w : World} {ib n : Nat} (h : IdRow w ib n) (k : Nat) : w.frozen? ⟨ib, k, none⟩ = false := by
  obtain ⟨cs, hb, _⟩ := h
  exact hb.free k
theorem IdRow.lt {w : World} {ib n : Nat} (h : IdRow w ib n) : ib < w.heap.size := by
  obtain ⟨cs, hb, _⟩ := h
  exact hb.lt
theorem idRow_made {w : World} {base g n : Nat} (h : w.ownsRow base 37 1 (.slice (some ⟨g, 0, none⟩) n n) n (madeCells (Value.int .u32 0).cells (n * 1)).toList) : IdRow w g n := by
  obtain ⟨_, h2⟩ := h
  rcases h2 with ⟨h', _⟩ | ⟨g', cap', cur, h', _, hg, _, _, hs, ht⟩
  · simp at h'
  · simp only [Value.slice.injEq, Option.some.injEq, Addr.mk.injEq, and_true, true_and] at h'
    obtain ⟨rfl, rfl⟩ := h'
    rw [Nat.mul_one] at hs ht
    refine ⟨cur.toList, hg, by simpa using hs, fun r hr => ⟨0, ?_⟩⟩
    rw [List.take_of_length_le (by simp [hs])] at ht
    rw [ht]
    simp [madeCells, Value.cells, hr, Nat.mod_one]

theorem fx_of_below {w w' : World} (h : Below w.heap.size w w') : Fx (fun _ => False) w w' := ⟨h.os, h.tape, h.output, h.size, fun k hk _ => h.block k hk⟩
theorem drewN_drewN (w : World) (a b : Nat) : (w.drewN a).drewN b = w.drewN (a + b) := by simp [World.drewN, Nat.add_assoc]
theorem equ_q {H1 H2 : Nat} {v1 v2 : Value} {xs : List Int} {w : World} (hn : xs.length ≤ 100000) (h1 : w.ownsRow H1 36 1 v1 xs.length (uL xs)) (h2 : w.ownsRow H2 36 1 v2 xs.length (uL xs)) (q : Nat) :
    Calls Yba.prog 9 #[v1, v2] (w.drewN q) fun e w' => e = .returned (.bool true) ∧ ∃ n, w' = w.drewN n :=
  (equ_own H1 H2 v1 v2 xs (w.drewN q) hn h1 h2).mono (fun e w' h => ⟨h.1, by obtain ⟨a, rfl⟩ := h.2; exact ⟨_, drewN_drewN _ _ _⟩⟩)
theorem eqn_q {H1 H2 : Nat} {v1 v2 : Value} {xs : List Nat} {w : World} (hn : xs.length ≤ 100000) (h1 : w.ownsRow H1 3 1 v1 xs.length (nL xs)) (h2 : w.ownsRow H2 3 1 v2 xs.length (nL xs)) (q : Nat) :
    Calls Yba.prog 10 #[v1, v2] (w.drewN q) fun e w' => e = .returned (.bool true) ∧ ∃ n, w' = w.drewN n :=
  (eqn_own H1 H2 v1 v2 xs (w.drewN q) hn h1 h2).mono (fun e w' h => ⟨h.1, by obtain ⟨a, rfl⟩ := h.2; exact ⟨_, drewN_drewN _ _ _⟩⟩)
theorem MemE.shape {H sb : Nat} {f0 pv : Value} {s : St} {w : World} (h : MemE H sb f0 pv s w) : ∃ go gc eo ec lo lc, Mem H sb f0 pv (.slice go s.G.length gc) (.slice eo s.E.length ec) (.slice lo s.La.length lc) s.G s.E s.La w := by
  obtain ⟨gv, ev, lv, h⟩ := h
  obtain ⟨go, gc, rfl⟩ := own_form0 h.g
  obtain ⟨eo, ec, rfl⟩ := own_form0 h.e
  obtain ⟨lo, lc, rfl⟩ := own_form0 h.l
  exact ⟨go, gc, eo, ec, lo, lc, h⟩

set_option maxHeartbeats 16000000 in
set_option maxRecDepth 100000 in
theorem ids_walk (f : Int) (a0 : Option Addr) (n cap : Nat) (S : Nat → Int) (r0 : Option Addr) (m rcap : Nat) (R : Nat → Int) (w : World) (hm : n ≤ 9223372036854775807) (hcap : n ≤ cap) (h : InRow w w.heap.size a0 n S) (hm2 : m ≤ 9223372036854775807) (hr : InRowU w w.heap.size r0 m R) :
    Calls Yba.prog 4 #[.int .i64 f, .slice a0 n cap, .slice r0 m rcap] w fun e w' => e = .returned (.bool true) ∧ Below w.heap.size w w' := by
  obtain ⟨i37, hi37, hz37, hs37, hb37⟩ := info_parts Yba.info37
  obtain ⟨i36, hi36, hz36, hs36, hb36⟩ := info_parts Yba.info36
  obtain ⟨i3, hi3, hz3, hs3, hb3⟩ := info_parts Yba.info3
  have HI := hide h
  have HU := hide hr
  clear h hr
  rcases Nat.lt_or_ge 4095 n with hbig | hbig
  · go_enter Yba.func4, Yba.ntmps4
    go_wp2
    go_ret
    exact ⟨rfl, Below.refl _ _⟩
  obtain ⟨i, j, hs⟩ := span_ex S n
  have HS := hide hs
  clear hs
  go_enter Yba.func4, Yba.ntmps4
  go_upto_if 29 with (at_make; refine wpList_make_full _ rfl _ _ 35 rfl w.heap.size 37 i37 _ 1 Yba.underlying35 hi37 hz37 hs37 _ _ _ _ n rfl rfl rfl rfl (by rw [hb37]; omega) (by unfold maxLen; omega) (Nat.le_refl _) ?_; intro w1 hown hgrow; have ID := hide (idRow_made hown); have B1 := hide (Below.grown (Below.refl w.heap.size w) hgrow (Nat.le_refl _) (fun k hk => by cases hk)); clear hown hgrow)
  obtain ⟨ib, hib⟩ : ∃ ib, ib = w.heap.size := ⟨_, rfl⟩
  have hibw : w.heap.size ≤ ib := by omega
  rw [← hib] at ID ⊢
  clear hib
  go_cut [8] from 30 to 45 (fun _ wc => Hid (IdRow wc ib n) ∧ Hid (Below w.heap.size w wc))
  case first =>
    rcases Nat.eq_zero_or_pos m with h0 | h0
    · subst h0
      go_wp2
      go_meet
      case rel => exact ⟨ID, B1⟩
    · obtain ⟨rb, roff, rfl, hrb, hrc⟩ := HU.out h0
      have HRC := hide hrc
      clear hrc HU
      have hmi : (0 : Int) < (m : Int) := by omega
      have hmz : ((m : Int) == 0) = false := by simp; omega
      have hmz2 : ¬ (m : Int) = 0 := by omega
      go_wp2_with fail
      go_loopg [8] n (fun kx s8 wr => ∃ k : Nat, s8 = .int .i64 k ∧ k ≤ n ∧ n - k ≤ kx ∧ Hid (IdRow wr ib n) ∧ Hid (Below w.heap.size w wr))
      case atStart => exact ⟨0, rfl, Nat.zero_le _, by omega, ID, B1⟩
      case round =>
        obtain ⟨k, rfl, hk, hg, hid, hbl⟩ := hrel
        clear ID B1
        rcases Nat.lt_or_ge k n with hlt | hge
        · have cR : wr.cell? ⟨rb, roff + k % m, none⟩ = some (.int .u32 (R (k % m))) := (hbl.out.cell hrb).trans (HRC.out (k % m) (Nat.mod_lt _ h0))
          obtain ⟨I, hI⟩ := hid.out.get
          have cI := hI k hlt
          have fI := hid.out.free k
          clear hI
          have ID2 := hide (hid.out.set k hlt (R (k % m)))
          have B2 := hide (hbl.out.setCell (p := ⟨ib, k, none⟩) hibw (.int .u32 (R (k % m))))
          have e1 : (k : Int).tmod (m : Int) = ((k % m : Nat) : Int) := rfl
          have e2 : (k : Int) % (m : Int) = ((k % m : Nat) : Int) := rfl
          have hz1 : ((k % m : Nat) : Int) < (m : Int) := by have := Nat.mod_lt k h0; omega
          have hz2 : (k : Int) < (n : Int) := by omega
          obtain ⟨t, ht⟩ : ∃ t, t = k % m := ⟨_, rfl⟩
          rw [← ht] at cR ID2 B2 e1 e2 hz1
          clear ht
          go_wp2
          go_roundg (n - (k + 1))
          case measure => omega
          case rel => exact ⟨k + 1, by go_num, by omega, by omega, ID2, B2⟩
        · go_wp2
          go_meet
          case rel => exact ⟨hid, hbl⟩
  case rest =>
    obtain ⟨ID2, B2⟩ := hcut
    clear ID B1
    obtain ⟨I, hI⟩ := ID2.out.get
    have HIc := hide hI
    have hibl : ib < wc.heap.size := ID2.out.lt
    have hwc : w.heap.size ≤ wc.heap.size := B2.out.size
    have HI2 := hide (HI.out.below B2.out)
    clear hI HI HU ID2
    go_wp2_with fail
    refine (span_any a0 n cap w.heap.size i j S wc (by omega) HI2.out HS.out).mono ?_
    rintro e w' ⟨rfl, rfl⟩
    rcases HS.out with ⟨hi, hj, hall⟩ | ⟨hij, hjn, h1, h2, h3, h4⟩
    · subst hi
      subst hj
      have HA := hide hall
      clear hall
      go_wp2_with fail
      refine (nms_none f a0 _ cap _ _ S _ (by omega) HI2.out HA.out).mono ?_
      rintro e w' ⟨rfl, rfl⟩
      go_wp2
      go_ret
      exact ⟨rfl, B2.out⟩
    · obtain ⟨b, off, rfl, hb, hc⟩ := HI2.out (by omega)
      have HN := hide (nms_ids f b off n cap i j ib S I w' (by omega) hcap (by omega) hibl hc HIc.out hij hjn h1 h2 h3 h4)
      have HC := hide hc
      clear hc h1 h2 h3 h4 HI2 HS
      go_wp2_with fail
      refine HN.out.mono ?_
      rintro e w3 ⟨rfl, hm3, hb3⟩
      obtain ⟨sb, hsb⟩ : ∃ sb, sb = w'.heap.size := ⟨_, rfl⟩
      rw [← hsb] at hm3 hb3 ⊢
      have M3 := hide hm3
      have B3 := hide hb3
      have d0 : w3.cell? ⟨sb, 0, none⟩ = some (.int .i64 (wrap64 (f + i))) := by obtain ⟨_, _, _, hm⟩ := hm3; exact hm.blk.cell 0
      have d1 := hm3.c1
      have hib3 : ib < sb := by omega
      have hb3' : b < sb := by omega
      have hsw : w.heap.size ≤ sb := by omega
      have CI : Hid (∀ r, r < n → w3.cell? ⟨ib, r, none⟩ = some (.int .u32 (I r))) := fun r hr => (hb3.cell hib3).trans (HIc.out r hr)
      have CS : Hid (∀ r, r < n → w3.cell? ⟨b, off + r, none⟩ = some (.int .i64 (S r))) := fun r hr => (hb3.cell hb3').trans (HC.out r hr)
      have B4 : Hid (Below w.heap.size w w3) := B2.out.trans (hb3.mono hsw)
      have hne : ((i : Int) == (j : Int)) = false := by simp; omega
      have hneq : (((j - i : Nat) : Int) != (j : Int) - (i : Int)) = false := by simp; omega
      have h3s : sb < w3.heap.size := by obtain ⟨_, _, _, hm⟩ := hm3; exact hm.blk.lt
      clear hm3 hb3 HN HIc HC hsb hwc hibl B2 B3
      go_wp2
      clear d0 d1
      obtain ⟨bb, hbb⟩ : ∃ bb, bb = w3.heap.size := ⟨_, rfl⟩
      obtain ⟨w4, hw4⟩ : ∃ w4, w4 = w3.alloc (.cells #[.slice none 0 0, .slice none 0 0, .slice none 0 0, .slice none 0 0, .slice none 0 0, .slice none 0 0, .slice none 0 0, .slice none 0 0, .slice none 0 0, .slice none 0 0, .slice none 0 0, .slice none 0 0, .slice none 0 0, .slice none 0 0, .slice none 0 0, .slice none 0 0] 38) := ⟨_, rfl⟩
      have K0 : Hid (BksE bb bb (bks I S i 0) w4) := by
        rw [hbb, hw4]
        exact ⟨fun _ => .slice none 0 0, ⟨Blk.new w3 _ 38, Nat.le_refl _, fun b _ => World.ownsRow_nil _ _ _ _, fun b c _ _ _ k hk => by simp [Value.ownBlock] at hk, fun _ _ _ => rfl⟩⟩
      have L0 : Hid (Below bb w3 w4) := by rw [hbb, hw4]; exact (Below.refl _ _).alloc (Nat.le_refl _) _
      rw [← hw4, ← hbb]
      have hbbs : sb < bb := by omega
      have HBB := hide hbb
      clear hw4 hbb
      go_loopg [13, 14] n (fun kx s13 s14 wr => ∃ p : Nat, s13 = .int .i64 (lastB I S i p) ∧ s14 = .int .i64 ((i + p : Nat) : Int) ∧ p ≤ j - i ∧ j - i - p ≤ kx ∧ Hid (BksE bb bb (bks I S i p) wr) ∧ Hid (Below bb w3 wr))
      case atStart => exact ⟨0, rfl, rfl, Nat.zero_le _, by omega, K0, L0⟩
      case round =>
        obtain ⟨p, rfl, rfl, hp, hg, hk, hl⟩ := hrel
        clear K0 L0
        rcases Nat.lt_or_ge p (j - i) with hlt | hge
        · have cI : wr.cell? ⟨ib, i + p, none⟩ = some (.int .u32 (I (i + p))) := (hl.out.cell (by show ib < bb; omega)).trans (CI.out (i + p) (by omega))
          have cS : wr.cell? ⟨b, off + (i + p), none⟩ = some (.int .i64 (S (i + p))) := (hl.out.cell (by show b < bb; omega)).trans (CS.out (i + p) (by omega))
          have hz0 : (i : Int) + (p : Int) < (j : Int) := by omega
          have hz1 : (i : Int) + (p : Int) < (n : Int) := by omega
          have hz2 : (0 : Int) ≤ (i : Int) + (p : Int) := by omega
          have n0 : ((i : Int) + (p : Int)).toNat = i + p := by omega
          have e0 : (i : Int) + (p : Int) - (i : Int) = (p : Int) := by omega
          by_cases hI : I (i + p) = 0
          · have EB := hide (bks_skip I S i p (by simp [evt, hI]))
            have EL : Hid (lastB I S i (p + 1) = lastB I S i p) := by show _ = _; rw [lastB, if_neg (by simp [evt, hI])]
            rw [hI] at cI
            go_wp2
            go_roundg (j - i - (p + 1))
            case measure => omega
            case rel => exact ⟨p + 1, by rw [EL.out], by go_num, by omega, by omega, by rw [EB.out]; exact hk, hl⟩
          · have hI2 : (I (i + p) != 0) = true := by simp [hI]
            by_cases hS : S (i + p) = -1
            · have EB := hide (bks_skip I S i p (by simp [evt, hS]))
              have EL : Hid (lastB I S i (p + 1) = lastB I S i p) := by show _ = _; rw [lastB, if_neg (by simp [evt, hS])]
              rw [hS] at cS
              go_wp2
              go_roundg (j - i - (p + 1))
              case measure => omega
              case rel => exact ⟨p + 1, by rw [EL.out], by go_num, by omega, by omega, by rw [EB.out]; exact hk, hl⟩
            · have hS2 : (S (i + p) != -1) = true := by simp [hS]
              have EB := hide (bks_push I S i p (by simp [evt, hI, hS]))
              have EL : Hid (lastB I S i (p + 1) = ((p / 256 : Nat) : Int)) := by show _ = _; rw [lastB, if_pos (by simp [evt, hI, hS])]
              obtain ⟨c, hcd⟩ : ∃ c, c = p / 256 := ⟨_, rfl⟩
              have hc16 : c < 16 := by omega
              have e256 : (p : Int) / 256 = (c : Int) := by omega
              have e256t : (p : Int).tdiv 256 = (c : Int) := by rw [hcd]; rfl
              rw [← hcd] at EB EL
              clear hcd
              obtain ⟨bv, hbk⟩ := hk.out
              obtain ⟨ao, cc, hbv⟩ := hbk.form c hc16
              have KB := hide hbk
              have cB : wr.cell? ⟨bb, c, none⟩ = some (.slice ao (bks I S i p c).length cc) := by rw [← hbv]; exact hbk.cell c hc16
              have cBa : ∀ o, (wr.alloc o).cell? ⟨bb, c, none⟩ = some (.slice ao (bks I S i p c).length cc) := fun o => by rw [← hbv]; exact (hbk.alloc o).cell c hc16
              have OW : Hid (wr.ownsRow bb 36 1 (.slice ao (bks I S i p c).length cc) (bks I S i p c).length (uL (bks I S i p c))) := by
                have := hbk.own c hc16
                rw [hbv] at this
                exact this
              have HBV := hide hbv
              have LB := bks_len I S i p c
              have hbw : bb ≤ wr.heap.size := Nat.le_of_lt hbk.blk.lt
              have ci16 : (c : Int) < 16 := by omega
              have hent := ent_raw (I (i + p)) p
              have UE : Hid (uL (bks I S i p c ++ [ent (I (i + p)) p]) = uL (bks I S i p c) ++ [.int .u32 (ent (I (i + p)) p)]) := by show _ = _; simp [uL]
              clear hbk hbv
              go_upto_region 23 with fail
              go_cut [120] from 84 to 122 (fun _ wc => Hid (BksE bb bb (bks I S i (p + 1)) wc) ∧ Hid (Below bb w3 wc))
              case first =>
                go_region_law (refine step_append_lies _ rfl (.tmp 109) (.tmp 119) 28 rfl bb 36 i36 (.int .u32 0) 1 4 Yba.underlying28 hi36 hz36 hs36 hb36 rfl (by decide) (.slice ao (bks I S i p c).length cc) (bks I S i p c).length (uL (bks I S i p c)) (by simp [Act.eval]) (OW.out.alloc _) ⟨wr.heap.size, 0, none⟩ 1 1 [.int .u32 (ent (I (i + p)) p)] (by simp [Act.eval]) rfl (one_new wr _ 36) (one_one _ rfl) (by decide) (by unfold maxLen; omega) (by omega) (by show bb ≤ (wr.alloc _).heap.size; simp; omega) _ rfl ?_; intro g1 cap1 w5 hown hgrow0 hat hlt5; have hgrow : (wr.alloc (.cells #[.int .u32 (ent (I (i + p)) p)] 36)).grownBy w5 (Value.slice ao (bks I S i p c).length cc).ownBlock := ⟨hgrow0.os, hgrow0.tape, hgrow0.output, hgrow0.size, hgrow0.block⟩; obtain ⟨b1, m1, x1⟩ := (KB.out.alloc (.cells #[.int .u32 (ent (I (i + p)) p)] 36)).push (x := ent (I (i + p)) p) hc16 (by rw [UE.out]; exact hown) (by rw [HBV.out]; exact hgrow) (by rw [HBV.out]; exact hat) (by simp); have d4 : w5.cell? ⟨bb, c, none⟩ = some (bv c) := (by rw [b1.cell]; simp [hc16]); have e4 := b1.free c; have M5 : Hid (BksE bb bb (bks I S i (p + 1)) _) := ⟨_, by rw [EB.out]; exact m1⟩; have X5 : Hid (Below bb w3 _) := hl.out.trans (Below.trans ((Below.refl bb wr).alloc hbw _) (x1.below (by simp; omega) (fun k hk hc => by omega))); clear hown hgrow0 hgrow hat hlt5 b1 m1 x1)
                all_goals (go_wp2_with fail; go_meet; exact ⟨M5, X5⟩)
              case rest =>
                obtain ⟨M5, X5⟩ := hcut
                go_wp2
                go_roundg (j - i - (p + 1))
                case measure => omega
                case rel => exact ⟨p + 1, by rw [EL.out], by go_num, by omega, by omega, M5, X5⟩
        · obtain rfl : p = j - i := by omega
          have JJ := hide (run_J I S i (j - i))
          have LR := hide (last_run I S i (j - i))
          have LG := last_ge I S i (j - i)
          have TT := run_total I S i (j - i)
          have FX : Hid (Fx (fun _ => False) w3 wr) := fx_of_below (by rw [← HBB.out]; exact hl.out)
          have M4 : Hid (MemE sb sb (.int .i64 (wrap64 (f + i))) (.slice (some ⟨b, off + i, none⟩) (j - i) (j - i)) (runSt I S i (j - i)) wr) := by
            obtain ⟨x1, x2, x3, hmm⟩ := M3.out
            exact ⟨x1, x2, x3, hmm.alike FX.out⟩
          have B5 : Hid (Below w.heap.size w wr) := B4.out.trans (hl.out.mono (by omega))
          obtain ⟨go, gc, eo, ec, lo, lc, hmem⟩ := M4.out.shape
          have MM := hide hmem
          have k2 : wr.cell? ⟨sb, 2, none⟩ = some (.slice none 0 0) := hmem.blk.cell 2
          have k3 : wr.cell? ⟨sb, 3, none⟩ = some (.slice go (runSt I S i (j - i)).G.length gc) := hmem.blk.cell 3
          have k4 : wr.cell? ⟨sb, 4, none⟩ = some (.slice eo (runSt I S i (j - i)).E.length ec) := hmem.blk.cell 4
          have k5 : wr.cell? ⟨sb, 5, none⟩ = some (.slice lo (runSt I S i (j - i)).La.length lc) := hmem.blk.cell 5
          have hij1 : i + (j - i) = j := by omega
          rw [hij1]
          clear hij1
          clear hmem M3 M4 CI CS B4 FX
          rcases Int.lt_or_le (lastB I S i (j - i)) 0 with hneg | hpos
          · have hm1 : lastB I S i (j - i) = -1 := by omega
            have hst := LR.out.1 hm1
            rw [hst] at k3 k4 k5
            rw [hm1]
            simp only [List.length_nil] at k3 k4 k5
            go_wp2
            go_ret
            exact ⟨rfl, B5.out⟩
          · obtain ⟨c, hcl⟩ : ∃ c : Nat, lastB I S i (j - i) = (c : Int) := ⟨(lastB I S i (j - i)).toNat, by omega⟩
            have hEc : (runSt I S i (j - i)).E.length = c := by have := LR.out.2 hpos; omega
            have hc16 : c < 16 := by omega
            rw [hcl]
            have hG := JJ.out.g
            have hE := JJ.out.e
            have hL := JJ.out.l
            rw [hEc] at hG hE hL
            have BL := hide (fun b => bks_len I S i (j - i) b)
            rw [hG, hL, hE, ends_len] at MM
            rw [hG] at k3
            rw [hE, ends_len] at k4
            rw [hL] at k5
            obtain ⟨bv, hbk⟩ := hk.out
            have KB := hide hbk
            clear hG hE hL hEc LR JJ TT hk hbk hpos hcl LG
            generalize bks I S i (j - i) = B at MM k3 k4 k5 BL KB
            have GL : Hid (∀ k, k ≤ c → (gath B k).length ≤ 70000) := fun k hk => by
              have h1 := gath_len_le B (j - i) BL.out k
              have h2 : k * (j - i) ≤ 15 * 4095 := Nat.mul_le_mul (by omega) (by omega)
              omega
            obtain ⟨wo, hwo⟩ : ∃ wo, wo = wr := ⟨_, rfl⟩
            subst hwo
            obtain ⟨H5, hH5⟩ : ∃ H5, H5 = wo.heap.size := ⟨_, rfl⟩
            have hbbH : bb < H5 := by rw [hH5]; exact KB.out.blk.lt
            have HH5 := hide hH5
            clear hH5
            go_wp2_with fail
            go_loopg [17, 18, 19] 16 (fun kx s17 s18 s19 wx => ∃ (k : Nat) (ga : Option Addr) (gc' : Nat) (ea : Option Addr) (ec' : Nat), s19 = .int .i64 k ∧ s17 = .slice ga (gath B k).length gc' ∧ s18 = .slice ea k ec' ∧ k ≤ c ∧ c - k ≤ kx ∧ Hid (wx.ownsRow H5 36 1 (.slice ga (gath B k).length gc') (gath B k).length (uL (gath B k))) ∧ Hid (wx.ownsRow H5 3 1 (.slice ea k ec') k (nL (ends B k))) ∧ Hid (Below H5 wo wx))
            case atStart => exact ⟨0, none, 0, none, 0, rfl, rfl, rfl, Nat.zero_le _, by omega, World.ownsRow_nil _ _ _ _, World.ownsRow_nil _ _ _ _, Below.refl _ _⟩
            case round =>
              obtain ⟨k, ga, gc', ea, ec', rfl, rfl, rfl, hk, hg, OG, OE, BX⟩ := hrel
              have BXs : wo.heap.size ≤ wr.heap.size := BX.out.size
              have hH6 : H5 ≤ wr.heap.size := by rw [HH5.out]; exact BXs
              have FXo : Hid (Fx (fun _ => False) wo wr) := fx_of_below (by rw [← HH5.out]; exact BX.out)
              rcases Nat.lt_or_ge k c with hlt | hge
              · have hki : (k : Int) < (c : Int) := by omega
                have hk16 : (k : Int) < 16 := by omega
                have cB : wr.cell? ⟨bb, k, none⟩ = some (bv k) := (BX.out.cell hbbH).trans (KB.out.cell k (by omega))
                have GLk := GL.out k hk
                have GLk1 := GL.out (k + 1) (by omega)
                have GS : Hid (gath B (k + 1) = gath B k ++ srt (B k)) := rfl
                rcases Nat.eq_zero_or_pos (B k).length with h0 | h0
                · have hn : B k = [] := List.eq_nil_of_length_eq_zero h0
                  rw [KB.out.nl k (by omega) hn] at cB
                  have G0 : gath B (k + 1) = gath B k := by rw [GS.out, hn, srt_nil, List.append_nil]
                  go_wp2_with fail
                  refine (clone_nil _).mono ?_
                  rintro e w6 ⟨rfl, rfl⟩
                  go_wp2_with fail
                  refine (sort_nil _ _ _).mono ?_
                  rintro e w8 ⟨rfl, rfl⟩
                  have OE7 := OE
                  have OG8 : Hid (w8.ownsRow H5 36 1 (.slice ga (gath B k).length gc') (gath B k).length (uL (gath B k))) := OG
                  have B8 := BX
                  have hH8 := hH6
                  have G0' := hide G0
                  clear G0
                  go_wp2_with (first | (at_builtin; refine wpList_append_own_none rfl (.tmp 168) (.tmp 169) 28 rfl H5 36 i36 1 Yba.underlying28 hi36 (.slice ga (gath B k).length gc') (gath B k).length (uL (gath B k)) rfl OG8.out rfl ?_) | (at_builtin; refine wpList_append_lies _ rfl (.tmp 171) (.tmp 174) 29 rfl H5 3 i3 (.int .i64 0) 1 8 Yba.underlying29 hi3 hz3 hs3 hb3 rfl (by decide) (.slice ea k ec') k (nL (ends B k)) rfl (OE7.out.alloc _) ⟨w8.heap.size, 0, none⟩ 1 1 [.int .i64 (((gath B k).length : Nat) : Int)] rfl rfl (one_new w8 _ 3) (one_one _ rfl) (by decide) (by unfold maxLen; omega) (by omega) (by show H5 ≤ (w8.alloc _).heap.size; simp; omega) _ rfl ?_; intro g1 cap1 w9 hown hgrow hat hlt; have OE9 : Hid (w9.ownsRow H5 3 1 (.slice (some ⟨g1, 0, none⟩) (k + 1) cap1) (k + 1) (nL (ends B (k + 1)))) := (by rw [ends, nL_append, G0'.out]; exact hown); have OG9 := hide (own_fx (OG8.out.alloc (.cells #[.int .i64 (((gath B k).length : Nat) : Int)] 3)) (fx_grown hgrow) (fun b hb hc => own_own OG8.out OE7.out (by decide) b hb hc)); have B9 : Hid (Below H5 wo w9) := Below.grown (B8.out.alloc hH8 _) hgrow (by simp; omega) (fun k hk => (own_ge OE7.out k hk).1); clear hown hgrow hat hlt))
                  go_roundg (c - (k + 1))
                  case measure => omega
                  case rel => exact ⟨k + 1, _, _, _, _, by go_num, by rw [G0'.out], rfl, by omega, by omega, by rw [G0'.out]; exact OG9, OE9, B9⟩
                · obtain ⟨g, cc, hbv, _, _⟩ := (KB.out.own k (by omega)).form h0
                  rw [hbv] at cB
                  have OK : Hid (wr.ownsRow bb 36 1 (.slice (some ⟨g, 0, none⟩) (B k).length cc) (B k).length (uL (B k))) := own_fx (by rw [← hbv]; exact KB.out.own k (by omega)) FXo.out (fun _ _ h => h)
                  have BLk := BL.out k
                  have GN : Hid ((gath B (k + 1)).length = (gath B k).length + (B k).length) := by show _ = _; rw [GS.out, List.length_append, srt_len]
                  have GNs : (gath B k).length + (B k).length ≤ 70000 := by rw [← GN.out]; exact GLk1
                  clear GLk1 hbv
                  go_wp2_with fail
                  refine (clone_some bb g (B k).length cc (B k) _ h0 (by omega) OK.out).mono ?_
                  rintro e w6 ⟨g6, c6, rfl, ho6, hb6⟩
                  obtain ⟨post, hrw, hback⟩ := own_rw (pre := []) (d := B k) (N := (B k).length) (by simpa using ho6)
                  have RW := hide hrw
                  have BK := hide hback
                  have O6 := hide ho6
                  have B6 := hide hb6
                  clear hrw hback ho6 hb6
                  go_wp2_with fail
                  refine (sort_any g6 0 (B k).length c6 (uL []) post (B k).toArray w6 w6 RW.out rfl (by simp) (by omega)).mono ?_
                  rintro e w7 ⟨rfl, hr7⟩
                  have O7 : Hid (w7.ownsRow wr.heap.size 36 1 (.slice (some ⟨g6, 0, none⟩) (B k).length c6) (B k).length (uL (srt (B k)))) := by
                    have := BK.out w7 (srt (B k)) (srt_len _) (by simpa using hr7)
                    rw [List.nil_append] at this
                    exact this
                  have B67 : Hid (Below wr.heap.size wr w7) := B6.out.trans (hr7.fx.below B6.out.size (fun k hk e => by have := (own_ge O6.out g6 rfl).1; omega))
                  have OG7 := hide (own_fx OG.out (fx_of_below B67.out) (fun _ _ h => h))
                  have OE7 := hide (own_fx OE.out (fx_of_below B67.out) (fun _ _ h => h))
                  have B7 : Hid (Below H5 wo w7) := BX.out.trans (B67.out.mono hH6)
                  have hH7 : H5 ≤ w7.heap.size := Nat.le_trans hH6 B67.out.size
                  clear hr7 RW BK O6 B6 OK
                  go_wp2_with (first | (at_builtin; refine wpList_append_lies _ rfl (.tmp 168) (.tmp 169) 28 rfl H5 36 i36 (.int .u32 0) 1 4 Yba.underlying28 hi36 hz36 hs36 hb36 rfl (by decide) (.slice ga (gath B k).length gc') (gath B k).length (uL (gath B k)) rfl OG7.out ⟨g6, 0, none⟩ (B k).length c6 (uL (srt (B k))) rfl (by simp [uL, srt_len]) (own_news O7.out) (uL_one _) h0 (by unfold maxLen; omega) (by omega) hH7 _ rfl ?_; intro g8 cap8 w8 hown hgrow hat hlt; have OG8 : Hid (w8.ownsRow H5 36 1 (.slice (some ⟨g8, 0, none⟩) ((gath B k).length + (B k).length) cap8) ((gath B k).length + (B k).length) (uL (gath B (k + 1)))) := (by rw [GS.out, uL_append]; exact hown); have OE8 := hide (own_fx OE7.out (fx_grown hgrow) (fun b hb hc => own_own OE7.out OG7.out (by decide) b hb hc)); have B8 : Hid (Below H5 wo w8) := Below.grown B7.out hgrow hH7 (fun k hk => (own_ge OG7.out k hk).1); have hH8 : H5 ≤ w8.heap.size := Nat.le_trans hH7 hgrow.size; clear hown hgrow hat hlt) | (at_builtin; refine wpList_append_lies _ rfl (.tmp 171) (.tmp 174) 29 rfl H5 3 i3 (.int .i64 0) 1 8 Yba.underlying29 hi3 hz3 hs3 hb3 rfl (by decide) (.slice ea k ec') k (nL (ends B k)) rfl (OE8.out.alloc _) ⟨w8.heap.size, 0, none⟩ 1 1 [.int .i64 ((((gath B k).length + (B k).length : Nat)) : Int)] rfl rfl (one_new w8 _ 3) (one_one _ rfl) (by decide) (by unfold maxLen; omega) (by omega) (by show H5 ≤ (w8.alloc _).heap.size; simp; omega) _ rfl ?_; intro g1 cap1 w9 hown hgrow hat hlt; have OE9 : Hid (w9.ownsRow H5 3 1 (.slice (some ⟨g1, 0, none⟩) (k + 1) cap1) (k + 1) (nL (ends B (k + 1)))) := (by rw [ends, nL_append, GN.out]; exact hown); have OG9 := hide (own_fx (OG8.out.alloc (.cells #[.int .i64 ((((gath B k).length + (B k).length : Nat)) : Int)] 3)) (fx_grown hgrow) (fun b hb hc => own_own OG8.out OE8.out (by decide) b hb hc)); have B9 : Hid (Below H5 wo w9) := Below.grown (B8.out.alloc hH8 _) hgrow (by simp; omega) (fun k hk => (own_ge OE8.out k hk).1); clear hown hgrow hat hlt))
                  go_roundg (c - (k + 1))
                  case measure => omega
                  case rel => exact ⟨k + 1, some ⟨g8, 0, none⟩, cap8, some ⟨g1, 0, none⟩, cap1, by go_num, by rw [GN.out], rfl, by omega, by omega, by rw [GN.out]; exact OG9, OE9, B9⟩
              · obtain rfl : k = c := by omega
                have m3 : wr.cell? ⟨sb, 3, none⟩ = some (.slice go (gath B k).length gc) := (BX.out.cell (by show sb < H5; omega)).trans k3
                have m4 : wr.cell? ⟨sb, 4, none⟩ = some (.slice eo k ec) := (BX.out.cell (by show sb < H5; omega)).trans k4
                have m5 : wr.cell? ⟨sb, 5, none⟩ = some (.slice lo (B k).length lc) := (BX.out.cell (by show sb < H5; omega)).trans k5
                obtain ⟨bo, bc, hbv⟩ := KB.out.form k (by omega)
                have cB : wr.cell? ⟨bb, k, none⟩ = some (.slice bo (B k).length bc) := by rw [← hbv]; exact (BX.out.cell hbbH).trans (KB.out.cell k (by omega))
                have MW := MM.out.alike FXo.out
                have OK : Hid (wr.ownsRow bb 36 1 (.slice bo (B k).length bc) (B k).length (uL (B k))) := own_fx (by rw [← hbv]; exact KB.out.own k (by omega)) FXo.out (fun _ _ h => h)
                have C1 := hide (fun q => equ_q (by have := GL.out k hk; omega) MW.g OG.out q)
                have C2 := hide (fun q => eqn_q (xs := ends B k) (v1 := .slice eo k ec) (v2 := .slice ea k ec') (by rw [ends_len]; omega) MW.e (by rw [ends_len]; exact OE.out) q)
                have C3 := hide (fun q => equ_q (by have := BL.out k; omega) MW.l OK.out q)
                have hk16 : (k : Int) < 16 := by omega
                have B9 : Hid (Below w.heap.size w wr) := B5.out.trans (BX.out.mono (by omega))
                clear MW OK k2 k3 k4 k5 hbv
                go_upto_region 38 with fail
                go_quiet ((first | (go_at_call 9; with_reducible exact C1.out _) | (go_at_call 10; with_reducible exact C2.out _) | (go_at_call 9; with_reducible exact C3.out _)))
                go_wp2
                go_ret
                exact ⟨rfl, ⟨B9.out.os, B9.out.tape, B9.out.output, B9.out.size, B9.out.block⟩⟩
end Go.Proofs.Ybulkcxha
