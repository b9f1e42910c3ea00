import Derived.Test.YbulkcxhaAd
import Derived.Test.YbulkcxhaB
namespace Go.Proofs.Ybulkcxha
open Go.RowKit

def evt (I S : Nat → Int) (p : Nat) : Bool := !(I p == 0) && !(S p == -1)
/-- The state behind the first p places from i on. -/
def runSt (I S : Nat → Int) (i : Nat) : Nat → St
  | 0 => ⟨[], [], []⟩
  | p + 1 => if evt I S (i + p) = true then (runSt I S i p).add (p / 256) (ent (I (i + p)) p) else runSt I S i p

theorem compN_E (k : Nat) : ∀ s : St, (compN k s).E.length = s.E.length + k := by
  induction k with
  | zero => intro s; rfl
  | succ k ih => intro s; rw [compN, ih, comp_E]; omega
theorem compN_total (k : Nat) : ∀ s : St, (compN k s).G.length + (compN k s).La.length = s.G.length + s.La.length := by
  induction k with
  | zero => intro s; rfl
  | succ k ih => intro s; rw [compN, ih, comp_total]
theorem add_E (s : St) (c : Nat) (x : Int) (h : s.E.length ≤ c) : (s.add c x).E.length = c := by
  rw [St.add]
  show (compN _ s).E.length = c
  rw [compN_E]
  omega
theorem add_total (s : St) (c : Nat) (x : Int) : (s.add c x).G.length + (s.add c x).La.length = s.G.length + s.La.length + 1 := by
  rw [St.add]
  show (compN _ s).G.length + ((compN _ s).La ++ [x]).length = _
  rw [List.length_append, ← Nat.add_assoc, compN_total]
  rfl
theorem run_E (I S : Nat → Int) (i p : Nat) : (runSt I S i p).E.length ≤ p / 256 := by
  induction p with
  | zero => exact Nat.zero_le _
  | succ p ih =>
    rw [runSt]
    split
    · rw [add_E _ _ _ ih]; omega
    · omega
theorem run_total (I S : Nat → Int) (i p : Nat) : (runSt I S i p).G.length + (runSt I S i p).La.length ≤ p := by
  induction p with
  | zero => exact Nat.le_refl _
  | succ p ih =>
    rw [runSt]
    split
    · rw [add_total]; omega
    · omega

theorem equalIn_some (d : Nat) (a : Addr) (n c : Nat) (w : World) : (Op.equalIn (d + 1) 35 (.slice (some a) n c) (.slice none 0 0)).run Yba.prog w = .ok false w := by
  simp [Op.equalIn, run_underlying Yba.underlying35]
theorem equal_some (a : Addr) (n c : Nat) (w : World) : (Op.equal 35 (.slice (some a) n c) (.slice none 0 0)).run Yba.prog w = .ok false w := equalIn_some 9999 a n c w
theorem neq_some (a : Addr) (n c : Nat) (w : World) : (binOp .neq 35 (.slice (some a) n c) (.slice none 0 0)).run Yba.prog w = .ok (.bool true) w := by
  simp only [binOp]
  simp [equal_some]

theorem MemE.c1 {H sb : Nat} {f0 pv : Value} {s : St} {w : World} (h : MemE H sb f0 pv s w) : w.cell? ⟨sb, 1, none⟩ = some pv := by
  obtain ⟨gv, ev, lv, h⟩ := h
  exact h.blk.cell 1

set_option maxHeartbeats 8000000 in
set_option maxRecDepth 100000 in
theorem nms_ids (f : Int) (b off n cap i j ib : Nat) (S I : Nat → Int) (w : World) (hn : n ≤ 4095) (hcap : n ≤ cap) (hb : b < w.heap.size) (hib : ib < w.heap.size) (hc : ∀ r, r < n → w.cell? ⟨b, off + r, none⟩ = some (.int .i64 (S r))) (hci : ∀ r, r < n → w.cell? ⟨ib, r, none⟩ = some (.int .u32 (I r))) (hij : i < j) (hjn : j ≤ n) (h1 : ∀ r, r < i → S r = -1) (h2 : S i ≠ -1) (h3 : ∀ r, j ≤ r → r < n → S r = -1) (h4 : S (j - 1) ≠ -1) :
    Calls Yba.prog 6 #[.int .i64 f, .slice (some ⟨b, off, none⟩) n cap, .slice (some ⟨ib, 0, none⟩) n n] w fun e w' => e = .returned (P0 w.heap.size) ∧
      MemE w.heap.size w.heap.size (.int .i64 (wrap64 (f + i))) (.slice (some ⟨b, off + i, none⟩) (j - i) (j - i)) (runSt I S i (j - i)) w' ∧ Below w.heap.size w w' := by
  have HC := hide hc
  have HCI := hide hci
  have H1 := hide h1
  have H2 := hide h2
  have H3 := hide h3
  have H4 := hide h4
  have neq := neq_some
  clear hc hci h1 h2 h3 h4
  go_enter Yba.func6, Yba.ntmps6
  go_wp2
  go_loopg [7] n (fun kx s7 wr => ∃ k : Nat, s7 = .int .i64 k ∧ k ≤ i ∧ n - k ≤ kx ∧ w = wr)
  case atStart => exact ⟨0, rfl, Nat.zero_le _, by omega, rfl⟩
  case round =>
    obtain ⟨k, rfl, hk, hg, rfl⟩ := hrel
    have c0 := HC.out k (by omega)
    have hkn : (k : Int) < (n : Int) := by omega
    rcases Nat.lt_or_ge k i with hlt | hge
    · rw [H1.out k hlt] at c0
      go_wp2
      go_roundg (n - (k + 1))
      case measure => omega
      case rel => exact ⟨k + 1, by go_num, by omega, by omega, rfl⟩
    · obtain rfl : i = k := by omega
      have e1 : (S i == -1) = false := by simpa using H2.out
      go_wp2
      clear c0 e1 hg hk hge
      go_loopg [8] n (fun kx s8 wr => ∃ k : Nat, s8 = .int .i64 k ∧ j ≤ k ∧ k ≤ n ∧ k ≤ kx ∧ w = wr)
      case atStart => exact ⟨n, rfl, hjn, Nat.le_refl _, Nat.le_refl _, rfl⟩
      case round =>
        obtain ⟨k, rfl, hk1, hk2, hgk, rfl⟩ := hrel
        have c0 := HC.out (k - 1) (by omega)
        have hz0 : (0 : Int) ≤ (k : Int) - 1 := by omega
        have hz1 : (k : Int) - 1 < (n : Int) := by omega
        have hz2 : (i : Int) < (k : Int) := by omega
        rcases Nat.lt_or_ge j k with hlt' | hge'
        · rw [H3.out (k - 1) (by omega) (by omega)] at c0
          go_wp2
          go_roundg (k - 1)
          case measure => omega
          case rel => exact ⟨k - 1, by go_num, by omega, by omega, by omega, rfl⟩
        · obtain rfl : j = k := by omega
          have e1 : (S (j - 1) == -1) = false := by simpa using H4.out
          have hne : ((i : Int) == (j : Int)) = false := by simp; omega
          have hji : ¬ j - i = 0 := by omega
          have hni : ¬ n - i = 0 := by omega
          go_wp2
          clear c0 e1 hgk hk1 hk2 hge' hz0 hz1
          have M0 : Hid (MemE w.heap.size w.heap.size (.int .i64 (wrap64 (f + i))) (.slice (some ⟨b, off + i, none⟩) (j - i) (j - i)) (runSt I S i 0) (w.alloc (.cells #[.int .i64 (wrap64 (f + i)), .slice (some ⟨b, off + i, none⟩) (j - i) (j - i), .slice none 0 0, .slice none 0 0, .slice none 0 0, .slice none 0 0] 33))) := ⟨.slice none 0 0, .slice none 0 0, .slice none 0 0, ⟨Blk.new w _ 33, Nat.le_refl _, World.ownsRow_nil _ _ _ _, World.ownsRow_nil _ _ _ _, World.ownsRow_nil _ _ _ _, fun b hb => by simp [Value.ownBlock] at hb, fun _ => rfl⟩⟩
          have B0 : Hid (Below w.heap.size w (w.alloc (.cells #[.int .i64 (wrap64 (f + i)), .slice (some ⟨b, off + i, none⟩) (j - i) (j - i), .slice none 0 0, .slice none 0 0, .slice none 0 0, .slice none 0 0] 33))) := (Below.refl _ _).alloc (Nat.le_refl _) _
          generalize w.alloc (.cells #[.int .i64 (wrap64 (f + i)), .slice (some ⟨b, off + i, none⟩) (j - i) (j - i), .slice none 0 0, .slice none 0 0, .slice none 0 0, .slice none 0 0] 33) = w1 at M0 B0 ⊢
          obtain ⟨H, hH⟩ : ∃ H, H = w.heap.size := ⟨_, rfl⟩
          rw [← hH] at M0 B0 hb hib ⊢
          have HH := hide hH
          clear hH
          go_loopg [59] n (fun kx s59 wr => ∃ k : Nat, s59 = .int .i64 k ∧ k ≤ j - i ∧ j - i - k ≤ kx ∧ Hid (MemE H H (.int .i64 (wrap64 (f + i))) (.slice (some ⟨b, off + i, none⟩) (j - i) (j - i)) (runSt I S i k) wr) ∧ Hid (Below H w wr))
          case atStart => exact ⟨0, rfl, Nat.zero_le _, by omega, M0, B0⟩
          case round =>
            obtain ⟨k, rfl, hk, hg, hm, hbl⟩ := hrel
            clear M0 B0
            rcases Nat.lt_or_ge k (j - i) with hlt | hge
            · have cI : wr.cell? ⟨ib, i + k, none⟩ = some (.int .u32 (I (i + k))) := (hbl.out.cell hib).trans (HCI.out (i + k) (by omega))
              have cS : wr.cell? ⟨b, off + i + k, none⟩ = some (.int .i64 (S (i + k))) := (hbl.out.cell hb).trans (by rw [Nat.add_assoc]; exact HC.out (i + k) (by omega))
              have c1 := hm.out.c1
              have hz1 : (k : Int) < ((j - i : Nat) : Int) := by omega
              have TE := run_E I S i k
              have TT := run_total I S i k
              by_cases hI : I (i + k) = 0
              · have E : Hid (runSt I S i (k + 1) = runSt I S i k) := by show _ = _; rw [runSt, if_neg (by simp [evt, hI])]
                rw [hI] at cI
                go_wp2
                go_roundg (j - i - (k + 1))
                case measure => omega
                case rel => exact ⟨k + 1, by go_num, by omega, by omega, by rw [E.out]; exact hm, hbl⟩
              · have hI2 : (I (i + k) != 0) = true := by simp [hI]
                by_cases hS : S (i + k) = -1
                · have E : Hid (runSt I S i (k + 1) = runSt I S i k) := by show _ = _; rw [runSt, if_neg (by simp [evt, hS])]
                  rw [hS] at cS
                  go_wp2
                  go_roundg (j - i - (k + 1))
                  case measure => omega
                  case rel => exact ⟨k + 1, by go_num, by omega, by omega, by rw [E.out]; exact hm, hbl⟩
                · have hS2 : (S (i + k) != -1) = true := by simp [hS]
                  have E : Hid (runSt I S i (k + 1) = (runSt I S i k).add (k / 256) (ent (I (i + k)) k)) := by show _ = _; rw [runSt, if_pos (by simp [evt, hI, hS])]
                  go_wp2_with fail
                  refine (add_any H H k _ _ (I (i + k)) (runSt I S i k) _ hm.out (by omega) TE (by omega)).mono ?_
                  rintro e w2 ⟨rfl, hm2, hb2⟩
                  have M2 := hide hm2
                  have B2 := hide (hbl.out.trans hb2)
                  clear hm2 hb2
                  go_wp2
                  go_roundg (j - i - (k + 1))
                  case measure => omega
                  case rel => exact ⟨k + 1, by go_num, by omega, by omega, by rw [E.out]; exact M2, B2⟩
            · obtain rfl : k = j - i := by omega
              go_wp2
              go_ret
              exact ⟨by rw [← HH.out]; rfl, by rw [← HH.out]; exact hm.out, by rw [← HH.out]; exact hbl.out⟩
end Go.Proofs.Ybulkcxha
