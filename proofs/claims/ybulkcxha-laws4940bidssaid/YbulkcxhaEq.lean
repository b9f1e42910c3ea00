import Derived.Test.YbulkcxhaPl
namespace Go.Proofs.Ybulkcxha
open Go.RowKit

set_option maxHeartbeats 4000000 in
theorem equ_zero (a1 a2 : Option Addr) (c1 c2 : Nat) (w : World) : Calls Yba.prog 9 #[.slice a1 0 c1, .slice a2 0 c2] w fun e w' => e = .returned (.bool true) ∧ ∃ q, w' = w.drewN q := by
  go_enter Yba.func9, Yba.ntmps9
  go_wp2
  go_loopg [13] 1 (fun _ s13 wr => s13 = .int .i64 0 ∧ wr = w)
  case atStart => exact ⟨rfl, rfl⟩
  case round =>
    obtain ⟨rfl, rfl⟩ := hrel
    go_wp2
    go_ret
    exact ⟨rfl, 0, rfl⟩
set_option maxHeartbeats 4000000 in
theorem equ_pos (g1 g2 n c1 c2 : Nat) (X : Nat → Int) (w : World) (hn : n ≤ 100000) (h1 : ∀ r, r < n → w.cell? ⟨g1, r, none⟩ = some (Value.int .u32 (X r))) (h2 : ∀ r, r < n → w.cell? ⟨g2, r, none⟩ = some (Value.int .u32 (X r))) :
    Calls Yba.prog 9 #[.slice (some ⟨g1, 0, none⟩) n c1, .slice (some ⟨g2, 0, none⟩) n c2] w fun e w' => e = .returned (.bool true) ∧ ∃ q, w' = w.drewN q := by
  have H1 := hide h1
  have H2 := hide h2
  clear h1 h2
  go_enter Yba.func9, Yba.ntmps9
  go_wp2
  go_loopg [13] n (fun kx s13 wr => ∃ k q : Nat, s13 = .int .i64 k ∧ k ≤ n ∧ n - k ≤ kx ∧ w.drewN q = wr)
  case atStart => exact ⟨0, 0, rfl, Nat.zero_le _, by omega, rfl⟩
  case round =>
    obtain ⟨k, q, rfl, hk, hg, rfl⟩ := hrel
    rcases Nat.lt_or_ge k n with hlt | hge
    · have d1 : (w.drewN q).cell? ⟨g1, k, none⟩ = some (Value.int .u32 (X k)) := H1.out k hlt
      have d2 : (w.drewN q).cell? ⟨g2, k, none⟩ = some (Value.int .u32 (X k)) := H2.out k hlt
      have d1' := H1.out k hlt
      have d2' := H2.out k hlt
      have hz : (k : Int) < (n : Int) := by omega
      generalize X k = u at d1 d2 d1' d2'
      go_wp2
      go_quiet (fail)
      go_wp2
      go_roundg (n - (k + 1))
      case measure => omega
      case rel => exact ⟨k + 1, _, by go_num, by omega, by omega, rfl⟩
    · go_wp2
      go_ret
      exact ⟨rfl, q, rfl⟩

set_option maxHeartbeats 4000000 in
theorem eqn_zero (a1 a2 : Option Addr) (c1 c2 : Nat) (w : World) : Calls Yba.prog 10 #[.slice a1 0 c1, .slice a2 0 c2] w fun e w' => e = .returned (.bool true) ∧ ∃ q, w' = w.drewN q := by
  go_enter Yba.func10, Yba.ntmps10
  go_wp2
  go_loopg [13] 1 (fun _ s13 wr => s13 = .int .i64 0 ∧ wr = w)
  case atStart => exact ⟨rfl, rfl⟩
  case round =>
    obtain ⟨rfl, rfl⟩ := hrel
    go_wp2
    go_ret
    exact ⟨rfl, 0, rfl⟩
set_option maxHeartbeats 4000000 in
theorem eqn_pos (g1 g2 n c1 c2 : Nat) (X : Nat → Int) (w : World) (hn : n ≤ 100000) (h1 : ∀ r, r < n → w.cell? ⟨g1, r, none⟩ = some (Value.int .i64 (X r))) (h2 : ∀ r, r < n → w.cell? ⟨g2, r, none⟩ = some (Value.int .i64 (X r))) :
    Calls Yba.prog 10 #[.slice (some ⟨g1, 0, none⟩) n c1, .slice (some ⟨g2, 0, none⟩) n c2] w fun e w' => e = .returned (.bool true) ∧ ∃ q, w' = w.drewN q := by
  have H1 := hide h1
  have H2 := hide h2
  clear h1 h2
  go_enter Yba.func10, Yba.ntmps10
  go_wp2
  go_loopg [13] n (fun kx s13 wr => ∃ k q : Nat, s13 = .int .i64 k ∧ k ≤ n ∧ n - k ≤ kx ∧ w.drewN q = wr)
  case atStart => exact ⟨0, 0, rfl, Nat.zero_le _, by omega, rfl⟩
  case round =>
    obtain ⟨k, q, rfl, hk, hg, rfl⟩ := hrel
    rcases Nat.lt_or_ge k n with hlt | hge
    · have d1 : (w.drewN q).cell? ⟨g1, k, none⟩ = some (Value.int .i64 (X k)) := H1.out k hlt
      have d2 : (w.drewN q).cell? ⟨g2, k, none⟩ = some (Value.int .i64 (X k)) := H2.out k hlt
      have d1' := H1.out k hlt
      have d2' := H2.out k hlt
      have hz : (k : Int) < (n : Int) := by omega
      generalize X k = u at d1 d2 d1' d2'
      go_wp2
      go_quiet (fail)
      go_wp2
      go_roundg (n - (k + 1))
      case measure => omega
      case rel => exact ⟨k + 1, _, by go_num, by omega, by omega, rfl⟩
    · go_wp2
      go_ret
      exact ⟨rfl, q, rfl⟩

theorem own_form0 {w : World} {H n : Nat} {e : TypeId} {v : Value} {xs : List Value} (h : w.ownsRow H e 1 v n xs) : ∃ a c, v = .slice a n c := by
  rcases h.2 with ⟨h1, h2⟩ | ⟨g, cap, cur, h1, _⟩
  · exact ⟨none, 0, by rw [h1, h2]⟩
  · exact ⟨_, _, h1⟩
theorem own_cells {w : World} {H n g c : Nat} {e : TypeId} {xs : List Value} (h : w.ownsRow H e 1 (.slice (some ⟨g, 0, none⟩) n c) n xs) (r : Nat) (v : Value) (hr : xs[r]? = some v) : w.cell? ⟨g, r, none⟩ = some v := by
  have hadd : (⟨g, 0, none⟩ : Addr).add r = ⟨g, r, none⟩ := by unfold Addr.add; split <;> simp_all
  rw [← hadd]
  exact h.cells (g := g) rfl r v hr
theorem equ_own (H1 H2 : Nat) (v1 v2 : Value) (xs : List Int) (w : World) (hn : xs.length ≤ 100000) (h1 : w.ownsRow H1 36 1 v1 xs.length (uL xs)) (h2 : w.ownsRow H2 36 1 v2 xs.length (uL xs)) :
    Calls Yba.prog 9 #[v1, v2] w fun e w' => e = .returned (.bool true) ∧ ∃ q, w' = w.drewN q := by
  rcases Nat.eq_zero_or_pos xs.length with h0 | h0
  · rw [h0] at h1 h2
    obtain ⟨a1, c1, rfl⟩ := own_form0 h1
    obtain ⟨a2, c2, rfl⟩ := own_form0 h2
    exact equ_zero a1 a2 c1 c2 w
  · obtain ⟨g1, c1, rfl, _, _⟩ := h1.form h0
    obtain ⟨g2, c2, rfl, _, _⟩ := h2.form h0
    exact equ_pos g1 g2 xs.length c1 c2 (fun r => xs[r]?.getD 0) w hn (fun r hr => own_cells h1 r _ (by simp [uL, hr])) (fun r hr => own_cells h2 r _ (by simp [uL, hr]))
theorem eqn_own (H1 H2 : Nat) (v1 v2 : Value) (xs : List Nat) (w : World) (hn : xs.length ≤ 100000) (h1 : w.ownsRow H1 3 1 v1 xs.length (nL xs)) (h2 : w.ownsRow H2 3 1 v2 xs.length (nL xs)) :
    Calls Yba.prog 10 #[v1, v2] w fun e w' => e = .returned (.bool true) ∧ ∃ q, w' = w.drewN q := by
  rcases Nat.eq_zero_or_pos xs.length with h0 | h0
  · rw [h0] at h1 h2
    obtain ⟨a1, c1, rfl⟩ := own_form0 h1
    obtain ⟨a2, c2, rfl⟩ := own_form0 h2
    exact eqn_zero a1 a2 c1 c2 w
  · obtain ⟨g1, c1, rfl, _, _⟩ := h1.form h0
    obtain ⟨g2, c2, rfl, _, _⟩ := h2.form h0
    exact eqn_pos g1 g2 xs.length c1 c2 (fun r => ((xs[r]?.getD 0 : Nat) : Int)) w hn (fun r hr => own_cells h1 r _ (by simp [nL, hr])) (fun r hr => own_cells h2 r _ (by simp [nL, hr]))

theorem ownsRow_lit (w : World) (H : Nat) (e : TypeId) (h : H ≤ w.heap.size) : (w.alloc (.cells #[] e)).ownsRow H e 1 (.slice (some ⟨w.heap.size, 0, none⟩) 0 0) 0 [] :=
  World.ownsRow_made w #[] 0 h (Nat.zero_le _) rfl

theorem equalIn28_nil (d : Nat) (w : World) : (Op.equalIn (d + 1) 28 (.slice none 0 0) (.slice none 0 0)).run Yba.prog w = .ok true w := by
  simp [Op.equalIn, run_underlying Yba.underlying28]
theorem equal28_nil (w : World) : (Op.equal 28 (.slice none 0 0) (.slice none 0 0)).run Yba.prog w = .ok true w := equalIn28_nil 9999 w
theorem eql28_nil (w : World) : (binOp .eql 28 (.slice none 0 0) (.slice none 0 0)).run Yba.prog w = .ok (.bool true) w := by
  simp only [binOp]
  simp [equal28_nil]
theorem equalIn28_some (d : Nat) (a : Addr) (n c : Nat) (w : World) : (Op.equalIn (d + 1) 28 (.slice (some a) n c) (.slice none 0 0)).run Yba.prog w = .ok false w := by
  simp [Op.equalIn, run_underlying Yba.underlying28]
theorem equal28_some (a : Addr) (n c : Nat) (w : World) : (Op.equal 28 (.slice (some a) n c) (.slice none 0 0)).run Yba.prog w = .ok false w := equalIn28_some 9999 a n c w
theorem eql28_some (a : Addr) (n c : Nat) (w : World) : (binOp .eql 28 (.slice (some a) n c) (.slice none 0 0)).run Yba.prog w = .ok (.bool false) w := by
  simp only [binOp]
  simp [equal28_some]

set_option maxHeartbeats 4000000 in
theorem clone_nil (w : World) : Calls Yba.prog 7 #[.slice none 0 0] w fun e w' => e = .returned (.slice none 0 0) ∧ w' = w := by
  have h := eql28_nil
  go_enter Yba.func7, Yba.ntmps7
  go_wp2
  go_ret
  exact ⟨rfl, rfl⟩
set_option maxHeartbeats 4000000 in
theorem clone_some (H g n c : Nat) (xs : List Int) (w : World) (h0 : 0 < n) (hn : n ≤ 100000) (ho : w.ownsRow H 36 1 (.slice (some ⟨g, 0, none⟩) n c) n (uL xs)) :
    Calls Yba.prog 7 #[.slice (some ⟨g, 0, none⟩) n c] w fun e w' => ∃ g' c', e = .returned (.slice (some ⟨g', 0, none⟩) n c') ∧ w'.ownsRow w.heap.size 36 1 (.slice (some ⟨g', 0, none⟩) n c') n (uL xs) ∧ Below w.heap.size w w' := by
  obtain ⟨i36, hi36, hz36, hs36, hb36⟩ := info_parts Yba.info36
  have h := eql28_some
  have HO := hide ho
  have L : (uL xs).length = n * 1 := ho.1
  clear ho
  go_enter Yba.func7, Yba.ntmps7
  go_wp2_with (at_builtin; refine wpList_append_lies _ rfl _ _ 28 rfl w.heap.size 36 i36 (.int .u32 0) 1 4 Yba.underlying28 hi36 hz36 hs36 hb36 rfl (by decide) (.slice (some ⟨w.heap.size, 0, none⟩) 0 0) 0 [] rfl (ownsRow_lit w w.heap.size 36 (Nat.le_refl _)) ⟨g, 0, none⟩ n c (uL xs) rfl L (own_news (HO.out.alloc _)) (uL_one xs) h0 (by unfold maxLen; omega) (by omega) (by simp) _ rfl ?_; intro g1 cap1 w3 hown hgrow hat hlt; rw [Nat.zero_add, List.nil_append] at hown; have O3 := hide hown; have B3 : Hid (Below w.heap.size w w3) := Below.grown ((Below.refl _ w).alloc (Nat.le_refl _) _) hgrow (by simp) (fun k hk => by simp [Value.ownBlock] at hk; omega); clear hown hgrow hat hlt)
  go_ret
  exact ⟨g1, cap1, by simp, O3.out, B3.out⟩
end Go.Proofs.Ybulkcxha
