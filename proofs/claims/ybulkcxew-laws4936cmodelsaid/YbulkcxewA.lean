import Derived.Test.YbulkcxewRows
import Derived.WalkKit
import Derived.Deep.QuietTactic
import Derived.BigQuiet
import Derived.Deep.LoopGhost
import Derived.Deep.Draws
namespace Go.Proofs.Ybulkcxew
open Go.RowKit

set_option maxHeartbeats 1000000 in
theorem closure_any (bs bf b off n cap i : Nat) (l x : Int) (w : World) (hi : i < n)
    (hs : w.cell? ⟨bs, 0, none⟩ = some (.slice (some ⟨b, off, none⟩) n cap)) (hx : w.cell? ⟨bf, 0, none⟩ = some (.int .i64 x))
    (hl : w.cell? ⟨b, off + i * 2 + 1, none⟩ = some (.int .i64 l)) :
    Calls Yba.prog 7 #[.int .i64 i, .pointer (some ⟨bs, 0, none⟩), .pointer (some ⟨bf, 0, none⟩)] w fun e w' => e = .returned (.bool (decide (x ≤ l))) ∧ ∃ q, w' = w.drewN q := by
  have hiz : (i : Int) < (n : Int) := by omega
  go_enter Yba.func7, Yba.ntmps7
  go_wp2
  go_quiet (fail)
  go_wp2
  go_ret
  exact ⟨rfl, _, rfl⟩


set_option maxHeartbeats 4000000 in
theorem search_any (bs bf b off n cap : Nat) (La : Nat → Int) (x : Int) (w : World) (hn : n ≤ 1024)
    (hs : w.cell? ⟨bs, 0, none⟩ = some (.slice (some ⟨b, off, none⟩) n cap)) (hx : w.cell? ⟨bf, 0, none⟩ = some (.int .i64 x))
    (hl : ∀ i, i < n → w.cell? ⟨b, off + i * 2 + 1, none⟩ = some (.int .i64 (La i))) (hmono : ∀ i j, i ≤ j → j < n → La i ≤ La j) :
    Calls Yba.prog 6 #[.int .i64 n, .func (.func 7) #[] #[.pointer (some ⟨bs, 0, none⟩), .pointer (some ⟨bf, 0, none⟩)]] w fun e w' =>
      ∃ r : Nat, e = .returned (.int .i64 r) ∧ r ≤ n ∧ (∀ t, t < r → La t < x) ∧ (∀ t, r ≤ t → t < n → x ≤ La t) ∧ ∃ q, w' = w.drewN q := by
  have HL : Hid (∀ i, i < n → w.cell? ⟨b, off + i * 2 + 1, none⟩ = some (.int .i64 (La i))) := hl
  have HM : Hid (∀ i j, i ≤ j → j < n → La i ≤ La j) := hmono
  clear hl hmono
  go_enter Yba.func6, Yba.ntmps6
  go_wp2
  go_loopg [5, 6] n (fun kx s5 s6 wr => ∃ (lo hi q : Nat), s5 = .int .i64 lo ∧ s6 = .int .i64 hi ∧ lo ≤ hi ∧ hi ≤ n ∧ hi - lo ≤ kx ∧ wr = w.drewN q ∧
    Hid ((∀ t, t < lo → La t < x) ∧ (∀ t, hi ≤ t → t < n → x ≤ La t)))
  case atStart => exact ⟨0, n, 0, rfl, rfl, Nat.zero_le _, Nat.le_refl _, by omega, rfl, (⟨fun t ht => absurd ht (Nat.not_lt_zero _), fun t h1 h2 => by omega⟩ : (∀ t, t < 0 → La t < x) ∧ (∀ t, n ≤ t → t < n → x ≤ La t))⟩
  case round =>
    obtain ⟨lo, hi, q, rfl, rfl, hlh, hin, hg, rfl, I⟩ := hrel
    by_cases hlt : lo < hi
    · have hc := closure_any bs bf b off n cap ((lo + hi) / 2) (La ((lo + hi) / 2)) x (w.drewN q) (by omega) (by simpa using hs) (by simpa using hx) (by simpa using HL.out ((lo + hi) / 2) (by omega))
      rw [show (((lo + hi) / 2 : Nat) : Int) = ((lo : Int) + (hi : Int)) / 2 by omega] at hc
      by_cases hp : x ≤ La ((lo + hi) / 2)
      · have e1 : decide (x ≤ La ((lo + hi) / 2)) = true := decide_eq_true hp
        rw [e1] at hc
        have HP : Hid (x ≤ La ((lo + hi) / 2)) := hp
        clear hp e1
        go_wp2_with (go_at_call 7; refine hc.mono ?_; rintro e w' ⟨rfl, nq, rfl⟩)
        go_roundg ((lo + hi) / 2 - lo)
        case measure => omega
        case rel => exact ⟨lo, (lo + hi) / 2, q + nq, rfl, by rw [show ((lo : Int) + (hi : Int)) / 2 = (((lo + hi) / 2 : Nat) : Int) by omega], by omega, by omega, Nat.le_refl _, rfl, ⟨I.out.1, fun t ht htn => Int.le_trans HP.out (HM.out _ _ ht htn)⟩⟩
      · have e1 : decide (x ≤ La ((lo + hi) / 2)) = false := decide_eq_false hp
        rw [e1] at hc
        have HP : Hid (La ((lo + hi) / 2) < x) := by show _ < _; omega
        clear hp e1
        go_wp2_with (go_at_call 7; refine hc.mono ?_; rintro e w' ⟨rfl, nq, rfl⟩)
        go_roundg (hi - ((lo + hi) / 2 + 1))
        case measure => omega
        case rel => exact ⟨(lo + hi) / 2 + 1, hi, q + nq, by rw [show ((lo : Int) + (hi : Int)) / 2 + 1 = (((lo + hi) / 2 + 1 : Nat) : Int) by omega], rfl, by omega, hin, Nat.le_refl _, rfl, ⟨fun t ht => Int.lt_of_le_of_lt (HM.out t ((lo + hi) / 2) (by omega) (by omega)) HP.out, I.out.2⟩⟩
    · obtain rfl : hi = lo := by omega
      go_wp2
      go_ret
      exact ⟨hi, rfl, hin, I.out.1, I.out.2, q, rfl⟩
end Go.Proofs.Ybulkcxew
