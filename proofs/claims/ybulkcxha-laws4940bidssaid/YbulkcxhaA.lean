import Derived.Test.YbulkcxhaRows
import Derived.WalkKit
import Derived.Deep.QuietTactic
import Derived.BigQuiet
import Derived.Deep.LoopGhost
import Derived.Deep.Draws
namespace Go.Proofs.Ybulkcxha
open Go.RowKit

theorem hide {p : Prop} (h : p) : Hid p := h
theorem unhide {p : Prop} (h : Hid p) : p := h
abbrev P0 (b : Nat) : Value := .pointer (some ⟨b, 0, none⟩)
abbrev PN : Value := .pointer none

/-- A block of cells of the call's own, none of it frozen. -/
def Blk (w : World) (b : Nat) (cs : List Value) (t : TypeId) : Prop := w.heap[b]? = some (.cells cs.toArray t (0, 0))
theorem Blk.cell {w : World} {b : Nat} {cs : List Value} {t : TypeId} (h : Blk w b cs t) (j : Nat) : w.cell? ⟨b, j, none⟩ = cs[j]? := by
  rw [cell_of_row w b j cs.toArray t (0, 0) h]; simp
theorem Blk.free {w : World} {b : Nat} {cs : List Value} {t : TypeId} (h : Blk w b cs t) (j : Nat) : w.frozen? ⟨b, j, none⟩ = false := frozen_of_row w b j cs.toArray t h
theorem Blk.lt {w : World} {b : Nat} {cs : List Value} {t : TypeId} (h : Blk w b cs t) : b < w.heap.size := (Array.getElem?_eq_some_iff.1 h).1
theorem Blk.set {w : World} {b : Nat} {cs : List Value} {t : TypeId} (h : Blk w b cs t) (j : Nat) (v : Value) : Blk (w.setCell ⟨b, j, none⟩ v) b (cs.set j v) t := by
  have := heap_setCell_same w b j cs.toArray t v h
  unfold Blk
  rw [this]
  simp
theorem Blk.other {w : World} {b : Nat} {cs : List Value} {t : TypeId} (h : Blk w b cs t) (a : Addr) (hne : b ≠ a.block) (v : Value) : Blk (w.setCell a v) b cs t := (heap_setCell_other w a b v hne).trans h
theorem Blk.alloc {w : World} {b : Nat} {cs : List Value} {t : TypeId} (h : Blk w b cs t) (o : Obj) : Blk (w.alloc o) b cs t := (heap_alloc_old w o h.lt).trans h
theorem Blk.new (w : World) (cs : Array Value) (t : TypeId) : Blk (w.alloc (.cells cs t)) w.heap.size cs.toList t := by
  unfold Blk; rw [heap_alloc_new]

/-- w' parts from w in the blocks of S alone (and in new ones). -/
structure Fx (S : Nat → Prop) (w w' : World) : Prop where
  os : w'.os = w.os
  tape : w'.tape = w.tape
  output : w'.output = w.output
  size : w.heap.size ≤ w'.heap.size
  block : ∀ k, k < w.heap.size → ¬ S k → w'.heap[k]? = w.heap[k]?
theorem Fx.refl (S : Nat → Prop) (w : World) : Fx S w w := ⟨rfl, rfl, rfl, Nat.le_refl _, fun _ _ _ => rfl⟩
theorem Fx.trans {S : Nat → Prop} {a b c : World} (h : Fx S a b) (k : Fx S b c) : Fx S a c :=
  ⟨k.os.trans h.os, k.tape.trans h.tape, k.output.trans h.output, Nat.le_trans h.size k.size, fun i hi hS => (k.block i (Nat.lt_of_lt_of_le hi h.size) hS).trans (h.block i hi hS)⟩
theorem Fx.setCell {S : Nat → Prop} {a w : World} (h : Fx S a w) {p : Addr} (hp : S p.block) (u : Value) : Fx S a (w.setCell p u) :=
  h.trans ⟨rfl, rfl, rfl, by simp [World.setCell], fun k _ hk => heap_setCell_other w p k u (fun e => hk (e ▸ hp))⟩
theorem Fx.alloc {S : Nat → Prop} {a w : World} (h : Fx S a w) (o : Obj) : Fx S a (w.alloc o) :=
  h.trans ⟨rfl, rfl, rfl, by simp, fun k hk _ => heap_alloc_old w o hk⟩
theorem Fx.drewN {S : Nat → Prop} {a w : World} (h : Fx S a w) (n : Nat) : Fx S a (w.drewN n) :=
  h.trans ⟨rfl, rfl, rfl, Nat.le_refl _, fun _ _ _ => rfl⟩
theorem Fx.mono {S T : Nat → Prop} {a w : World} (h : Fx S a w) (hST : ∀ k, k < a.heap.size → S k → T k) : Fx T a w :=
  ⟨h.os, h.tape, h.output, h.size, fun k hk hn => h.block k hk (fun hs => hn (hST k hk hs))⟩
theorem Fx.below {S : Nat → Prop} {B : Nat} {a w : World} (h : Fx S a w) (hB : B ≤ a.heap.size) (hS : ∀ k, k < B → ¬ S k) : Below B a w :=
  ⟨h.os, h.tape, h.output, h.size, fun k hk => h.block k (by omega) (hS k hk)⟩
theorem Blk.fx {w w' : World} {b : Nat} {cs : List Value} {t : TypeId} {S : Nat → Prop} (h : Blk w b cs t) (hf : Fx S w w') (hb : ¬ S b) : Blk w' b cs t := (hf.block b h.lt hb).trans h


/-- the numbers that came in -/
def InRow (w : World) (B : Nat) (a0 : Option Addr) (n : Nat) (S : Nat → Int) : Prop :=
  0 < n → ∃ b off, a0 = some ⟨b, off, none⟩ ∧ b < B ∧ ∀ r, r < n → w.cell? ⟨b, off + r, none⟩ = some (.int .i64 (S r))
theorem InRow.below {w w' : World} {B : Nat} {a0 : Option Addr} {n : Nat} {S : Nat → Int} (h : InRow w B a0 n S) (hb : Below B w w') : InRow w' B a0 n S := fun h0 => by
  obtain ⟨b, off, e, hlt, hc⟩ := h h0
  exact ⟨b, off, e, hlt, fun r hr => (hb.cell (by exact hlt)).trans (hc r hr)⟩

/-- the places from i on, up to j, are those between the ends that are not -1; or all are -1 -/
def SpanAt (S : Nat → Int) (n i j : Nat) : Prop :=
  (i = n ∧ j = n ∧ ∀ r, r < n → S r = -1) ∨ (i < j ∧ j ≤ n ∧ (∀ r, r < i → S r = -1) ∧ S i ≠ -1 ∧ (∀ r, j ≤ r → r < n → S r = -1) ∧ S (j - 1) ≠ -1)
theorem first_ex (S : Nat → Int) (n : Nat) : ∃ i, i ≤ n ∧ (∀ r, r < i → S r = -1) ∧ (i < n → S i ≠ -1) := by
  induction n with
  | zero => exact ⟨0, Nat.le_refl _, fun r hr => absurd hr (Nat.not_lt_zero _), fun h => absurd h (Nat.lt_irrefl _)⟩
  | succ n ih =>
    obtain ⟨i, h1, h2, h3⟩ := ih
    rcases Nat.lt_or_ge i n with h | h
    · exact ⟨i, by omega, h2, fun _ => h3 h⟩
    · obtain rfl : i = n := by omega
      by_cases hc : S i = -1
      · refine ⟨i + 1, Nat.le_refl _, fun r hr => ?_, fun h => by omega⟩
        rcases Nat.lt_or_ge r i with h' | h'
        · exact h2 r h'
        · obtain rfl : r = i := by omega
          exact hc
      · exact ⟨i, by omega, h2, fun _ => hc⟩
theorem last_ex (S : Nat → Int) (n : Nat) : ∃ j, j ≤ n ∧ (∀ r, j ≤ r → r < n → S r = -1) ∧ (0 < j → S (j - 1) ≠ -1) := by
  induction n with
  | zero => exact ⟨0, Nat.le_refl _, fun r _ hr => absurd hr (Nat.not_lt_zero _), fun h => absurd h (Nat.lt_irrefl _)⟩
  | succ n ih =>
    by_cases hc : S n = -1
    · obtain ⟨j, h1, h2, h3⟩ := ih
      refine ⟨j, by omega, fun r hr hn => ?_, h3⟩
      rcases Nat.lt_or_ge r n with h' | h'
      · exact h2 r hr h'
      · obtain rfl : r = n := by omega
        exact hc
    · exact ⟨n + 1, Nat.le_refl _, fun r hr hn => by omega, fun _ => hc⟩
theorem span_ex (S : Nat → Int) (n : Nat) : ∃ i j, SpanAt S n i j := by
  obtain ⟨i, h1, h2, h3⟩ := first_ex S n
  obtain ⟨j, g1, g2, g3⟩ := last_ex S n
  rcases Nat.lt_or_ge i n with h | h
  · refine ⟨i, j, .inr ?_⟩
    have hi := h3 h
    have hij : i < j := by
      rcases Nat.lt_or_ge i j with h' | h'
      · exact h'
      · exact absurd (g2 i h' h) hi
    exact ⟨hij, g1, h2, hi, g2, g3 (by omega)⟩
  · obtain rfl : i = n := by omega
    exact ⟨i, i, .inl ⟨rfl, rfl, h2⟩⟩

set_option maxHeartbeats 2000000 in
theorem span_any (a0 : Option Addr) (n cap B i j : Nat) (S : Nat → Int) (w : World) (hn : n ≤ 100000) (h : InRow w B a0 n S) (hs : SpanAt S n i j) :
    Calls Yba.prog 5 #[.slice a0 n cap] w fun e w' => e = .returned (.tuple #[.int .i64 i, .int .i64 j]) ∧ w' = w := by
  have HI := hide h
  have HS := hide hs
  have hin : i ≤ n := by rcases hs with ⟨h, _⟩ | ⟨h1, h2, _⟩ <;> omega
  clear h hs
  go_enter Yba.func5, Yba.ntmps5
  go_wp2
  go_loopg [4] n (fun kx s4 wr => ∃ k : Nat, s4 = .int .i64 k ∧ k ≤ i ∧ n - k ≤ kx ∧ w = wr)
  case atStart => exact ⟨0, rfl, Nat.zero_le _, by omega, rfl⟩
  case round =>
    obtain ⟨k, rfl, hk, hg, rfl⟩ := hrel
    rcases Nat.lt_or_ge k i with hlt | hge
    · obtain ⟨b, off, rfl, hb, hc⟩ := HI.out (by omega)
      have c0 := hc k (by omega)
      have e1 : S k = -1 := by rcases HS.out with ⟨h1, _, h2⟩ | ⟨_, _, h2, _⟩ <;> exact h2 k (by omega)
      rw [e1] at c0
      clear hc e1
      have hkn : (k : Int) < (n : Int) := by omega
      go_wp2
      go_roundg (n - (k + 1))
      case measure => omega
      case rel => exact ⟨k + 1, by go_num, by omega, by omega, rfl⟩
    · obtain rfl : i = k := by omega
      rcases Nat.lt_or_ge i n with hlt | hge
      · obtain ⟨hij, hjn, _, hi1, hj1, hj2⟩ : i < j ∧ j ≤ n ∧ (∀ r, r < i → S r = -1) ∧ S i ≠ -1 ∧ (∀ r, j ≤ r → r < n → S r = -1) ∧ S (j - 1) ≠ -1 := by
          rcases HS.out with ⟨h1, _⟩ | h
          · omega
          · exact h
        obtain ⟨b, off, rfl, hb, hc⟩ := HI.out (by omega)
        have c0 := hc i (by omega)
        have HC := hide hc
        have e1 : (S i == -1) = false := by simpa using hi1
        have J1 := hide hj1
        have J2 := hide hj2
        have hkn : (i : Int) < (n : Int) := by omega
        clear hc hj1 hj2 hi1
        go_wp2
        clear c0 e1
        go_loopg [5] n (fun kx s5 wr => ∃ k : Nat, s5 = .int .i64 k ∧ j ≤ k ∧ k ≤ n ∧ k ≤ kx ∧ w = wr)
        case atStart => exact ⟨n, rfl, hjn, Nat.le_refl _, Nat.le_refl _, rfl⟩
        case round =>
          obtain ⟨k, rfl, hk1, hk2, hgk, rfl⟩ := hrel
          have c0 := HC.out (k - 1) (by omega)
          have hz0 : (0 : Int) ≤ (k : Int) - 1 := by omega
          have hz1 : (k : Int) - 1 < (n : Int) := by omega
          rcases Nat.lt_or_ge j k with hlt' | hge'
          · rw [J1.out (k - 1) (by omega) (by omega)] at c0
            go_wp2
            go_roundg (k - 1)
            case measure => omega
            case rel => exact ⟨k - 1, by go_num, by omega, by omega, by omega, rfl⟩
          · obtain rfl : j = k := by omega
            have e1 : (S (j - 1) == -1) = false := by simpa using J2.out
            go_wp2
            go_ret2
            exact ⟨rfl, rfl⟩
      · obtain ⟨rfl, rfl⟩ : i = n ∧ j = n := by
          rcases HS.out with ⟨h1, h2, _⟩ | ⟨h1, h2, _⟩
          · exact ⟨h1, h2⟩
          · omega
        go_wp2
        go_ret2
        exact ⟨rfl, rfl⟩
end Go.Proofs.Ybulkcxha
