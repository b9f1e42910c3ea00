import Derived.Test.YbulkcxewB
namespace Go.Proofs.Ybulkcxew
open Go.RowKit

theorem hide {p : Prop} (h : p) : Hid p := h
theorem unhide {p : Prop} (h : Hid p) : p := h
def holdsB (x : Int) (sp : List (Int × Int)) : Bool := sp.any fun p => decide (p.1 ≤ x) && decide (x ≤ p.2)
def Asc (sp : List (Int × Int)) : Prop := ∀ i j, i < j → j < sp.length → (sp.getD i (0, 0)).2 < (sp.getD j (0, 0)).1
def Wide (sp : List (Int × Int)) : Prop := ∀ i, i < sp.length → (sp.getD i (0, 0)).1 ≤ (sp.getD i (0, 0)).2
/-- What a spans value in memory holds. -/
def PartOk (w : World) (B : Nat) (v : Value) (sp : List (Int × Int)) : Prop :=
  ∃ ao cap, v = .slice ao sp.length cap ∧ sp.length ≤ 1024 ∧ (sp.length = 0 ∨ ∃ b, ao = some ⟨b, 0, none⟩ ∧ B ≤ b ∧ b < w.heap.size ∧
    ∀ i, i < sp.length → w.cell? ⟨b, i * 2, none⟩ = some (.int .i64 (sp.getD i (0, 0)).1) ∧ w.cell? ⟨b, i * 2 + 1, none⟩ = some (.int .i64 (sp.getD i (0, 0)).2))

theorem holdsB_iff (x : Int) (sp : List (Int × Int)) : holdsB x sp = true ↔ ∃ i, i < sp.length ∧ (sp.getD i (0, 0)).1 ≤ x ∧ x ≤ (sp.getD i (0, 0)).2 := by
  unfold holdsB
  rw [List.any_eq_true]
  constructor
  · rintro ⟨p, hp, h⟩
    obtain ⟨i, hi, rfl⟩ := List.getElem_of_mem hp
    refine ⟨i, hi, ?_⟩
    simp only [Bool.and_eq_true, decide_eq_true_eq] at h
    simpa [List.getD, hi] using h
  · rintro ⟨i, hi, h⟩
    refine ⟨sp[i], List.getElem_mem hi, ?_⟩
    simp only [Bool.and_eq_true, decide_eq_true_eq]
    simpa [List.getD, hi] using h

theorem standing_part (B : Nat) (v : Value) (sp : List (Int × Int)) (x : Int) (w : World) (hp : PartOk w B v sp) (ha : Asc sp) (hw : Wide sp) :
    Calls Yba.prog 5 #[v, .int .i64 x, .int .i64 x] w fun e w' => e = .returned (.int .i64 (if holdsB x sp then 0 else 2)) ∧ Below w.heap.size w w' := by
  obtain ⟨ao, cap, rfl, hn, h0 | ⟨b, rfl, _, hb, hc⟩⟩ := hp
  · have e0 : sp = [] := List.eq_nil_of_length_eq_zero h0
    subst e0
    exact standing_zero ao cap x w
  · rcases Nat.eq_zero_or_pos sp.length with h0 | h0
    · have e0 : sp = [] := List.eq_nil_of_length_eq_zero h0
      subst e0
      exact standing_zero _ cap x w
    refine (standing_any b 0 sp.length cap (fun i => (sp.getD i (0, 0)).1) (fun i => (sp.getD i (0, 0)).2) x w hn h0 hb (fun i hi => by simpa using (hc i hi).1) (fun i hi => by simpa using (hc i hi).2)
      (fun i j hij hj => ?_) ha).mono ?_
    · rcases Nat.lt_or_ge i j with h | h
      · have := ha i j h hj; have := hw j hj; show (sp.getD i (0, 0)).2 ≤ (sp.getD j (0, 0)).2; omega
      · obtain rfl : i = j := by omega
        exact Int.le_refl _
    · rintro e w' ⟨z, rfl, hz, hiff, hb⟩
      refine ⟨?_, hb⟩
      rw [← holdsB_iff] at hiff
      by_cases hh : holdsB x sp = true
      · rw [hiff.2 hh, if_pos hh]
      · rw [if_neg hh]
        rcases hz with h | h
        · exact absurd (hiff.1 h) hh
        · rw [h]

theorem PartOk.below {w w' : World} {B C : Nat} {v : Value} {sp : List (Int × Int)} (h : PartOk w B v sp) (hb : Below C w w') (hC : w.heap.size ≤ C) : PartOk w' B v sp := by
  obtain ⟨ao, cap, rfl, hn, h0 | ⟨b, rfl, hB, hlt, hc⟩⟩ := h
  · exact ⟨ao, cap, rfl, hn, .inl h0⟩
  · refine ⟨_, cap, rfl, hn, .inr ⟨b, rfl, hB, Nat.lt_of_lt_of_le hlt hb.size, fun i hi => ?_⟩⟩
    rw [hb.cell (by show b < C; omega), hb.cell (by show b < C; omega)]
    exact hc i hi

def anyB (x : Int) (S : Nat → List (Int × Int)) (m : Nat) : Bool := (List.range m).any fun i => holdsB x (S i)
theorem anyB_succ (x : Int) (S : Nat → List (Int × Int)) (m : Nat) : anyB x S (m + 1) = (anyB x S m || holdsB x (S m)) := by
  simp [anyB, List.range_succ]
theorem anyB_of (x : Int) (S : Nat → List (Int × Int)) (m k : Nat) (hk : k < m) (h : holdsB x (S k) = true) : anyB x S m = true := by
  unfold anyB; rw [List.any_eq_true]; exact ⟨k, by simpa using hk, h⟩

set_option maxHeartbeats 4000000 in
theorem ids_any (B g m cap : Nat) (v0 v1 v2 v3 v4 : Value) (St : Nat → Int) (V : Nat → Value) (S : Nat → List (Int × Int)) (x : Int) (w : World) (hm : m ≤ 1024) (hg : g < w.heap.size)
    (hc0 : ∀ i, i < m → w.cell? ⟨g, i * 2, none⟩ = some (.int .u8 (St i))) (hc1 : ∀ i, i < m → w.cell? ⟨g, i * 2 + 1, none⟩ = some (V i))
    (hp : ∀ i, i < m → PartOk w B (V i) (S i)) (ha : ∀ i, i < m → Asc (S i)) (hw : ∀ i, i < m → Wide (S i)) :
    Calls Yba.prog 4 #[.agg #[v0, v1, v2, v3, v4, .slice (some ⟨g, 0, none⟩) m cap], .int .i64 x] w fun e w' => e = .returned (.bool (anyB x S m)) ∧ Below w.heap.size w w' := by
  have H0 : Hid (∀ i, i < m → w.cell? ⟨g, i * 2, none⟩ = some (.int .u8 (St i))) := hc0
  have H1 : Hid (∀ i, i < m → w.cell? ⟨g, i * 2 + 1, none⟩ = some (V i)) := hc1
  have HP : Hid (∀ i, i < m → PartOk w B (V i) (S i)) := hp
  have HA : Hid (∀ i, i < m → Asc (S i)) := ha
  have HW : Hid (∀ i, i < m → Wide (S i)) := hw
  clear hc0 hc1 hp ha hw
  go_enter Yba.func4, Yba.ntmps4
  go_wp2
  go_loopg [10] m (fun kx s10 wr => ∃ k : Nat, s10 = .int .i64 k ∧ k ≤ m ∧ m - k ≤ kx ∧ Below w.heap.size w wr ∧ Hid (anyB x S k = false))
  case atStart => exact ⟨0, rfl, Nat.zero_le _, by omega, (Below.refl _ _).alloc (Nat.le_refl _) _, by show _ = _; simp [anyB]⟩
  case round =>
    obtain ⟨k, rfl, hk, hg, hbel, hany⟩ := hrel
    rcases Nat.lt_or_ge k m with hlt | hge
    · have c0 : wr.cell? ⟨g, k * 2, none⟩ = some (.int .u8 (St k)) := (hbel.cell (by assumption)).trans (H0.out k hlt)
      have c1 : wr.cell? ⟨g, k * 2 + 1, none⟩ = some (V k) := (hbel.cell (by assumption)).trans (H1.out k hlt)
      obtain ⟨ao, L, cp, hv⟩ : ∃ ao L cp, V k = .slice ao L cp := by obtain ⟨ao, cp, h, _⟩ := HP.out k hlt; exact ⟨_, _, _, h⟩
      have hpk : PartOk w B (.slice ao L cp) (S k) := hv ▸ HP.out k hlt
      rw [hv] at c1
      clear hv
      have hstep := fun (W : World) (h : Below w.heap.size w W) => standing_part B (.slice ao L cp) (S k) x W (hpk.below h (Nat.le_refl _)) (HA.out k hlt) (HW.out k hlt)
      have HS := hide hstep
      clear hstep hpk
      have hsz := hbel.size
      go_wp2_with fail
      refine (unhide HS _ ?_).mono ?_
      · exact (hbel.alloc hsz _)
      rintro e w' ⟨rfl, hb2⟩
      have hbel2 : Below w.heap.size w w' := (hbel.alloc hsz _).trans (hb2.mono (by simp; omega))
      clear hb2 HS c0 c1
      by_cases hh : holdsB x (S k) = true
      · have hz : anyB x S m = true := anyB_of x S m k hlt hh
        simp only [hh, if_true]
        clear hh
        go_wp2
        go_ret
        exact ⟨by rw [hz]; rfl, hbel2⟩
      · simp only [hh]
        go_wp2
        go_roundg (m - (k + 1))
        case measure => omega
        case rel => exact ⟨k + 1, by go_num, by omega, by omega, hbel2, by show _ = _; rw [anyB_succ, hany.out]; simpa using hh⟩
    · obtain rfl : k = m := by omega
      go_wp2
      go_ret
      exact ⟨by rw [hany.out]; rfl, hbel⟩
end Go.Proofs.Ybulkcxew
