import Derived.Test.YbulkcxfyA
namespace Go.Proofs.Ybulkcxfy
open Go.RowKit

theorem one_new (w : World) (x : Value) (t : TypeId) : ∀ j u, ([x] : List Value)[j]? = some u → (w.alloc (.cells #[x] t)).cell? ((⟨w.heap.size, 0, none⟩ : Addr).add j) = some u := by
  intro j u hj
  match j, hj with
  | 0, hj => simp at hj; subst hj; simp [Addr.add]
theorem two_new (w : World) (x y : Value) (t : TypeId) : ∀ j u, ([x, y] : List Value)[j]? = some u → (w.alloc (.cells #[x, y] t)).cell? ((⟨w.heap.size, 0, none⟩ : Addr).add j) = some u := by
  intro j u hj
  match j, hj with
  | 0, hj => simp at hj; subst hj; simp [Addr.add]
  | 1, hj => simp at hj; subst hj; simp [Addr.add]
theorem one_one (x : Value) (hx : x.oneCell' = true) : ∀ u ∈ ([x] : List Value), u.oneCell' = true := by
  intro u hu; simp at hu; subst hu; exact hx
theorem two_one (x y : Value) (hx : x.oneCell' = true) (hy : y.oneCell' = true) : ∀ u ∈ ([x, y] : List Value), u.oneCell' = true := by
  intro u hu; simp at hu; rcases hu with rfl | rfl <;> assumption

set_option maxHeartbeats 2000000 in
set_option maxRecDepth 100000 in
theorem send_self (H R b : Nat) (k me n : Int) (L : List (Nat × Int)) (Sd : List (Int × Nat × Int)) (cs : List Value) (lv sv : Value) (w : World) (h : Rep H w R me n L Sd cs lv sv) (hb : Blk w b [.int .i64 k] 105) (hL : L.length ≤ 100000) :
    Calls Yba.prog 8 #[P0 R, .int .i64 me, Mg b] w fun e w' => e = .returned (.tuple #[]) ∧ (∃ cs' v', Rep H w' R me n (L ++ [(b, k)]) Sd cs' v' sv) ∧ Below H w w' := by
  obtain ⟨i0, hi0, hz0, hs0, hb0⟩ := info_parts Yba.info107
  have c0 : w.cell? ⟨R, 0, none⟩ = some (.int .i64 me) := (h.box.cell 0).trans h.hself
  have c36 : w.cell? ⟨R, 36, none⟩ = some lv := (h.box.cell 36).trans h.hlv
  have hHw : H ≤ w.heap.size := Nat.le_trans h.HR (Nat.le_of_lt h.box.lt)
  have HH := hide h
  have HB := hide hb
  clear h hb
  go_enter Yba.func8, Yba.ntmps8
  go_wp2_with (at_builtin; refine wpList_append_own _ rfl _ _ 84 rfl H 107 i0 .nilIface 1 16 Yba.underlying84 hi0 hz0 hs0 hb0 rfl (by decide) lv L.length (locCells L) rfl (HH.out.loc.alloc _) ⟨w.heap.size, 0, none⟩ 1 1 [Mg b] rfl rfl (one_new _ _ _) (one_one _ rfl) (by unfold maxLen; omega) (by omega) (by simp; omega) ?_; intro v' w1 hown hgrow _; obtain ⟨ao, c, hv⟩ := own_shape hown; subst hv; obtain ⟨b1, r1, r2⟩ := HH.out.pushLocal HB.out hown hgrow; have d36 := (b1.cell 36).trans HH.out.hlv; have f36 := b1.free 36; have R1 := hide r1; have R2 := hide r2; clear hown hgrow b1 r1 r2 HB HH)
  exact bodyPost_ret (results_none rfl _ _ _) rfl ⟨rfl, ⟨_, _, R1.out⟩, R2.out⟩

set_option maxHeartbeats 2000000 in
set_option maxRecDepth 100000 in
theorem send_other (H R b : Nat) (k to me n : Int) (L : List (Nat × Int)) (Sd : List (Int × Nat × Int)) (cs : List Value) (lv sv : Value) (w : World) (h : Rep H w R me n L Sd cs lv sv) (hb : Blk w b [.int .i64 k] 105) (hL : Sd.length ≤ 100000) (hto : to ≠ me) :
    Calls Yba.prog 8 #[P0 R, .int .i64 to, Mg b] w fun e w' => e = .returned (.tuple #[]) ∧ (∃ cs' v', Rep H w' R me n L (Sd ++ [(to, b, k)]) cs' lv v') ∧ Below H w w' := by
  obtain ⟨i0, hi0, hz0, hs0, hb0⟩ := info_parts Yba.info109
  have c0 : w.cell? ⟨R, 0, none⟩ = some (.int .i64 me) := (h.box.cell 0).trans h.hself
  have c38 : w.cell? ⟨R, 38, none⟩ = some sv := (h.box.cell 38).trans h.hsv
  have hHw : H ≤ w.heap.size := Nat.le_trans h.HR (Nat.le_of_lt h.box.lt)
  have ht : (to == me) = false := by simpa using hto
  have HH := hide h
  have HB := hide hb
  clear h hb hto
  go_enter Yba.func8, Yba.ntmps8
  go_wp2_with (at_builtin; refine wpList_append_own _ rfl _ _ 86 rfl H 109 i0 (.agg #[.int .i64 0, .nilIface]) 2 24 Yba.underlying86 hi0 hz0 hs0 hb0 rfl (by decide) sv Sd.length (sndCells Sd) rfl (HH.out.snd.alloc _) ⟨w.heap.size, 0, none⟩ 1 1 [.int .i64 to, Mg b] rfl rfl (two_new _ _ _ _) (two_one _ _ rfl rfl) (by unfold maxLen; omega) (by omega) (by simp; omega) ?_; intro v' w1 hown hgrow _; obtain ⟨ao, c, hv⟩ := own_shape hown; subst hv; obtain ⟨b1, r1, r2⟩ := HH.out.pushSend HB.out hown hgrow; have d38 := (b1.cell 38).trans HH.out.hsv; have f38 := b1.free 38; have R1 := hide r1; have R2 := hide r2; clear hown hgrow b1 r1 r2 HB HH)
  go_end0
  exact ⟨rfl, ⟨_, _, R1.out⟩, R2.out⟩
end Go.Proofs.Ybulkcxfy
