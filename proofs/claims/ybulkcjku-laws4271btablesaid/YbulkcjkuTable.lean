/-
  LawS4271BTable: the walk.
-/
import Derived.Test.YbulkcjkuAns
import Derived.OpenShut
namespace Go.Proofs.Ybulkcjku
open Go.RowKit

/-- What the law needs to know of the table's cells. -/
structure TabOk (T : Array Value) : Prop where
  size : T.size = 27
  one : T.all (·.oneCell') = true
  code : ∀ i, i < 9 → T.toList[i * 3]? = some (.int .i64 (code i))
  reas : ∀ i, i < 9 → T.toList[i * 3 + 1]? = some (.string (reas i))
  body : ∀ i, i < 9 → T.toList[i * 3 + 2]? = some (.string (body i))

theorem table_ok (w : World) : Calls Yba.prog 5 #[] w fun e w' => ∃ T, e = .returned (.agg T) ∧ TabOk T ∧ Below w.heap.size w w' :=
  (table_any w).mono fun _ _ ⟨h1, h2⟩ => ⟨tabA, h1, ⟨rfl, tab_one, tab_code, tab_reas, tab_body⟩, h2⟩

/-- The table's variable in memory. -/
def TabAt (t : Nat) (W : World) : Prop := ∀ i, i < 9 → W.cell? ⟨t, i * 3, none⟩ = some (.int .i64 (code i)) ∧ W.cell? ⟨t, i * 3 + 1, none⟩ = some (.string (reas i)) ∧ W.cell? ⟨t, i * 3 + 2, none⟩ = some (.string (body i))

theorem tab_at {w1 : World} {Z T : Array Value} {t : TypeId} (hT : TabOk T) (hZ : 27 ≤ Z.size) : TabAt w1.heap.size ((w1.alloc (.cells Z t)).setCells w1.heap.size 0 T.toList) := by
  have hr := World.rangeAt_setCells_same (w1.alloc (.cells Z t)) w1.heap.size 0 T.toList (there_new w1 Z t _ (by have := hT.size; simp; omega))
  intro i hi
  refine ⟨?_, ?_, ?_⟩
  · have := hr _ _ (hT.code i hi); rwa [Nat.zero_add] at this
  · have := hr _ _ (hT.reas i hi); rwa [Nat.zero_add] at this
  · have := hr _ _ (hT.body i hi); rwa [Nat.zero_add] at this

set_option maxRecDepth 100000 in
set_option maxHeartbeats 400000 in
theorem table_walk (a0 : Int) (a1 : Int) (h0 : 0 ≤ a0) (h1 : a0 ≤ 255) (w : World) :
    Calls Yba.prog 3 #[.int .u8 a0, .int .i64 a1] w fun e w' => e = .returned (.bool true) ∧ Below w.heap.size w w' := by
  obtain ⟨k, hk⟩ : ∃ k : Nat, a0 % 12 = (k : Int) := Int.eq_ofNat_of_zero_le (by omega)
  go_enter Yba.func3, Yba.ntmps3
  go_wp2_with fail
  refine (table_ok w).mono ?_
  rintro e w1 ⟨T, rfl, hT, hb1⟩
  have hi : (Yba.prog.info? 24).map (·.size) = some T.size := by rw [hT.size]; kernel_rfl
  have hone := hT.one
  have hsz := hT.size
  by_cases hk9 : k < 9
  · go_wp2_with (refine wpList_store_mid rfl 24 _ _ rfl w1.heap.size 0 T rfl rfl (there_new w1 _ _ _ (by rw [hsz]; decide)) hi hone ?_; generalize hW : World.setCells _ _ _ _ = W; have hat : TabAt w1.heap.size W := (by rw [← hW]; exact tab_at hT (by decide)); have hbW : Below w.heap.size w W := (by rw [← hW]; exact (hb1.alloc hb1.size _).trans (Lib.below_setCells_w hb1.size _ _ _)); have hck := (hat k hk9).1; clear hW hi hone hsz hT hb1)
    clear hck
    generalize code k = st
    have HAT : Hid (TabAt w1.heap.size W) := hat
    clear hat
    go_loop [8, 9, 10] (fun r b i => ∃ j : Nat, j ≤ 9 ∧ i = .int .i64 j ∧ r = .string (rTo st j) ∧ b = .string (bTo st j)) (fun _ _ i => 9 - (intOf i).toNat)
    case atStart => exact ⟨0, by omega, rfl, rfl, rfl⟩
    case round =>
      obtain ⟨j, hj, rfl, rfl, rfl⟩ := hrel
      by_cases hj9 : j < 9
      · obtain ⟨c0, c1, c2⟩ := HAT.out j hj9
        have hj9' : (j : Int) < 9 := by omega
        by_cases hc : code j = st
        · have hcb : (code j == st) = true := beq_iff_eq.2 hc
          have hR : Hid (rTo st (j + 1) = reas j ∧ bTo st (j + 1) = body j) := ⟨by simp [rTo, hc], by simp [bTo, hc]⟩
          clear hc
          go_wp2_with fail
          go_round
          case rel => exact ⟨j + 1, by omega, by go_num, by rw [hR.out.1], by rw [hR.out.2]⟩
          case measure => simp [intOf]; omega
        · have hcb : (code j == st) = false := beq_eq_false_iff_ne.2 hc
          have hR : Hid (rTo st (j + 1) = rTo st j ∧ bTo st (j + 1) = bTo st j) := ⟨by simp [rTo, hc], by simp [bTo, hc]⟩
          clear hc
          go_wp2_with fail
          go_round
          case rel => exact ⟨j + 1, by omega, by go_num, by rw [hR.out.1], by rw [hR.out.2]⟩
          case measure => simp [intOf]; omega
      · have hj9' : j = 9 := by omega
        subst hj9'
        go_wp2_with fail
        refine (answer_any st W).mono ?_
        rintro e w' ⟨rfl, rfl⟩
        generalize rTo st 9 = R
        generalize bTo st 9 = Bd
        go_wp2_with fail
        go_ret
        exact ⟨rfl, hbW⟩
  · go_wp2_with (refine wpList_store_mid rfl 24 _ _ rfl w1.heap.size 0 T rfl rfl (there_new w1 _ _ _ (by rw [hsz]; decide)) hi hone ?_; generalize hW : World.setCells _ _ _ _ = W; have hat : TabAt w1.heap.size W := (by rw [← hW]; exact tab_at hT (by decide)); have hbW : Below w.heap.size w W := (by rw [← hW]; exact (hb1.alloc hb1.size _).trans (Lib.below_setCells_w hb1.size _ _ _)); clear hW hi hone hsz hT hb1)
    have HAT : Hid (TabAt w1.heap.size W) := hat
    clear hat
    go_loop [8, 9, 10] (fun r b i => ∃ j : Nat, j ≤ 9 ∧ i = .int .i64 j ∧ r = .string (rTo a1 j) ∧ b = .string (bTo a1 j)) (fun _ _ i => 9 - (intOf i).toNat)
    case atStart => exact ⟨0, by omega, rfl, rfl, rfl⟩
    case round =>
      obtain ⟨j, hj, rfl, rfl, rfl⟩ := hrel
      by_cases hj9 : j < 9
      · obtain ⟨c0, c1, c2⟩ := HAT.out j hj9
        have hj9' : (j : Int) < 9 := by omega
        by_cases hc : code j = a1
        · have hcb : (code j == a1) = true := beq_iff_eq.2 hc
          have hR : Hid (rTo a1 (j + 1) = reas j ∧ bTo a1 (j + 1) = body j) := ⟨by simp [rTo, hc], by simp [bTo, hc]⟩
          clear hc
          go_wp2_with fail
          go_round
          case rel => exact ⟨j + 1, by omega, by go_num, by rw [hR.out.1], by rw [hR.out.2]⟩
          case measure => simp [intOf]; omega
        · have hcb : (code j == a1) = false := beq_eq_false_iff_ne.2 hc
          have hR : Hid (rTo a1 (j + 1) = rTo a1 j ∧ bTo a1 (j + 1) = bTo a1 j) := ⟨by simp [rTo, hc], by simp [bTo, hc]⟩
          clear hc
          go_wp2_with fail
          go_round
          case rel => exact ⟨j + 1, by omega, by go_num, by rw [hR.out.1], by rw [hR.out.2]⟩
          case measure => simp [intOf]; omega
      · have hj9' : j = 9 := by omega
        subst hj9'
        go_wp2_with fail
        refine (answer_any a1 W).mono ?_
        rintro e w' ⟨rfl, rfl⟩
        generalize rTo a1 9 = R
        generalize bTo a1 9 = Bd
        go_wp2_with fail
        go_ret
        exact ⟨rfl, hbW⟩

end Go.Proofs.Ybulkcjku
