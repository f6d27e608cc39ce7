/-
  LawS4264BFirstTrue: the walk.
-/
import Derived.Test.YbulkcjhaAny
namespace Go.Proofs.Ybulkcjha
open Go.RowKit

/-- The first index that answers true, or the length. -/
theorem first_true (bs : Nat → Bool) (len : Nat) : ∃ m, m ≤ len ∧ (∀ j, j < m → bs j = false) ∧ (m < len → bs m = true) := by
  induction len with
  | zero => exact ⟨0, Nat.le_refl _, fun j h => by omega, fun h => by omega⟩
  | succ n ih =>
    obtain ⟨m, h1, h2, h3⟩ := ih
    by_cases hm : m < n
    · exact ⟨m, by omega, h2, fun _ => h3 hm⟩
    · have : m = n := by omega
      subst this
      cases hb : bs m with
      | true => exact ⟨m, by omega, h2, fun _ => hb⟩
      | false => exact ⟨m + 1, Nat.le_refl _, fun j hj => by rcases Nat.lt_or_ge j m with h | h; exact h2 j h; rw [show j = m by omega]; exact hb, fun h => by omega⟩

/-- What is known of the argument in world w. -/
def Ans (B : Nat) (a0 : Option Addr) (len : Nat) (bs : Nat → Bool) (w : World) : Prop :=
  0 < len → ∃ b off, a0 = some ⟨b, off, none⟩ ∧ b < B ∧ ∀ j, j < len → w.cell? ⟨b, off + j, none⟩ = some (.bool (bs j))
theorem Ans.below {B : Nat} {a0 : Option Addr} {len : Nat} {bs : Nat → Bool} {w w' : World} (h : Ans B a0 len bs w) (hb : Below B w w') : Ans B a0 len bs w' := fun hl => by
  obtain ⟨b, off, h1, h2, h3⟩ := h hl
  exact ⟨b, off, h1, h2, fun j hj => (hb.cell (p := ⟨b, off + j, none⟩) h2).trans (h3 j hj)⟩

set_option maxHeartbeats 400000 in
theorem first_long (a0 : Option Addr) (len cap : Nat) (nilp : Bool) (w : World) (hlen : 1024 < len) :
    Calls Yba.prog 3 #[.slice a0 len cap, .bool nilp] w fun e w' => e = .returned (.bool true) ∧ Below w.heap.size w w' := by
  go_enter Yba.func3, Yba.ntmps3
  go_wp2
  go_ret
  exact ⟨rfl, Below.refl _ _⟩

theorem two_blocks (X : World) (o1 o2 : Obj) : ((X.alloc o1).alloc o2).heap[X.heap.size]? = some o1 ∧ ((X.alloc o1).alloc o2).heap[X.heap.size + 1]? = some o2 := by
  constructor
  · rw [Below.heap_alloc _ _ _ (by simp)]; exact heap_alloc_new X o1
  · rw [show X.heap.size + 1 = (X.alloc o1).heap.size by simp]; exact heap_alloc_new _ o2

set_option maxRecDepth 100000 in
set_option maxHeartbeats 1600000 in
theorem first_nil (a0 : Option Addr) (len cap : Nat) (bs : Nat → Bool) (w : World) (hlen : len ≤ 1024) (hA0 : Ans w.heap.size a0 len bs w) :
    Calls Yba.prog 3 #[.slice a0 len cap, .bool true] w fun e w' => e = .returned (.bool true) ∧ Below w.heap.size w w' := by
  obtain ⟨m, hm, hF0, hT0⟩ := first_true bs len
  have hA : Hid (Ans w.heap.size a0 len bs w) := hA0
  have hF : Hid _ := hF0
  have hT : Hid _ := hT0
  clear hA0 hF0 hT0
  go_enter Yba.func3, Yba.ntmps3
  go_wp2_with fail
  have hb0 : Below w.heap.size w w := Below.refl _ _
  have hbX : Below w.heap.size w ((w.alloc (.cells #[.slice none 0 0] 25)).alloc (.cells #[.bool false] 4)) := (hb0.alloc hb0.size _).alloc (Nat.le_trans hb0.size (by simp)) _
  have hs0 := hb0.size
  refine (build_any a0 len cap bs none w.heap.size (w.heap.size + 1) _ hlen (fun h => ?hans)).mono ?_
  case hans =>
    obtain ⟨b, off, h1, h2, h3⟩ := (hA.out.below hbX) h
    exact ⟨b, off, h1, Nat.lt_of_lt_of_le h2 hbX.size, h3⟩
  rintro e w2 ⟨g, xs, rfl, hxs, hown2, hn2, hb2⟩
  obtain ⟨t1, t2⟩ := two_blocks w (.cells #[.slice none 0 0] 25) (.cells #[.bool false] 4)
  have hL2 := (hb2.block w.heap.size (by simp; omega)).trans t1
  have hD2 := (hb2.block (w.heap.size + 1) (by simp)).trans t2
  have hbW : Below w.heap.size w w2 := hbX.trans (hb2.mono hbX.size)
  have HXS : Hid _ := hxs
  have HL2 : Hid _ := hL2
  have HD2 : Hid _ := hD2
  clear hb2 t1 t2 hxs hL2 hD2
  go_wp2_with fail
  refine (anyMatch_any g len m w.heap.size _ w.heap.size (w.heap.size + 1) bs none xs w2 hlen hm hF.out hT.out HXS.out hown2 hn2 HL2.out hs0).mono ?_
  rintro e w3 ⟨ao, cap3, rfl, hL3, hown3, hkt, hb3⟩
  have cD : w3.cell? ⟨w.heap.size + 1, 0, none⟩ = some (.bool false) := cell_of_one (hkt _ _ _ (by decide) (by omega) HD2.out)
  have hb4 : Below w.heap.size w w3 := hbW.trans hb3
  have hA3 : Hid (Ans w.heap.size a0 len bs w3) := hA.out.below hb4
  clear hbX hb0 hA HXS HL2 HD2 hown2 hn2 hkt hb3 hbW hs0
  by_cases hml : m < len
  · have hmin : min (m + 1) len = m + 1 := by omega
    rw [hmin] at hL3 hown3
    have cL := cell_of_one hL3
    have hcells : Hid (∀ k, k < m + 1 → ∃ g', ao = some ⟨g', 0, none⟩ ∧ w3.cell? ⟨g', k, none⟩ = some (.int .i64 (k : Nat))) := fun k hk => by
      obtain ⟨g', c', e1, _, _⟩ := hown3.form (by omega)
      simp only [Value.slice.injEq] at e1
      obtain ⟨rfl, _, rfl⟩ := e1
      exact ⟨g', rfl, by rw [hown3.cellAt k (by omega)]; exact idxs_at _ _ hk⟩
    clear hL3 hown3 hmin
    have hdec : decide (m < len) = true := by simp [hml]
    rw [hdec]
    clear hdec
    go_wp2_with fail
    go_loop [10, 11, 12] (fun wa st i => ∃ k : Nat, k ≤ m ∧ i = .int .i64 k ∧ wa = .bool false ∧ st = .int .i64 len) (fun _ _ i => len - (intOf i).toNat)
    case atStart => exact ⟨0, Nat.zero_le _, rfl, rfl, rfl⟩
    case round =>
      obtain ⟨k, hk, rfl, rfl, rfl⟩ := hrel
      obtain ⟨b, off, rfl, hbw, hc3⟩ := hA3.out (by omega)
      have hck := hc3 k (by omega)
      clear hc3
      by_cases hkm : k < m
      · rw [hF.out k hkm] at hck
        have hkl : k < len := by omega
        go_wp2_with fail
        go_round
        case rel => exact ⟨k + 1, by omega, by go_num, rfl, rfl⟩
        case measure => simp [intOf]; omega
      · have hkm' : k = m := by omega
        subst hkm'
        rw [hT.out hml] at hck
        go_wp2_with fail
        go_loop [13] (fun i => ∃ j : Nat, j ≤ k + 1 ∧ i = .int .i64 j) (fun i => k + 1 - (intOf i).toNat)
        case atStart => exact ⟨0, Nat.zero_le _, rfl⟩
        case round =>
          obtain ⟨j, hj, rfl⟩ := hrel
          by_cases hjk : j < k + 1
          · obtain ⟨g', rfl, hcj⟩ := hcells.out j hjk
            have hjk' : (j : Int) < (k : Int) + 1 := by omega
            go_wp2_with fail
            go_round
            case rel => exact ⟨j + 1, by omega, by go_num⟩
            case measure => simp [intOf]; omega
          · have hjk' : ¬ (j : Int) < (k : Int) + 1 := by omega
            go_wp2_with fail
            go_ret
            exact ⟨rfl, hb4⟩
  · have hml' : m = len := by omega
    subst hml'
    have hmin : min (m + 1) m = m := by omega
    rw [hmin] at hL3 hown3
    have cL := cell_of_one hL3
    have hcells : Hid (∀ k, k < m → ∃ g', ao = some ⟨g', 0, none⟩ ∧ w3.cell? ⟨g', k, none⟩ = some (.int .i64 (k : Nat))) := fun k hk => by
      obtain ⟨g', c', e1, _, _⟩ := hown3.form (by omega)
      simp only [Value.slice.injEq] at e1
      obtain ⟨rfl, _, rfl⟩ := e1
      exact ⟨g', rfl, by rw [hown3.cellAt k (by omega)]; exact idxs_at _ _ hk⟩
    clear hL3 hown3 hmin hml hm
    have hdec : decide (m < m) = false := by simp
    rw [hdec]
    clear hdec
    go_wp2_with fail
    go_loop [10, 11, 12] (fun wa st i => ∃ k : Nat, k ≤ m ∧ i = .int .i64 k ∧ wa = .bool false ∧ st = .int .i64 m) (fun _ _ i => m - (intOf i).toNat)
    case atStart => exact ⟨0, Nat.zero_le _, rfl, rfl, rfl⟩
    case round =>
      obtain ⟨k, hk, rfl, rfl, rfl⟩ := hrel
      by_cases hkm : k < m
      · obtain ⟨b, off, rfl, hbw, hc3⟩ := hA3.out (by omega)
        have hck := hc3 k (by omega)
        clear hc3
        rw [hF.out k hkm] at hck
        go_wp2_with fail
        go_round
        case rel => exact ⟨k + 1, by omega, by go_num, rfl, rfl⟩
        case measure => simp [intOf]; omega
      · have hkm' : k = m := by omega
        subst hkm'
        go_wp2_with fail
        go_loop [13] (fun i => ∃ j : Nat, j ≤ k ∧ i = .int .i64 j) (fun i => k - (intOf i).toNat)
        case atStart => exact ⟨0, Nat.zero_le _, rfl⟩
        case round =>
          obtain ⟨j, hj, rfl⟩ := hrel
          by_cases hjk : j < k
          · obtain ⟨g', rfl, hcj⟩ := hcells.out j hjk
            go_wp2_with fail
            go_round
            case rel => exact ⟨j + 1, by omega, by go_num⟩
            case measure => simp [intOf]; omega
          · go_wp2_with fail
            go_ret
            exact ⟨rfl, hb4⟩

set_option maxRecDepth 100000 in
set_option maxHeartbeats 1600000 in
theorem first_made (a0 : Option Addr) (len cap : Nat) (bs : Nat → Bool) (w : World) (hlen : len ≤ 1024) (hA0 : Ans w.heap.size a0 len bs w) :
    Calls Yba.prog 3 #[.slice a0 len cap, .bool false] w fun e w' => e = .returned (.bool true) ∧ Below w.heap.size w w' := by
  obtain ⟨m, hm, hF0, hT0⟩ := first_true bs len
  have hA : Hid (Ans w.heap.size a0 len bs w) := hA0
  have hF : Hid _ := hF0
  have hT : Hid _ := hT0
  clear hA0 hF0 hT0
  go_enter Yba.func3, Yba.ntmps3
  go_wp2_with fail
  refine (newProduct_any _ _ w).mono ?_
  rintro e w1 ⟨pb, rfl, hb0⟩
  go_wp2_with fail
  have hbX : Below w.heap.size w ((w1.alloc (.cells #[.slice none 0 0] 25)).alloc (.cells #[.bool false] 4)) := (hb0.alloc hb0.size _).alloc (Nat.le_trans hb0.size (by simp)) _
  have hs0 := hb0.size
  refine (build_any a0 len cap bs (some ⟨pb, 0, none⟩) w1.heap.size (w1.heap.size + 1) _ hlen (fun h => ?hans)).mono ?_
  case hans =>
    obtain ⟨b, off, h1, h2, h3⟩ := (hA.out.below hbX) h
    exact ⟨b, off, h1, Nat.lt_of_lt_of_le h2 hbX.size, h3⟩
  rintro e w2 ⟨g, xs, rfl, hxs, hown2, hn2, hb2⟩
  obtain ⟨t1, t2⟩ := two_blocks w1 (.cells #[.slice none 0 0] 25) (.cells #[.bool false] 4)
  have hL2 := (hb2.block w1.heap.size (by simp; omega)).trans t1
  have hD2 := (hb2.block (w1.heap.size + 1) (by simp)).trans t2
  have hbW : Below w.heap.size w w2 := hbX.trans (hb2.mono hbX.size)
  have HXS : Hid _ := hxs
  have HL2 : Hid _ := hL2
  have HD2 : Hid _ := hD2
  clear hb2 t1 t2 hxs hL2 hD2
  go_wp2_with fail
  refine (anyMatch_any g len m w.heap.size _ w1.heap.size (w1.heap.size + 1) bs (some ⟨pb, 0, none⟩) xs w2 hlen hm hF.out hT.out HXS.out hown2 hn2 HL2.out hs0).mono ?_
  rintro e w3 ⟨ao, cap3, rfl, hL3, hown3, hkt, hb3⟩
  have cD : w3.cell? ⟨w1.heap.size + 1, 0, none⟩ = some (.bool false) := cell_of_one (hkt _ _ _ (by decide) (by omega) HD2.out)
  have hb4 : Below w.heap.size w w3 := hbW.trans hb3
  have hA3 : Hid (Ans w.heap.size a0 len bs w3) := hA.out.below hb4
  clear hbX hb0 hA HXS HL2 HD2 hown2 hn2 hkt hb3 hbW hs0
  by_cases hml : m < len
  · have hmin : min (m + 1) len = m + 1 := by omega
    rw [hmin] at hL3 hown3
    have cL := cell_of_one hL3
    have hcells : Hid (∀ k, k < m + 1 → ∃ g', ao = some ⟨g', 0, none⟩ ∧ w3.cell? ⟨g', k, none⟩ = some (.int .i64 (k : Nat))) := fun k hk => by
      obtain ⟨g', c', e1, _, _⟩ := hown3.form (by omega)
      simp only [Value.slice.injEq] at e1
      obtain ⟨rfl, _, rfl⟩ := e1
      exact ⟨g', rfl, by rw [hown3.cellAt k (by omega)]; exact idxs_at _ _ hk⟩
    clear hL3 hown3 hmin
    have hdec : decide (m < len) = true := by simp [hml]
    rw [hdec]
    clear hdec
    go_wp2_with fail
    go_loop [10, 11, 12] (fun wa st i => ∃ k : Nat, k ≤ m ∧ i = .int .i64 k ∧ wa = .bool false ∧ st = .int .i64 len) (fun _ _ i => len - (intOf i).toNat)
    case atStart => exact ⟨0, Nat.zero_le _, rfl, rfl, rfl⟩
    case round =>
      obtain ⟨k, hk, rfl, rfl, rfl⟩ := hrel
      obtain ⟨b, off, rfl, hbw, hc3⟩ := hA3.out (by omega)
      have hck := hc3 k (by omega)
      clear hc3
      by_cases hkm : k < m
      · rw [hF.out k hkm] at hck
        have hkl : k < len := by omega
        go_wp2_with fail
        go_round
        case rel => exact ⟨k + 1, by omega, by go_num, rfl, rfl⟩
        case measure => simp [intOf]; omega
      · have hkm' : k = m := by omega
        subst hkm'
        rw [hT.out hml] at hck
        go_wp2_with fail
        go_loop [13] (fun i => ∃ j : Nat, j ≤ k + 1 ∧ i = .int .i64 j) (fun i => k + 1 - (intOf i).toNat)
        case atStart => exact ⟨0, Nat.zero_le _, rfl⟩
        case round =>
          obtain ⟨j, hj, rfl⟩ := hrel
          by_cases hjk : j < k + 1
          · obtain ⟨g', rfl, hcj⟩ := hcells.out j hjk
            have hjk' : (j : Int) < (k : Int) + 1 := by omega
            go_wp2_with fail
            go_round
            case rel => exact ⟨j + 1, by omega, by go_num⟩
            case measure => simp [intOf]; omega
          · have hjk' : ¬ (j : Int) < (k : Int) + 1 := by omega
            go_wp2_with fail
            go_ret
            exact ⟨rfl, hb4⟩
  · have hml' : m = len := by omega
    subst hml'
    have hmin : min (m + 1) m = m := by omega
    rw [hmin] at hL3 hown3
    have cL := cell_of_one hL3
    have hcells : Hid (∀ k, k < m → ∃ g', ao = some ⟨g', 0, none⟩ ∧ w3.cell? ⟨g', k, none⟩ = some (.int .i64 (k : Nat))) := fun k hk => by
      obtain ⟨g', c', e1, _, _⟩ := hown3.form (by omega)
      simp only [Value.slice.injEq] at e1
      obtain ⟨rfl, _, rfl⟩ := e1
      exact ⟨g', rfl, by rw [hown3.cellAt k (by omega)]; exact idxs_at _ _ hk⟩
    clear hL3 hown3 hmin hml hm
    have hdec : decide (m < m) = false := by simp
    rw [hdec]
    clear hdec
    go_wp2_with fail
    go_loop [10, 11, 12] (fun wa st i => ∃ k : Nat, k ≤ m ∧ i = .int .i64 k ∧ wa = .bool false ∧ st = .int .i64 m) (fun _ _ i => m - (intOf i).toNat)
    case atStart => exact ⟨0, Nat.zero_le _, rfl, rfl, rfl⟩
    case round =>
      obtain ⟨k, hk, rfl, rfl, rfl⟩ := hrel
      by_cases hkm : k < m
      · obtain ⟨b, off, rfl, hbw, hc3⟩ := hA3.out (by omega)
        have hck := hc3 k (by omega)
        clear hc3
        rw [hF.out k hkm] at hck
        go_wp2_with fail
        go_round
        case rel => exact ⟨k + 1, by omega, by go_num, rfl, rfl⟩
        case measure => simp [intOf]; omega
      · have hkm' : k = m := by omega
        subst hkm'
        go_wp2_with fail
        go_loop [13] (fun i => ∃ j : Nat, j ≤ k ∧ i = .int .i64 j) (fun i => k - (intOf i).toNat)
        case atStart => exact ⟨0, Nat.zero_le _, rfl⟩
        case round =>
          obtain ⟨j, hj, rfl⟩ := hrel
          by_cases hjk : j < k
          · obtain ⟨g', rfl, hcj⟩ := hcells.out j hjk
            go_wp2_with fail
            go_round
            case rel => exact ⟨j + 1, by omega, by go_num⟩
            case measure => simp [intOf]; omega
          · go_wp2_with fail
            go_ret
            exact ⟨rfl, hb4⟩

theorem first_walk (a0 : Option Addr) (len cap : Nat) (nilp : Bool) (bs : Nat → Bool) (w : World) (hA : Ans w.heap.size a0 len bs w) :
    Calls Yba.prog 3 #[.slice a0 len cap, .bool nilp] w fun e w' => e = .returned (.bool true) ∧ Below w.heap.size w w' := by
  by_cases hlen : len ≤ 1024
  · cases nilp with
    | true => exact first_nil a0 len cap bs w hlen hA
    | false => exact first_made a0 len cap bs w hlen hA
  · exact first_long a0 len cap nilp w (by omega)

end Go.Proofs.Ybulkcjha
