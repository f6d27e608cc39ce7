/-
  zzs4265abuild: a session of n draws whose lead is number k.
-/
import Derived.Test.YbulkcjhoLead
namespace Go.Proofs.Ybulkcjho
open Go.RowKit

theorem Yba.info96 : (Yba.prog.info? 96).map (fun i => (i.zero, i.size, i.bytes)) = some (some (.pointer none), 1, 8) := by kernel_rfl

/-- A draw of the store sb and the set tb lies in block z. -/
def DrawAt (sb tb z : Nat) (w : World) : Prop := ∃ c, w.heap[z]? = some (.cells c 122 (0, 0)) ∧ c[0]? = some (.pointer (some ⟨sb, 0, none⟩)) ∧ c[3]? = some (.pointer (some ⟨tb, 0, none⟩))
theorem DrawAt.same {sb tb z : Nat} {w w' : World} (h : DrawAt sb tb z w) (hb : w'.heap[z]? = w.heap[z]?) : DrawAt sb tb z w' := by
  obtain ⟨c, h1, h2⟩ := h
  exact ⟨c, hb.trans h1, h2⟩

/-- The row g of n pointers; the first i of them are draws. -/
def Row (lo sb tb g n i : Nat) (w : World) : Prop := ∃ cur, w.heap[g]? = some (.cells cur 96 (0, 0)) ∧ cur.size = n ∧ ∀ j, j < i → ∃ z, lo ≤ z ∧ cur[j]? = some (.pointer (some ⟨z, 0, none⟩)) ∧ DrawAt sb tb z w

theorem Row.cell {lo sb tb g n i : Nat} {w : World} (h : Row lo sb tb g n i w) (j : Nat) (hj : j < n) : ∃ v, w.cell? ⟨g, j, none⟩ = some v ∧ w.frozen? ⟨g, j, none⟩ = false := by
  obtain ⟨cur, h1, h2, _⟩ := h
  exact ⟨cur[j]'(by omega), by rw [cell_of_row _ _ _ _ _ _ h1, Array.getElem?_eq_getElem (by omega)], frozen_of_row _ _ _ _ _ h1⟩

theorem Row.step {lo sb tb g n i : Nat} {w : World} (h : Row lo sb tb g n i w) (hi : i < n) (hlo : lo ≤ w.heap.size) (c : Array Value) (c0 : c[0]? = some (.pointer (some ⟨sb, 0, none⟩))) (c3 : c[3]? = some (.pointer (some ⟨tb, 0, none⟩))) :
    Row lo sb tb g n (i + 1) ((w.setCell ⟨g, i, none⟩ (.pointer (some ⟨w.heap.size, 0, none⟩))).alloc (.cells c 122)) := by
  obtain ⟨cur, h1, h2, h3⟩ := h
  have lg := lt_of_block h1
  have hs : (w.setCell ⟨g, i, none⟩ (.pointer (some ⟨w.heap.size, 0, none⟩))).heap.size = w.heap.size := by simp [World.setCell]
  refine ⟨cur.setIfInBounds i (.pointer (some ⟨w.heap.size, 0, none⟩)), ?_, by simpa using h2, fun j hj => ?_⟩
  · rw [Below.heap_alloc _ _ _ (by rw [hs]; exact lg), heap_setCell_same _ _ _ _ _ _ h1]
  · by_cases hji : j < i
    · obtain ⟨z, z1, z2, z3⟩ := h3 j hji
      have lz : z < w.heap.size := by obtain ⟨c', q, _⟩ := z3; exact lt_of_block q
      have hzg : z ≠ g := by rintro rfl; obtain ⟨c', q, _⟩ := z3; rw [h1] at q; simp at q
      refine ⟨z, z1, by rw [Array.getElem?_setIfInBounds_ne (by omega)]; exact z2, z3.same ?_⟩
      rw [Below.heap_alloc _ _ _ (by rw [hs]; exact lz), heap_setCell_other _ _ _ _ (by exact hzg)]
    · have hji' : j = i := by omega
      subst hji'
      refine ⟨w.heap.size, hlo, by rw [Array.getElem?_setIfInBounds_self_of_lt (by omega)], c, ?_, c0, c3⟩
      have := heap_alloc_new (w.setCell ⟨g, j, none⟩ (.pointer (some ⟨w.heap.size, 0, none⟩))) (.cells c 122)
      rw [hs] at this
      exact this

/-- A session in memory: its set tb, its row g of n draws, its lead zk. -/
structure Sess (lo sb tb g n k zk : Nat) (w : World) : Prop where
  row : Row lo sb tb g n n w
  set : ∃ cs, w.heap[tb]? = some (.cells cs 101 (0, 0)) ∧ cs[0]? = some (.pointer (some ⟨zk, 0, none⟩))
  lead : w.cell? ⟨g, k, none⟩ = some (.pointer (some ⟨zk, 0, none⟩))
  tlo : lo ≤ tb
  glo : lo ≤ g
  klt : k < n

theorem Sess.below {lo sb tb g n k zk : Nat} {w w' : World} (h : Sess lo sb tb g n k zk w) (hb : Below w.heap.size w w') : Sess lo sb tb g n k zk w' := by
  obtain ⟨⟨cur, r1, r2, r3⟩, ⟨cs, s1, s2⟩, hl, h4, h5, h6⟩ := h
  have lg := lt_of_block r1
  refine ⟨⟨cur, (hb.block g lg).trans r1, r2, fun j hj => ?_⟩, ⟨cs, (hb.block tb (lt_of_block s1)).trans s1, s2⟩, (hb.cell (p := ⟨g, k, none⟩) lg).trans hl, h4, h5, h6⟩
  obtain ⟨z, z1, z2, z3⟩ := r3 j hj
  refine ⟨z, z1, z2, z3.same (hb.block z ?_)⟩
  obtain ⟨c', q, _⟩ := z3
  exact lt_of_block q

theorem made_row {w : World} {base g n : Nat} {xs : List Value} (h : w.ownsRow base 96 1 (.slice (some ⟨g, 0, none⟩) n n) n xs) (lo sb tb : Nat) : Row lo sb tb g n 0 w := by
  rcases h.2 with ⟨q1, _⟩ | ⟨g', cap', cur, q1, _, q3, _, _, q4, _⟩
  · simp at q1
  · simp only [Value.slice.injEq, Option.some.injEq, Addr.mk.injEq] at q1
    obtain ⟨⟨rfl, _⟩, _, rfl⟩ := q1
    exact ⟨cur, q3, by omega, fun j hj => by omega⟩

theorem sess_end {lo sb tb g n k : Nat} {w : World} (h : Row lo sb tb g n n w) (hk : k < n) (ht : w.heap[tb]? = some (.cells #[.pointer none, .slice none 0 0, .pointer none, .pointer none] 101 (0, 0))) (h1 : lo ≤ tb) (h2 : lo ≤ g) :
    ∃ zk, lo ≤ zk ∧ w.cell? ⟨g, k, none⟩ = some (.pointer (some ⟨zk, 0, none⟩)) ∧ ∀ v, Sess lo sb tb g n k zk ((w.setCell ⟨tb, 1, none⟩ v).setCell ⟨tb, 0, none⟩ (.pointer (some ⟨zk, 0, none⟩))) := by
  obtain ⟨cur, r1, r2, r3⟩ := h
  obtain ⟨zk, k1, k2, k3⟩ := r3 k hk
  have hgt : g ≠ tb := by rintro rfl; rw [r1] at ht; simp at ht
  have hc : w.cell? ⟨g, k, none⟩ = some (.pointer (some ⟨zk, 0, none⟩)) := by rw [cell_of_row _ _ _ _ _ _ r1]; exact k2
  refine ⟨zk, k1, hc, fun v => ⟨⟨cur, ?_, r2, fun j hj => ?_⟩, ?_, ?_, h1, h2, hk⟩⟩
  · rw [heap_setCell_other _ _ _ _ (by exact hgt), heap_setCell_other _ _ _ _ (by exact hgt)]; exact r1
  · obtain ⟨z, z1, z2, z3⟩ := r3 j hj
    have hzt : z ≠ tb := by rintro rfl; obtain ⟨c', q, _⟩ := z3; rw [ht] at q; simp at q
    exact ⟨z, z1, z2, z3.same (by rw [heap_setCell_other _ _ _ _ (by exact hzt), heap_setCell_other _ _ _ _ (by exact hzt)])⟩
  · refine ⟨_, heap_setCell_same _ _ _ _ _ _ (heap_setCell_same _ _ _ _ _ _ ht), ?_⟩
    rfl
  · rw [World.cell?_setCell_other _ _ _ _ (fun e => hgt (congrArg Addr.block e).symm), World.cell?_setCell_other _ _ _ _ (fun e => hgt (congrArg Addr.block e).symm)]; exact hc

set_option maxRecDepth 100000 in
set_option maxHeartbeats 800000 in
theorem build_any (sb n k : Nat) (w : World) (hn : n ≤ 9) (hk : k < n) :
    Calls Yba.prog 5 #[.pointer (some ⟨sb, 0, none⟩), .int .i64 n, .int .i64 k] w fun e w' => ∃ tb g zk, e = .returned (.tuple #[.pointer (some ⟨tb, 0, none⟩), .slice (some ⟨g, 0, none⟩) n n]) ∧
      Sess w.heap.size sb tb g n k zk w' ∧ w.heap.size ≤ zk ∧ Below w.heap.size w w' := by
  obtain ⟨i0, hi, hz0, hz1, hz2⟩ := info_parts Yba.info96
  go_enter Yba.func5, Yba.ntmps5
  go_wp2_with (at_make; refine wpList_make_full _ rfl _ _ 56 rfl w.heap.size 96 i0 (.pointer none) 1 Yba.underlying56 hi hz0 hz1 .i64 .i64 _ _ n rfl rfl rfl rfl (by rw [hz2]; omega) (by unfold maxLen; omega) (by simp) ?_; intro w1 hown1 hgrow1)
  have hb1 : Below w.heap.size w w1 := ((Below.refl _ _).alloc (Nat.le_refl _) _).grown hgrow1 (by simp) (fun j hj => by cases hj)
  have ht1 := (hgrow1.block w.heap.size (by simp) (by simp)).trans (heap_alloc_new w _)
  have hr1 := made_row hown1 w.heap.size sb w.heap.size
  rw [show (w.alloc (Obj.cells #[Value.pointer none, Value.slice none 0 0, Value.pointer none, Value.pointer none] 101)).heap.size = w.heap.size + 1 by simp] at hr1
  clear hown1 hgrow1 hi hz0 hz1 hz2
  go_loopw [10] (fun v wr => ∃ i : Nat, i ≤ n ∧ v = .int .i64 i ∧ Row w.heap.size sb w.heap.size (w.heap.size + 1) n i wr ∧ wr.heap[w.heap.size]? = some (.cells #[.pointer none, .slice none 0 0, .pointer none, .pointer none] 101 (0, 0)) ∧ Below w.heap.size w wr)
    (fun v _ => n - (intOf v).toNat)
  case atStart => exact ⟨0, Nat.zero_le _, rfl, hr1, ht1, hb1⟩
  case round =>
    obtain ⟨i, hin, rfl, hr, ht, hb⟩ := hrel
    clear hr1 ht1 hb1
    have hsz := hb.size
    by_cases hlt : i < n
    · obtain ⟨ov, hc, hf⟩ := hr.cell i hlt
      have hstep := fun c c0 c3 => hr.step hlt hsz c c0 c3
      have lt := lt_of_block ht
      have lg := World.block_lt_of_cell? wr _ hc
      have hca : ∀ o, (wr.alloc o).cell? ⟨w.heap.size + 1, i, none⟩ = some ov := fun o => (World.cell?_alloc_past _ _ _ lg).trans hc
      have hfa : ∀ o, (wr.alloc o).frozen? ⟨w.heap.size + 1, i, none⟩ = false := fun o => (World.frozen?_alloc_past _ _ _ lg).trans hf
      have HT : Hid _ := ht
      clear ht
      go_wp2_with fail
      go_roundw
      case rel =>
        refine ⟨i + 1, by omega, by go_num, hstep _ rfl rfl, ?_, ?_⟩
        · rw [Below.heap_alloc _ _ _ (by simpa [World.setCell] using lt), heap_setCell_other _ _ _ _ (by simp)]; exact HT.out
        · exact (hb.setCell (by simp) _).alloc (by simpa [World.setCell] using hsz) _
      case measure => simp [intOf]; omega
    · have hin' : i = n := by omega
      subst hin'
      obtain ⟨zk, k1, k2, k3⟩ := sess_end hr hk ht (Nat.le_refl _) (by omega)
      have t0 : wr.cell? ⟨w.heap.size, 0, none⟩ = some (.pointer none) := by simp [World.cell?, ht]
      have t1 : wr.cell? ⟨w.heap.size, 1, none⟩ = some (.slice none 0 0) := by simp [World.cell?, ht]
      have t2 : wr.frozen? ⟨w.heap.size, 0, none⟩ = false := by simp [World.frozen?, ht]
      have t3 : wr.frozen? ⟨w.heap.size, 1, none⟩ = false := by simp [World.frozen?, ht]
      clear ht hr
      go_wp2_with fail
      go_ret2
      refine ⟨_, _, zk, rfl, k3 _, k1, ?_⟩
      exact (hb.setCell (by simp) _).setCell (by simp) _
end Go.Proofs.Ybulkcjho
