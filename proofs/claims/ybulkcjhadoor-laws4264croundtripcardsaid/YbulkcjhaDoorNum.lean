/-
  (*JSONReader).number at a plain decimal numeral.
-/
import Derived.Test.YbulkcjhaDoorDigits
namespace Go.Proofs.YbulkcjhaDoor
open Go.RowKit

/-- The bytes from p on, q excluded. -/
def cut (bs : List UInt8) (p q : Nat) : List UInt8 := (bs.drop p).take (q - p)
theorem cut_length (bs : List UInt8) (p q : Nat) (h : q ≤ bs.length) : (cut bs p q).length = q - p := by simp [cut]; omega
theorem cut_at (bs : List UInt8) (p q j : Nat) (hq : q ≤ bs.length) (hj : j < (cut bs p q).length) : ((cut bs p q)[j].toNat : Int) = at' bs (p + j) := by
  have hl := cut_length bs p q hq
  have : p + j < bs.length := by omega
  simp [cut, at', List.getD, this]

theorem Rdr.conv {rb g cap i : Nat} {bs : List UInt8} {w : World} (h : Rdr rb g cap bs i w) (p q c : Nat) (hq : q ≤ bs.length) :
    (convert 22 9 (.slice (some ⟨g, p, none⟩) (q - p) c)).run Ybad.prog w = .ok (.string ⟨(cut bs p q).toArray⟩) w := by
  have := run_convert_bytes_back (P := Ybad.prog) w 22 9 5 ⟨g, p, none⟩ c (cut bs p q) Ybad.underlying22 Ybad.underlying5 Ybad.underlying9 (fun j hj => by
    rw [show (⟨g, p, none⟩ : Addr).add j = ⟨g, p + j, none⟩ by simp [Addr.add], cut_at bs p q j hq hj]
    have := cut_length bs p q hq
    exact h.row _ (by omega))
  rw [cut_length bs p q hq] at this
  exact this

set_option maxRecDepth 100000 in
set_option maxHeartbeats 3200000 in
theorem number_neg (rb g cap : Nat) (bs : List UInt8) (i p q : Nat) (w : World) (h : Rdr rb g cap bs i w) (hcap : bs.length ≤ cap) (hip : i ≤ p) (hpl : p < bs.length) (hws : ∀ k, i ≤ k → k < p → isWs (at' bs k)) (hnw : ¬ isWs (at' bs p))
    (hneg : at' bs p = 45) (hdq : (p + 1) < q) (hql : q ≤ bs.length) (hdg : ∀ k, (p + 1) ≤ k → k < q → 48 ≤ at' bs k ∧ at' bs k ≤ 57) (hz : at' bs (p + 1) = 48 → q = (p + 1) + 1) (hst : q < bs.length → at' bs q = 10) :
    Calls Ybad.prog 10 #[.pointer (some ⟨rb, 0, none⟩)] w fun e w' => e = .returned (.string ⟨(cut bs p q).toArray⟩) ∧ Rdr rb g cap bs q w' ∧ But rb w w' := by
  have hlen := h.len
  have hmf : ∀ (fn : Fn) (first cp : Array Value) (w : World), (Instr.makeFunc fn first cp).run Ybad.prog w = .ok (.func fn first cp) w := fun _ _ _ _ => rfl
  have lrb := h.lt
  have lg : g < w.heap.size := World.block_lt_of_cell? w _ (h.row p hpl)
  have h1 : Rdr rb g cap bs i (w.alloc (.cells #[.pointer (some ⟨rb, 0, none⟩)] 24)) := h.but (Below.heap_alloc _ _ _ lrb) (Below.heap_alloc _ _ _ lg)
  have hc1 : (w.alloc (.cells #[.pointer (some ⟨rb, 0, none⟩)] 24)).cell? ⟨w.heap.size, 0, none⟩ = some (.pointer (some ⟨rb, 0, none⟩)) := by rw [cell_of_row _ _ _ _ _ _ (heap_alloc_new w _)]; rfl
  have HW : Hid _ := hws
  have HN : Hid _ := hneg
  have HD : Hid _ := hdg
  have HS : Hid _ := hst
  have HZ : Hid _ := hz
  have HR : Hid _ := h1
  clear hws hneg hdg hst hz h1 h
  go_enter Ybad.func10, Ybad.ntmps10
  go_wp2_with fail
  refine (skip_any rb g cap bs i p _ HR.out hip (by omega) HW.out (fun _ => hnw)).mono ?_
  rintro e w1 ⟨rfl, hr1, hb1⟩
  have hdec : decide (p < bs.length) = true := by simp [hpl]
  rw [hdec]
  clear hdec hnw
  have c0 := hr1.c0
  have c1 := hr1.c1
  have f1 := hr1.free 1
  have cp := hb1.cell hc1 (by show w.heap.size ≠ rb; omega)
  have p0 : (0 : Int) ≤ (p : Int) := Int.natCast_nonneg _
  have cb := hr1.row p (by omega)
  have p1 : (p : Int) < (bs.length : Int) := by omega
  have hbd := at_bd bs p
  have hn1 : (at' bs p == 45) = true := beq_iff_eq.2 HN.out
  go_wp2_with fail
  go_quiet (fail)
  go_wp2_with fail
  generalize hW : World.setCell (World.drewN w1 _) _ _ = w2
  have hr2 : Rdr rb g cap bs (p + 1) w2 := by rw [← hW]; exact (hr1.drewN _).moved (p + 1) (by omega) _ (by omega)
  have hb2 : But rb (w.alloc (.cells #[.pointer (some ⟨rb, 0, none⟩)] 24)) w2 := by rw [← hW]; exact (hb1.drewN _).setCell _ _
  clear hW
  clear c0 c1 f1 cp cb p0 p1 hbd hn1
  have c0 := hr2.c0
  have c1 := hr2.c1
  have f1 := hr2.free 1
  have cp := hb2.cell hc1 (by show w.heap.size ≠ rb; omega)
  have p0 : (0 : Int) ≤ ((p + 1) : Int) := Int.natCast_nonneg _
  have cb := hr2.row (p + 1) (by omega)
  have p1 : ((p + 1) : Int) < (bs.length : Int) := by omega
  have hbd := at_bd bs (p + 1)
  by_cases hz0 : at' bs (p + 1) = 48
  · have hq1 := HZ.out hz0
    have e48 : (at' bs (p + 1) == 48) = true := beq_iff_eq.2 hz0
    clear hz0
    go_quiet (fail)
    go_wp2_with fail
    generalize hW : World.setCell (World.drewN w2 _) _ _ = w3
    have hr3 : Rdr rb g cap bs q w3 := by rw [← hW]; exact (hr2.drewN _).moved q hql _ (by omega)
    have hb3 : But rb (w.alloc (.cells #[.pointer (some ⟨rb, 0, none⟩)] 24)) w3 := by rw [← hW]; exact (hb2.drewN _).setCell _ _
    clear hW c0 c1 f1 cp cb p0 p1 hbd e48 hr2 hb2 hq1
    by_cases hqlt : q < bs.length
    · have h10 := HS.out hqlt
      have c0 := hr3.c0
      have c1 := hr3.c1
      have f1 := hr3.free 1
      have cp := hb3.cell hc1 (by show w.heap.size ≠ rb; omega)
      have p0 : (0 : Int) ≤ (q : Int) := Int.natCast_nonneg _
      have cb := hr3.row q (by omega)
      have p1 : (q : Int) < (bs.length : Int) := by omega
      have hbd := at_bd bs q
      have e1 : (at' bs q == 46) = false := beq_eq_false_iff_ne.2 (by omega)
      have e2 : (at' bs q == 101) = false := beq_eq_false_iff_ne.2 (by omega)
      have e3 : (at' bs q == 69) = false := beq_eq_false_iff_ne.2 (by omega)
      clear h10
      go_quiet (fail)
      go_wp2_with fail
      go_quiet (fail)
      go_wp2_with fail
      have hcv := fun m => (hr3.drewN m).conv p q (cap - p) hql
      have s1 : (p : Int) ≤ (q : Int) := by omega
      have s2 : (q : Int) ≤ (cap : Int) := by omega
      have s3 : ¬ cap = p := by omega
      go_quiet (fail)
      go_wp2_with fail
      go_ret
      exact ⟨rfl, ((hr3.drewN _).drewN _).drewN _, ((But.refl rb w).alloc _).trans (((hb3.drewN _).drewN _).drewN _)⟩
    · have c0 := hr3.c0
      have c1 := hr3.c1
      have f1 := hr3.free 1
      have cp := hb3.cell hc1 (by show w.heap.size ≠ rb; omega)
      have p0 : (0 : Int) ≤ (q : Int) := Int.natCast_nonneg _
      have p1 : decide ((q : Int) < (bs.length : Int)) = false := by simp; omega
      go_quiet (fail)
      go_wp2_with fail
      go_quiet (fail)
      go_wp2_with fail
      have hcv := fun m => (hr3.drewN m).conv p q (cap - p) hql
      have s1 : (p : Int) ≤ (q : Int) := by omega
      have s2 : (q : Int) ≤ (cap : Int) := by omega
      have s3 : ¬ cap = p := by omega
      go_quiet (fail)
      go_wp2_with fail
      go_ret
      exact ⟨rfl, ((hr3.drewN _).drewN _).drewN _, ((But.refl rb w).alloc _).trans (((hb3.drewN _).drewN _).drewN _)⟩
  · have e48 : (at' bs (p + 1) == 48) = false := beq_eq_false_iff_ne.2 hz0
    clear hz0
    go_quiet (fail)
    go_wp2_with fail
    refine (digits_any w.heap.size rb g cap bs (p + 1) q _ (hr2.drewN _) cp (by omega) (by omega) hql HD.out (fun hh => by have := HS.out hh; omega)).mono ?_
    rintro e w3 ⟨rfl, hr3, hb3'⟩
    have hb3 := (hb2.drewN _).trans hb3'
    have hne : (((q - (p + 1) : Nat) : Int) == 0) = false := beq_eq_false_iff_ne.2 (by omega)
    generalize ((q - (p + 1) : Nat) : Int) = dn at *
    clear c0 c1 f1 cp cb p0 p1 hbd e48 hr2 hb2 hb3'
    go_wp2_with fail
    clear hne
    by_cases hqlt : q < bs.length
    · have h10 := HS.out hqlt
      have c0 := hr3.c0
      have c1 := hr3.c1
      have f1 := hr3.free 1
      have cp := hb3.cell hc1 (by show w.heap.size ≠ rb; omega)
      have p0 : (0 : Int) ≤ (q : Int) := Int.natCast_nonneg _
      have cb := hr3.row q (by omega)
      have p1 : (q : Int) < (bs.length : Int) := by omega
      have hbd := at_bd bs q
      have e1 : (at' bs q == 46) = false := beq_eq_false_iff_ne.2 (by omega)
      have e2 : (at' bs q == 101) = false := beq_eq_false_iff_ne.2 (by omega)
      have e3 : (at' bs q == 69) = false := beq_eq_false_iff_ne.2 (by omega)
      clear h10
      go_quiet (fail)
      go_wp2_with fail
      go_quiet (fail)
      go_wp2_with fail
      have hcv := fun m => (hr3.drewN m).conv p q (cap - p) hql
      have s1 : (p : Int) ≤ (q : Int) := by omega
      have s2 : (q : Int) ≤ (cap : Int) := by omega
      have s3 : ¬ cap = p := by omega
      go_quiet (fail)
      go_wp2_with fail
      go_ret
      exact ⟨rfl, ((hr3.drewN _).drewN _).drewN _, ((But.refl rb w).alloc _).trans (((hb3.drewN _).drewN _).drewN _)⟩
    · have c0 := hr3.c0
      have c1 := hr3.c1
      have f1 := hr3.free 1
      have cp := hb3.cell hc1 (by show w.heap.size ≠ rb; omega)
      have p0 : (0 : Int) ≤ (q : Int) := Int.natCast_nonneg _
      have p1 : decide ((q : Int) < (bs.length : Int)) = false := by simp; omega
      go_quiet (fail)
      go_wp2_with fail
      go_quiet (fail)
      go_wp2_with fail
      have hcv := fun m => (hr3.drewN m).conv p q (cap - p) hql
      have s1 : (p : Int) ≤ (q : Int) := by omega
      have s2 : (q : Int) ≤ (cap : Int) := by omega
      have s3 : ¬ cap = p := by omega
      go_quiet (fail)
      go_wp2_with fail
      go_ret
      exact ⟨rfl, ((hr3.drewN _).drewN _).drewN _, ((But.refl rb w).alloc _).trans (((hb3.drewN _).drewN _).drewN _)⟩

set_option maxRecDepth 100000 in
set_option maxHeartbeats 3200000 in
theorem number_pos (rb g cap : Nat) (bs : List UInt8) (i p q : Nat) (w : World) (h : Rdr rb g cap bs i w) (hcap : bs.length ≤ cap) (hip : i ≤ p) (hpl : p < bs.length) (hws : ∀ k, i ≤ k → k < p → isWs (at' bs k)) (hnw : ¬ isWs (at' bs p))
    (hneg : at' bs p ≠ 45) (hdq : p < q) (hql : q ≤ bs.length) (hdg : ∀ k, p ≤ k → k < q → 48 ≤ at' bs k ∧ at' bs k ≤ 57) (hz : at' bs p = 48 → q = p + 1) (hst : q < bs.length → at' bs q = 10) :
    Calls Ybad.prog 10 #[.pointer (some ⟨rb, 0, none⟩)] w fun e w' => e = .returned (.string ⟨(cut bs p q).toArray⟩) ∧ Rdr rb g cap bs q w' ∧ But rb w w' := by
  have hlen := h.len
  have hmf : ∀ (fn : Fn) (first cp : Array Value) (w : World), (Instr.makeFunc fn first cp).run Ybad.prog w = .ok (.func fn first cp) w := fun _ _ _ _ => rfl
  have lrb := h.lt
  have lg : g < w.heap.size := World.block_lt_of_cell? w _ (h.row p hpl)
  have h1 : Rdr rb g cap bs i (w.alloc (.cells #[.pointer (some ⟨rb, 0, none⟩)] 24)) := h.but (Below.heap_alloc _ _ _ lrb) (Below.heap_alloc _ _ _ lg)
  have hc1 : (w.alloc (.cells #[.pointer (some ⟨rb, 0, none⟩)] 24)).cell? ⟨w.heap.size, 0, none⟩ = some (.pointer (some ⟨rb, 0, none⟩)) := by rw [cell_of_row _ _ _ _ _ _ (heap_alloc_new w _)]; rfl
  have HW : Hid _ := hws
  have HN : Hid _ := hneg
  have HD : Hid _ := hdg
  have HS : Hid _ := hst
  have HZ : Hid _ := hz
  have HR : Hid _ := h1
  clear hws hneg hdg hst hz h1 h
  go_enter Ybad.func10, Ybad.ntmps10
  go_wp2_with fail
  refine (skip_any rb g cap bs i p _ HR.out hip (by omega) HW.out (fun _ => hnw)).mono ?_
  rintro e w1 ⟨rfl, hr1, hb1⟩
  have hdec : decide (p < bs.length) = true := by simp [hpl]
  rw [hdec]
  clear hdec hnw
  have c0 := hr1.c0
  have c1 := hr1.c1
  have f1 := hr1.free 1
  have cp := hb1.cell hc1 (by show w.heap.size ≠ rb; omega)
  have p0 : (0 : Int) ≤ (p : Int) := Int.natCast_nonneg _
  have cb := hr1.row p (by omega)
  have p1 : (p : Int) < (bs.length : Int) := by omega
  have hbd := at_bd bs p
  have hn1 : (at' bs p == 45) = false := beq_eq_false_iff_ne.2 HN.out
  go_wp2_with fail
  go_quiet (fail)
  go_wp2_with fail
  generalize hW : World.drewN w1 _ = w2
  have hr2 : Rdr rb g cap bs p w2 := by rw [← hW]; exact hr1.drewN _
  have hb2 : But rb (w.alloc (.cells #[.pointer (some ⟨rb, 0, none⟩)] 24)) w2 := by rw [← hW]; exact hb1.drewN _
  clear hW
  clear c0 c1 f1 cp cb p0 p1 hbd hn1
  have c0 := hr2.c0
  have c1 := hr2.c1
  have f1 := hr2.free 1
  have cp := hb2.cell hc1 (by show w.heap.size ≠ rb; omega)
  have p0 : (0 : Int) ≤ (p : Int) := Int.natCast_nonneg _
  have cb := hr2.row p (by omega)
  have p1 : (p : Int) < (bs.length : Int) := by omega
  have hbd := at_bd bs p
  by_cases hz0 : at' bs p = 48
  · have hq1 := HZ.out hz0
    have e48 : (at' bs p == 48) = true := beq_iff_eq.2 hz0
    clear hz0
    go_quiet (fail)
    go_wp2_with fail
    generalize hW : World.setCell (World.drewN w2 _) _ _ = w3
    have hr3 : Rdr rb g cap bs q w3 := by rw [← hW]; exact (hr2.drewN _).moved q hql _ (by omega)
    have hb3 : But rb (w.alloc (.cells #[.pointer (some ⟨rb, 0, none⟩)] 24)) w3 := by rw [← hW]; exact (hb2.drewN _).setCell _ _
    clear hW c0 c1 f1 cp cb p0 p1 hbd e48 hr2 hb2 hq1
    by_cases hqlt : q < bs.length
    · have h10 := HS.out hqlt
      have c0 := hr3.c0
      have c1 := hr3.c1
      have f1 := hr3.free 1
      have cp := hb3.cell hc1 (by show w.heap.size ≠ rb; omega)
      have p0 : (0 : Int) ≤ (q : Int) := Int.natCast_nonneg _
      have cb := hr3.row q (by omega)
      have p1 : (q : Int) < (bs.length : Int) := by omega
      have hbd := at_bd bs q
      have e1 : (at' bs q == 46) = false := beq_eq_false_iff_ne.2 (by omega)
      have e2 : (at' bs q == 101) = false := beq_eq_false_iff_ne.2 (by omega)
      have e3 : (at' bs q == 69) = false := beq_eq_false_iff_ne.2 (by omega)
      clear h10
      go_quiet (fail)
      go_wp2_with fail
      go_quiet (fail)
      go_wp2_with fail
      have hcv := fun m => (hr3.drewN m).conv p q (cap - p) hql
      have s1 : (p : Int) ≤ (q : Int) := by omega
      have s2 : (q : Int) ≤ (cap : Int) := by omega
      have s3 : ¬ cap = p := by omega
      go_quiet (fail)
      go_wp2_with fail
      go_ret
      exact ⟨rfl, ((hr3.drewN _).drewN _).drewN _, ((But.refl rb w).alloc _).trans (((hb3.drewN _).drewN _).drewN _)⟩
    · have c0 := hr3.c0
      have c1 := hr3.c1
      have f1 := hr3.free 1
      have cp := hb3.cell hc1 (by show w.heap.size ≠ rb; omega)
      have p0 : (0 : Int) ≤ (q : Int) := Int.natCast_nonneg _
      have p1 : decide ((q : Int) < (bs.length : Int)) = false := by simp; omega
      go_quiet (fail)
      go_wp2_with fail
      go_quiet (fail)
      go_wp2_with fail
      have hcv := fun m => (hr3.drewN m).conv p q (cap - p) hql
      have s1 : (p : Int) ≤ (q : Int) := by omega
      have s2 : (q : Int) ≤ (cap : Int) := by omega
      have s3 : ¬ cap = p := by omega
      go_quiet (fail)
      go_wp2_with fail
      go_ret
      exact ⟨rfl, ((hr3.drewN _).drewN _).drewN _, ((But.refl rb w).alloc _).trans (((hb3.drewN _).drewN _).drewN _)⟩
  · have e48 : (at' bs p == 48) = false := beq_eq_false_iff_ne.2 hz0
    clear hz0
    go_quiet (fail)
    go_wp2_with fail
    refine (digits_any w.heap.size rb g cap bs p q _ (hr2.drewN _) cp (by omega) (by omega) hql HD.out (fun hh => by have := HS.out hh; omega)).mono ?_
    rintro e w3 ⟨rfl, hr3, hb3'⟩
    have hb3 := (hb2.drewN _).trans hb3'
    have hne : (((q - p : Nat) : Int) == 0) = false := beq_eq_false_iff_ne.2 (by omega)
    generalize ((q - p : Nat) : Int) = dn at *
    clear c0 c1 f1 cp cb p0 p1 hbd e48 hr2 hb2 hb3'
    go_wp2_with fail
    clear hne
    by_cases hqlt : q < bs.length
    · have h10 := HS.out hqlt
      have c0 := hr3.c0
      have c1 := hr3.c1
      have f1 := hr3.free 1
      have cp := hb3.cell hc1 (by show w.heap.size ≠ rb; omega)
      have p0 : (0 : Int) ≤ (q : Int) := Int.natCast_nonneg _
      have cb := hr3.row q (by omega)
      have p1 : (q : Int) < (bs.length : Int) := by omega
      have hbd := at_bd bs q
      have e1 : (at' bs q == 46) = false := beq_eq_false_iff_ne.2 (by omega)
      have e2 : (at' bs q == 101) = false := beq_eq_false_iff_ne.2 (by omega)
      have e3 : (at' bs q == 69) = false := beq_eq_false_iff_ne.2 (by omega)
      clear h10
      go_quiet (fail)
      go_wp2_with fail
      go_quiet (fail)
      go_wp2_with fail
      have hcv := fun m => (hr3.drewN m).conv p q (cap - p) hql
      have s1 : (p : Int) ≤ (q : Int) := by omega
      have s2 : (q : Int) ≤ (cap : Int) := by omega
      have s3 : ¬ cap = p := by omega
      go_quiet (fail)
      go_wp2_with fail
      go_ret
      exact ⟨rfl, ((hr3.drewN _).drewN _).drewN _, ((But.refl rb w).alloc _).trans (((hb3.drewN _).drewN _).drewN _)⟩
    · have c0 := hr3.c0
      have c1 := hr3.c1
      have f1 := hr3.free 1
      have cp := hb3.cell hc1 (by show w.heap.size ≠ rb; omega)
      have p0 : (0 : Int) ≤ (q : Int) := Int.natCast_nonneg _
      have p1 : decide ((q : Int) < (bs.length : Int)) = false := by simp; omega
      go_quiet (fail)
      go_wp2_with fail
      go_quiet (fail)
      go_wp2_with fail
      have hcv := fun m => (hr3.drewN m).conv p q (cap - p) hql
      have s1 : (p : Int) ≤ (q : Int) := by omega
      have s2 : (q : Int) ≤ (cap : Int) := by omega
      have s3 : ¬ cap = p := by omega
      go_quiet (fail)
      go_wp2_with fail
      go_ret
      exact ⟨rfl, ((hr3.drewN _).drewN _).drewN _, ((But.refl rb w).alloc _).trans (((hb3.drewN _).drewN _).drewN _)⟩
end Go.Proofs.YbulkcjhaDoor
