/-
  LawS4279BScript: a step of kind 0, 1 or 2.
-/
import Derived.Test.YbulkcjpcDoorRound
import Derived.Deep.RegionHeld3
namespace Go.Proofs.YbulkcjpcDoor
open Go.RowKit
set_option maxRecDepth 100000

set_option maxHeartbeats 64000000 in
theorem arm0 : rounds.1 0 := by
  intro n k ss w hn i0 hi hz0 hz1 hz2 HG HL HBD qg qo qk hq Q0 K0 hn' u2 u31 u32 u33 u34 u35 u36 u37 u38 u39 u40 u41 u42 u43 u44 u45 u46 u47 u48 u49 u50 j1 hj1 hlt1 hlt2 K2 wr u20 u21 u57 u58 u59 u60 u61 u62 u63 u64 u65 u66 u67 u68 u69 u70 u71 u72 u73 u74 u75 u76 u77 u78 u79 u80 u81 u82 u83 u84 u85 u86 u87 u88 u89 u90 u91 u92 u93 u94 u95 u96 u97 u98 u99 u100 u101 u102 u103 u104 u105 u106 u107 u108 u109 u110 u111 u112 u113 u114 u115 u116 u117 u118 u119 u120 u121 u122 u123 u124 u125 u126 u127 u128 u129 u130 u131 u132 u133 u134 u135 u136 u137 u138 u139 u140 u141 u142 u143 u144 u145 u146 u147 u148 u149 u150 u151 u152 u153 u154 u155 u156 u157 u158 u159 u160 u161 u162 u163 u164 u165 u166 u167 u168 u169 u170 u171 u172 u173 u174 u175 u176 u177 u178 u179 u180 u181 u182 u183 u184 u185 u186 u187 u188 u189 u190 j b0 b1 b2 b3 x0 x1 x2 x3 e f u hj HRS hlt hlt' hj0 g o HR hbl sop sk sv d0 d1 d2 HS o1 o2 k1 k2 v1 v2 hbW HG1 avs HROW HALL hbig hop
  have o0b : (sop % 7 == 0) = true := by rw [hop]; rfl
  have G1 := HG1.out
  have x0' := G1.g1.c0; have x1' := G1.g1.c1; have x2' := G1.g1.c2
  clear G1
  have em : mem ⟨sop, sk, sv⟩ = ⟨1028, 192, 10415, be4B sv⟩ := by simp [mem, hop]
  have EM : Hid (mem ⟨sop, sk, sv⟩ = ⟨1028, 192, 10415, be4B sv⟩) := em
  have EU : Hid (unk ⟨sop, sk, sv⟩ = false) := by show unk _ = _; simp [unk, hop]
  clear em
  have HF : Hid (f = decide (e ≠ 0) ∧ e = (runTo ss j).2.2.2.2) := ⟨HRS.out.hf, HRS.out.he⟩
  cases f with
  | true =>
    go_wp2_with fail
    refine (defU32_any 1028 10415 true sv v1 v2 _).mono ?_
    rintro e' y1 ⟨gg, cap, rfl, hn4⟩
    obtain ⟨g0, g1, g2, g3, q0, q1, q2, q3, hT⟩ := four_kept (heap_new2 wr _ _) hn4.below
    have hby : Below wr.heap.size wr y1 := hbW.trans (hn4.below.mono hbW.size)
    have hgg : w.heap.size + 1 + 1 + 1 < gg := Nat.lt_of_lt_of_le (Nat.lt_of_lt_of_le hbig hbW.size) hn4.ge
    have hT2 := (hn4.below.block wr.heap.size (by simp; omega)).trans ((Below.heap_alloc _ _ _ (by simp)).trans (heap_alloc_new wr _))
    have c2y : y1.cell? ⟨wr.heap.size, 2, none⟩ = some (.int .u32 sv) := by rw [cell_of_row _ _ _ _ _ _ hT2]; rfl
    have hne : ∀ q : Addr, (some ⟨gg, 0, none⟩ : Option Addr) = some q → q.block ≠ wr.heap.size + 1 := fun q hq => by cases hq; have := hn4.ge; simp at this ⊢; omega
    have MM : Mem wr ((((y1.setCell ⟨wr.heap.size + 1, 0, none⟩ (.int .u32 1028)).setCell ⟨wr.heap.size + 1, 1, none⟩ (.int .u8 (flagsOf 10415 true))).setCell ⟨wr.heap.size + 1, 2, none⟩ (.int .u32 10415)).setCell ⟨wr.heap.size + 1, 3, none⟩ (.slice (some ⟨gg, 0, none⟩) 4 cap)) (wr.heap.size + 1) (w.heap.size + 1 + 1 + 1) ⟨1028, flagsOf 10415 true, 10415, some ⟨gg, 0, none⟩, 4, cap⟩ (be4B sv) :=
      ⟨below4 hby (by omega), set4 hT, (((hn4.by4.setCell _ _ hne).setCell _ _ hne).setCell _ _ hne).setCell _ _ hne, fun q hq => by cases hq; simp; omega⟩
    clear hT hT2 hn4 hne hby x0' x1' x2'
    go_upto_region 76 with fail
    refine at_world (fun Y => Mem wr Y (wr.heap.size + 1) (w.heap.size + 1 + 1 + 1) ⟨1028, flagsOf 10415 true, 10415, some ⟨gg, 0, none⟩, 4, cap⟩ (be4B sv)) ?_ (by first | exact MM | exact MM.drewN _ | exact MM.drew)
    intro Y hY
    clear MM
    have t0 : Y.cell? ⟨wr.heap.size + 1, 0, none⟩ = some (.int .u32 (⟨1028, flagsOf 10415 true, 10415, some ⟨gg, 0, none⟩, 4, cap⟩ : Av).c) := by rw [cell_of_row _ _ _ _ _ _ hY.lies]; rfl
    have t1 : Y.cell? ⟨wr.heap.size + 1, 1, none⟩ = some (.int .u8 (⟨1028, flagsOf 10415 true, 10415, some ⟨gg, 0, none⟩, 4, cap⟩ : Av).f) := by rw [cell_of_row _ _ _ _ _ _ hY.lies]; rfl
    have t2 : Y.cell? ⟨wr.heap.size + 1, 2, none⟩ = some (.int .u32 (⟨1028, flagsOf 10415 true, 10415, some ⟨gg, 0, none⟩, 4, cap⟩ : Av).v) := by rw [cell_of_row _ _ _ _ _ _ hY.lies]; rfl
    have t3 : Y.cell? ⟨wr.heap.size + 1, 3, none⟩ = some (.slice (⟨1028, flagsOf 10415 true, 10415, some ⟨gg, 0, none⟩, 4, cap⟩ : Av).p (⟨1028, flagsOf 10415 true, 10415, some ⟨gg, 0, none⟩, 4, cap⟩ : Av).n (⟨1028, flagsOf 10415 true, 10415, some ⟨gg, 0, none⟩, 4, cap⟩ : Av).k) := by rw [cell_of_row _ _ _ _ _ _ hY.lies]; rfl
    simp only at t0 t1 t2 t3
    go_wp2_with (at_builtin; refine wpList_append_fits _ rfl _ _ 28 rfl 0 32 i0 4 Ybad.underlying28 hi hz1 (w.heap.size + 1 + 1 + 1) j n (avs.flatMap Av.cells) rfl (own_below HROW.out (hY.below.alloc hY.below.size _)) ⟨Y.heap.size, 0, none⟩ 1 1 (Av.cells ⟨1028, flagsOf 10415 true, 10415, some ⟨gg, 0, none⟩, 4, cap⟩) rfl rfl ?c1 ?c2 ?c3 ?_)
    case c1 => first | exact fun j u h => h | exact World.news_of_block (cs := (Av.cells ⟨1028, flagsOf 10415 true, 10415, some ⟨gg, 0, none⟩, 4, cap⟩).toArray) (t := 32) (fr := (0, 0)) (heap_alloc_new Y _)
    case c2 => simp [Av.cells, Value.oneCell']
    case c3 => omega
    intro Z hownZ hgrowZ
    clear t0 t1 t2 t3
    go_wp2_with fail
    go_roundw
    case rel =>
      refine ⟨j + 1, b0, b1, b2, b3, x0, x1, x2, x3, e, true, u, rfl, rfl, rfl, rfl, rfl, rfl, rfl, rfl, rfl, rfl, rfl, rfl, by go_num, by omega, ?_⟩
      have hrs := HRS.out
      exact rs_next hrs HS.out HALL.out (a := ⟨1028, flagsOf 10415 true, 10415, some ⟨gg, 0, none⟩, 4, cap⟩) (but_of hY.below hgrowZ) hownZ (dat_of hY hgrowZ (by rw [EM.out]) (by rw [EM.out]; rfl) (by rw [EM.out]) (by rw [EM.out]) (by simp) (by simp [flagsOf]) (by simp)) (runTo ss j) (by have h := HF.out; have h1 : (runTo ss j).2.2.2.2 ≠ 0 := (by rw [← h.2]; simpa using h.1.symm); rw [mstep, if_pos h1]) hrs.s0 hrs.s1 hrs.s2 hrs.s3 hrs.he hrs.hf (by rw [EU.out]; simp)
    case measure => simp [intOf]; omega
  | false =>
    go_wp2_with fail
    refine (defU32_any 1028 10415 true sv v1 v2 _).mono ?_
    rintro e' y1 ⟨gg, cap, rfl, hn4⟩
    obtain ⟨g0, g1, g2, g3, q0, q1, q2, q3, hT⟩ := four_kept (heap_new2 wr _ _) hn4.below
    have hby : Below wr.heap.size wr y1 := hbW.trans (hn4.below.mono hbW.size)
    have hgg : w.heap.size + 1 + 1 + 1 < gg := Nat.lt_of_lt_of_le (Nat.lt_of_lt_of_le hbig hbW.size) hn4.ge
    have hT2 := (hn4.below.block wr.heap.size (by simp; omega)).trans ((Below.heap_alloc _ _ _ (by simp)).trans (heap_alloc_new wr _))
    have c2y : y1.cell? ⟨wr.heap.size, 2, none⟩ = some (.int .u32 sv) := by rw [cell_of_row _ _ _ _ _ _ hT2]; rfl
    have hne : ∀ q : Addr, (some ⟨gg, 0, none⟩ : Option Addr) = some q → q.block ≠ wr.heap.size + 1 := fun q hq => by cases hq; have := hn4.ge; simp at this ⊢; omega
    have MM : Mem wr ((((y1.setCell ⟨wr.heap.size + 1, 0, none⟩ (.int .u32 1028)).setCell ⟨wr.heap.size + 1, 1, none⟩ (.int .u8 (flagsOf 10415 true))).setCell ⟨wr.heap.size + 1, 2, none⟩ (.int .u32 10415)).setCell ⟨wr.heap.size + 1, 3, none⟩ (.slice (some ⟨gg, 0, none⟩) 4 cap)) (wr.heap.size + 1) (w.heap.size + 1 + 1 + 1) ⟨1028, flagsOf 10415 true, 10415, some ⟨gg, 0, none⟩, 4, cap⟩ (be4B sv) :=
      ⟨below4 hby (by omega), set4 hT, (((hn4.by4.setCell _ _ hne).setCell _ _ hne).setCell _ _ hne).setCell _ _ hne, fun q hq => by cases hq; simp; omega⟩
    clear hT hT2 hn4 hne hby x0' x1' x2'
    go_upto_region 28 with fail
    go_quiet (fail)
    go_upto_region 76 with fail
    refine at_world (fun Y => Mem wr Y (wr.heap.size + 1) (w.heap.size + 1 + 1 + 1) ⟨1028, flagsOf 10415 true, 10415, some ⟨gg, 0, none⟩, 4, cap⟩ (be4B sv)) ?_ (by first | exact MM | exact MM.drewN _ | exact MM.drew)
    intro Y hY
    clear MM
    have t0 : Y.cell? ⟨wr.heap.size + 1, 0, none⟩ = some (.int .u32 (⟨1028, flagsOf 10415 true, 10415, some ⟨gg, 0, none⟩, 4, cap⟩ : Av).c) := by rw [cell_of_row _ _ _ _ _ _ hY.lies]; rfl
    have t1 : Y.cell? ⟨wr.heap.size + 1, 1, none⟩ = some (.int .u8 (⟨1028, flagsOf 10415 true, 10415, some ⟨gg, 0, none⟩, 4, cap⟩ : Av).f) := by rw [cell_of_row _ _ _ _ _ _ hY.lies]; rfl
    have t2 : Y.cell? ⟨wr.heap.size + 1, 2, none⟩ = some (.int .u32 (⟨1028, flagsOf 10415 true, 10415, some ⟨gg, 0, none⟩, 4, cap⟩ : Av).v) := by rw [cell_of_row _ _ _ _ _ _ hY.lies]; rfl
    have t3 : Y.cell? ⟨wr.heap.size + 1, 3, none⟩ = some (.slice (⟨1028, flagsOf 10415 true, 10415, some ⟨gg, 0, none⟩, 4, cap⟩ : Av).p (⟨1028, flagsOf 10415 true, 10415, some ⟨gg, 0, none⟩, 4, cap⟩ : Av).n (⟨1028, flagsOf 10415 true, 10415, some ⟨gg, 0, none⟩, 4, cap⟩ : Av).k) := by rw [cell_of_row _ _ _ _ _ _ hY.lies]; rfl
    simp only at t0 t1 t2 t3
    go_wp2_with (at_builtin; refine wpList_append_fits _ rfl _ _ 28 rfl 0 32 i0 4 Ybad.underlying28 hi hz1 (w.heap.size + 1 + 1 + 1) j n (avs.flatMap Av.cells) rfl (own_below HROW.out (hY.below.alloc hY.below.size _)) ⟨Y.heap.size, 0, none⟩ 1 1 (Av.cells ⟨1028, flagsOf 10415 true, 10415, some ⟨gg, 0, none⟩, 4, cap⟩) rfl rfl ?c1 ?c2 ?c3 ?_)
    case c1 => first | exact fun j u h => h | exact World.news_of_block (cs := (Av.cells ⟨1028, flagsOf 10415 true, 10415, some ⟨gg, 0, none⟩, 4, cap⟩).toArray) (t := 32) (fr := (0, 0)) (heap_alloc_new Y _)
    case c2 => simp [Av.cells, Value.oneCell']
    case c3 => omega
    intro Z hownZ hgrowZ
    clear t0 t1 t2 t3
    go_wp2_with fail
    go_roundw
    case rel =>
      refine ⟨j + 1, true, b1, b2, b3, sv, x1, x2, x3, e, false, u, rfl, rfl, rfl, rfl, rfl, rfl, rfl, rfl, rfl, rfl, rfl, rfl, by go_num, by omega, ?_⟩
      have hrs := HRS.out
      exact rs_next hrs HS.out HALL.out (a := ⟨1028, flagsOf 10415 true, 10415, some ⟨gg, 0, none⟩, 4, cap⟩) (but_of hY.below hgrowZ) hownZ (dat_of hY hgrowZ (by rw [EM.out]) (by rw [EM.out]; rfl) (by rw [EM.out]) (by rw [EM.out]) (by simp) (by simp [flagsOf]) (by simp)) (some sv, (runTo ss j).2.1, (runTo ss j).2.2.1, (runTo ss j).2.2.2.1, 0) (by have h := HF.out; have h0 : (runTo ss j).2.2.2.2 = 0 := (by rw [← h.2]; simpa using h.1.symm); simp [mstep, h0, hop]) (.inr ⟨rfl, rfl⟩) hrs.s1 hrs.s2 hrs.s3 (by have h := HF.out; simpa using h.1.symm) (by have h := HF.out; exact h.1) (by rw [EU.out]; simp)
    case measure => simp [intOf]; omega

set_option maxHeartbeats 64000000 in
theorem arm1 : rounds.1 1 := by
  intro n k ss w hn i0 hi hz0 hz1 hz2 HG HL HBD qg qo qk hq Q0 K0 hn' u2 u31 u32 u33 u34 u35 u36 u37 u38 u39 u40 u41 u42 u43 u44 u45 u46 u47 u48 u49 u50 j1 hj1 hlt1 hlt2 K2 wr u20 u21 u57 u58 u59 u60 u61 u62 u63 u64 u65 u66 u67 u68 u69 u70 u71 u72 u73 u74 u75 u76 u77 u78 u79 u80 u81 u82 u83 u84 u85 u86 u87 u88 u89 u90 u91 u92 u93 u94 u95 u96 u97 u98 u99 u100 u101 u102 u103 u104 u105 u106 u107 u108 u109 u110 u111 u112 u113 u114 u115 u116 u117 u118 u119 u120 u121 u122 u123 u124 u125 u126 u127 u128 u129 u130 u131 u132 u133 u134 u135 u136 u137 u138 u139 u140 u141 u142 u143 u144 u145 u146 u147 u148 u149 u150 u151 u152 u153 u154 u155 u156 u157 u158 u159 u160 u161 u162 u163 u164 u165 u166 u167 u168 u169 u170 u171 u172 u173 u174 u175 u176 u177 u178 u179 u180 u181 u182 u183 u184 u185 u186 u187 u188 u189 u190 j b0 b1 b2 b3 x0 x1 x2 x3 e f u hj HRS hlt hlt' hj0 g o HR hbl sop sk sv d0 d1 d2 HS o1 o2 k1 k2 v1 v2 hbW HG1 avs HROW HALL hbig hop
  have o0b : (sop % 7 == 0) = false := by rw [hop]; rfl
  have o1b : (sop % 7 == 1) = true := by rw [hop]; rfl
  have G1 := HG1.out
  have x0' := G1.g2.c0; have x1' := G1.g2.c1; have x2' := G1.g2.c2
  clear G1
  have em : mem ⟨sop, sk, sv⟩ = ⟨515, 192, 10415, be4B sv⟩ := by simp [mem, hop]
  have EM : Hid (mem ⟨sop, sk, sv⟩ = ⟨515, 192, 10415, be4B sv⟩) := em
  have EU : Hid (unk ⟨sop, sk, sv⟩ = false) := by show unk _ = _; simp [unk, hop]
  clear em
  have HF : Hid (f = decide (e ≠ 0) ∧ e = (runTo ss j).2.2.2.2) := ⟨HRS.out.hf, HRS.out.he⟩
  cases f with
  | true =>
    go_wp2_with fail
    refine (defU32_any 515 10415 true sv v1 v2 _).mono ?_
    rintro e' y1 ⟨gg, cap, rfl, hn4⟩
    obtain ⟨g0, g1, g2, g3, q0, q1, q2, q3, hT⟩ := four_kept (heap_new2 wr _ _) hn4.below
    have hby : Below wr.heap.size wr y1 := hbW.trans (hn4.below.mono hbW.size)
    have hgg : w.heap.size + 1 + 1 + 1 < gg := Nat.lt_of_lt_of_le (Nat.lt_of_lt_of_le hbig hbW.size) hn4.ge
    have hT2 := (hn4.below.block wr.heap.size (by simp; omega)).trans ((Below.heap_alloc _ _ _ (by simp)).trans (heap_alloc_new wr _))
    have c2y : y1.cell? ⟨wr.heap.size, 2, none⟩ = some (.int .u32 sv) := by rw [cell_of_row _ _ _ _ _ _ hT2]; rfl
    have hne : ∀ q : Addr, (some ⟨gg, 0, none⟩ : Option Addr) = some q → q.block ≠ wr.heap.size + 1 := fun q hq => by cases hq; have := hn4.ge; simp at this ⊢; omega
    have MM : Mem wr ((((y1.setCell ⟨wr.heap.size + 1, 0, none⟩ (.int .u32 515)).setCell ⟨wr.heap.size + 1, 1, none⟩ (.int .u8 (flagsOf 10415 true))).setCell ⟨wr.heap.size + 1, 2, none⟩ (.int .u32 10415)).setCell ⟨wr.heap.size + 1, 3, none⟩ (.slice (some ⟨gg, 0, none⟩) 4 cap)) (wr.heap.size + 1) (w.heap.size + 1 + 1 + 1) ⟨515, flagsOf 10415 true, 10415, some ⟨gg, 0, none⟩, 4, cap⟩ (be4B sv) :=
      ⟨below4 hby (by omega), set4 hT, (((hn4.by4.setCell _ _ hne).setCell _ _ hne).setCell _ _ hne).setCell _ _ hne, fun q hq => by cases hq; simp; omega⟩
    clear hT hT2 hn4 hne hby x0' x1' x2'
    go_upto_region 76 with fail
    refine at_world (fun Y => Mem wr Y (wr.heap.size + 1) (w.heap.size + 1 + 1 + 1) ⟨515, flagsOf 10415 true, 10415, some ⟨gg, 0, none⟩, 4, cap⟩ (be4B sv)) ?_ (by first | exact MM | exact MM.drewN _ | exact MM.drew)
    intro Y hY
    clear MM
    have t0 : Y.cell? ⟨wr.heap.size + 1, 0, none⟩ = some (.int .u32 (⟨515, flagsOf 10415 true, 10415, some ⟨gg, 0, none⟩, 4, cap⟩ : Av).c) := by rw [cell_of_row _ _ _ _ _ _ hY.lies]; rfl
    have t1 : Y.cell? ⟨wr.heap.size + 1, 1, none⟩ = some (.int .u8 (⟨515, flagsOf 10415 true, 10415, some ⟨gg, 0, none⟩, 4, cap⟩ : Av).f) := by rw [cell_of_row _ _ _ _ _ _ hY.lies]; rfl
    have t2 : Y.cell? ⟨wr.heap.size + 1, 2, none⟩ = some (.int .u32 (⟨515, flagsOf 10415 true, 10415, some ⟨gg, 0, none⟩, 4, cap⟩ : Av).v) := by rw [cell_of_row _ _ _ _ _ _ hY.lies]; rfl
    have t3 : Y.cell? ⟨wr.heap.size + 1, 3, none⟩ = some (.slice (⟨515, flagsOf 10415 true, 10415, some ⟨gg, 0, none⟩, 4, cap⟩ : Av).p (⟨515, flagsOf 10415 true, 10415, some ⟨gg, 0, none⟩, 4, cap⟩ : Av).n (⟨515, flagsOf 10415 true, 10415, some ⟨gg, 0, none⟩, 4, cap⟩ : Av).k) := by rw [cell_of_row _ _ _ _ _ _ hY.lies]; rfl
    simp only at t0 t1 t2 t3
    go_wp2_with (at_builtin; refine wpList_append_fits _ rfl _ _ 28 rfl 0 32 i0 4 Ybad.underlying28 hi hz1 (w.heap.size + 1 + 1 + 1) j n (avs.flatMap Av.cells) rfl (own_below HROW.out (hY.below.alloc hY.below.size _)) ⟨Y.heap.size, 0, none⟩ 1 1 (Av.cells ⟨515, flagsOf 10415 true, 10415, some ⟨gg, 0, none⟩, 4, cap⟩) rfl rfl ?c1 ?c2 ?c3 ?_)
    case c1 => first | exact fun j u h => h | exact World.news_of_block (cs := (Av.cells ⟨515, flagsOf 10415 true, 10415, some ⟨gg, 0, none⟩, 4, cap⟩).toArray) (t := 32) (fr := (0, 0)) (heap_alloc_new Y _)
    case c2 => simp [Av.cells, Value.oneCell']
    case c3 => omega
    intro Z hownZ hgrowZ
    clear t0 t1 t2 t3
    go_wp2_with fail
    go_roundw
    case rel =>
      refine ⟨j + 1, b0, b1, b2, b3, x0, x1, x2, x3, e, true, u, rfl, rfl, rfl, rfl, rfl, rfl, rfl, rfl, rfl, rfl, rfl, rfl, by go_num, by omega, ?_⟩
      have hrs := HRS.out
      exact rs_next hrs HS.out HALL.out (a := ⟨515, flagsOf 10415 true, 10415, some ⟨gg, 0, none⟩, 4, cap⟩) (but_of hY.below hgrowZ) hownZ (dat_of hY hgrowZ (by rw [EM.out]) (by rw [EM.out]; rfl) (by rw [EM.out]) (by rw [EM.out]) (by simp) (by simp [flagsOf]) (by simp)) (runTo ss j) (by have h := HF.out; have h1 : (runTo ss j).2.2.2.2 ≠ 0 := (by rw [← h.2]; simpa using h.1.symm); rw [mstep, if_pos h1]) hrs.s0 hrs.s1 hrs.s2 hrs.s3 hrs.he hrs.hf (by rw [EU.out]; simp)
    case measure => simp [intOf]; omega
  | false =>
    go_wp2_with fail
    refine (defU32_any 515 10415 true sv v1 v2 _).mono ?_
    rintro e' y1 ⟨gg, cap, rfl, hn4⟩
    obtain ⟨g0, g1, g2, g3, q0, q1, q2, q3, hT⟩ := four_kept (heap_new2 wr _ _) hn4.below
    have hby : Below wr.heap.size wr y1 := hbW.trans (hn4.below.mono hbW.size)
    have hgg : w.heap.size + 1 + 1 + 1 < gg := Nat.lt_of_lt_of_le (Nat.lt_of_lt_of_le hbig hbW.size) hn4.ge
    have hT2 := (hn4.below.block wr.heap.size (by simp; omega)).trans ((Below.heap_alloc _ _ _ (by simp)).trans (heap_alloc_new wr _))
    have c2y : y1.cell? ⟨wr.heap.size, 2, none⟩ = some (.int .u32 sv) := by rw [cell_of_row _ _ _ _ _ _ hT2]; rfl
    have hne : ∀ q : Addr, (some ⟨gg, 0, none⟩ : Option Addr) = some q → q.block ≠ wr.heap.size + 1 := fun q hq => by cases hq; have := hn4.ge; simp at this ⊢; omega
    have MM : Mem wr ((((y1.setCell ⟨wr.heap.size + 1, 0, none⟩ (.int .u32 515)).setCell ⟨wr.heap.size + 1, 1, none⟩ (.int .u8 (flagsOf 10415 true))).setCell ⟨wr.heap.size + 1, 2, none⟩ (.int .u32 10415)).setCell ⟨wr.heap.size + 1, 3, none⟩ (.slice (some ⟨gg, 0, none⟩) 4 cap)) (wr.heap.size + 1) (w.heap.size + 1 + 1 + 1) ⟨515, flagsOf 10415 true, 10415, some ⟨gg, 0, none⟩, 4, cap⟩ (be4B sv) :=
      ⟨below4 hby (by omega), set4 hT, (((hn4.by4.setCell _ _ hne).setCell _ _ hne).setCell _ _ hne).setCell _ _ hne, fun q hq => by cases hq; simp; omega⟩
    clear hT hT2 hn4 hne hby x0' x1' x2'
    go_upto_region 32 with fail
    go_quiet (fail)
    go_upto_region 76 with fail
    refine at_world (fun Y => Mem wr Y (wr.heap.size + 1) (w.heap.size + 1 + 1 + 1) ⟨515, flagsOf 10415 true, 10415, some ⟨gg, 0, none⟩, 4, cap⟩ (be4B sv)) ?_ (by first | exact MM | exact MM.drewN _ | exact MM.drew)
    intro Y hY
    clear MM
    have t0 : Y.cell? ⟨wr.heap.size + 1, 0, none⟩ = some (.int .u32 (⟨515, flagsOf 10415 true, 10415, some ⟨gg, 0, none⟩, 4, cap⟩ : Av).c) := by rw [cell_of_row _ _ _ _ _ _ hY.lies]; rfl
    have t1 : Y.cell? ⟨wr.heap.size + 1, 1, none⟩ = some (.int .u8 (⟨515, flagsOf 10415 true, 10415, some ⟨gg, 0, none⟩, 4, cap⟩ : Av).f) := by rw [cell_of_row _ _ _ _ _ _ hY.lies]; rfl
    have t2 : Y.cell? ⟨wr.heap.size + 1, 2, none⟩ = some (.int .u32 (⟨515, flagsOf 10415 true, 10415, some ⟨gg, 0, none⟩, 4, cap⟩ : Av).v) := by rw [cell_of_row _ _ _ _ _ _ hY.lies]; rfl
    have t3 : Y.cell? ⟨wr.heap.size + 1, 3, none⟩ = some (.slice (⟨515, flagsOf 10415 true, 10415, some ⟨gg, 0, none⟩, 4, cap⟩ : Av).p (⟨515, flagsOf 10415 true, 10415, some ⟨gg, 0, none⟩, 4, cap⟩ : Av).n (⟨515, flagsOf 10415 true, 10415, some ⟨gg, 0, none⟩, 4, cap⟩ : Av).k) := by rw [cell_of_row _ _ _ _ _ _ hY.lies]; rfl
    simp only at t0 t1 t2 t3
    go_wp2_with (at_builtin; refine wpList_append_fits _ rfl _ _ 28 rfl 0 32 i0 4 Ybad.underlying28 hi hz1 (w.heap.size + 1 + 1 + 1) j n (avs.flatMap Av.cells) rfl (own_below HROW.out (hY.below.alloc hY.below.size _)) ⟨Y.heap.size, 0, none⟩ 1 1 (Av.cells ⟨515, flagsOf 10415 true, 10415, some ⟨gg, 0, none⟩, 4, cap⟩) rfl rfl ?c1 ?c2 ?c3 ?_)
    case c1 => first | exact fun j u h => h | exact World.news_of_block (cs := (Av.cells ⟨515, flagsOf 10415 true, 10415, some ⟨gg, 0, none⟩, 4, cap⟩).toArray) (t := 32) (fr := (0, 0)) (heap_alloc_new Y _)
    case c2 => simp [Av.cells, Value.oneCell']
    case c3 => omega
    intro Z hownZ hgrowZ
    clear t0 t1 t2 t3
    go_wp2_with fail
    go_roundw
    case rel =>
      refine ⟨j + 1, b0, true, b2, b3, x0, sv, x2, x3, e, false, u, rfl, rfl, rfl, rfl, rfl, rfl, rfl, rfl, rfl, rfl, rfl, rfl, by go_num, by omega, ?_⟩
      have hrs := HRS.out
      exact rs_next hrs HS.out HALL.out (a := ⟨515, flagsOf 10415 true, 10415, some ⟨gg, 0, none⟩, 4, cap⟩) (but_of hY.below hgrowZ) hownZ (dat_of hY hgrowZ (by rw [EM.out]) (by rw [EM.out]; rfl) (by rw [EM.out]) (by rw [EM.out]) (by simp) (by simp [flagsOf]) (by simp)) ((runTo ss j).1, some sv, (runTo ss j).2.2.1, (runTo ss j).2.2.2.1, 0) (by have h := HF.out; have h0 : (runTo ss j).2.2.2.2 = 0 := (by rw [← h.2]; simpa using h.1.symm); simp [mstep, h0, hop]) hrs.s0 (.inr ⟨rfl, rfl⟩) hrs.s2 hrs.s3 (by have h := HF.out; simpa using h.1.symm) (by have h := HF.out; exact h.1) (by rw [EU.out]; simp)
    case measure => simp [intOf]; omega

set_option maxHeartbeats 64000000 in
theorem arm2 : rounds.1 2 := by
  intro n k ss w hn i0 hi hz0 hz1 hz2 HG HL HBD qg qo qk hq Q0 K0 hn' u2 u31 u32 u33 u34 u35 u36 u37 u38 u39 u40 u41 u42 u43 u44 u45 u46 u47 u48 u49 u50 j1 hj1 hlt1 hlt2 K2 wr u20 u21 u57 u58 u59 u60 u61 u62 u63 u64 u65 u66 u67 u68 u69 u70 u71 u72 u73 u74 u75 u76 u77 u78 u79 u80 u81 u82 u83 u84 u85 u86 u87 u88 u89 u90 u91 u92 u93 u94 u95 u96 u97 u98 u99 u100 u101 u102 u103 u104 u105 u106 u107 u108 u109 u110 u111 u112 u113 u114 u115 u116 u117 u118 u119 u120 u121 u122 u123 u124 u125 u126 u127 u128 u129 u130 u131 u132 u133 u134 u135 u136 u137 u138 u139 u140 u141 u142 u143 u144 u145 u146 u147 u148 u149 u150 u151 u152 u153 u154 u155 u156 u157 u158 u159 u160 u161 u162 u163 u164 u165 u166 u167 u168 u169 u170 u171 u172 u173 u174 u175 u176 u177 u178 u179 u180 u181 u182 u183 u184 u185 u186 u187 u188 u189 u190 j b0 b1 b2 b3 x0 x1 x2 x3 e f u hj HRS hlt hlt' hj0 g o HR hbl sop sk sv d0 d1 d2 HS o1 o2 k1 k2 v1 v2 hbW HG1 avs HROW HALL hbig hop
  have o0b : (sop % 7 == 0) = false := by rw [hop]; rfl
  have o1b : (sop % 7 == 1) = false := by rw [hop]; rfl
  have o2b : (sop % 7 == 2) = true := by rw [hop]; rfl
  have G1 := HG1.out
  have x0' := G1.g3.c0; have x1' := G1.g3.c1; have x2' := G1.g3.c2
  clear G1
  have em : mem ⟨sop, sk, sv⟩ = ⟨1025, 192, 10415, be4B sv⟩ := by simp [mem, hop]
  have EM : Hid (mem ⟨sop, sk, sv⟩ = ⟨1025, 192, 10415, be4B sv⟩) := em
  have EU : Hid (unk ⟨sop, sk, sv⟩ = false) := by show unk _ = _; simp [unk, hop]
  clear em
  have HF : Hid (f = decide (e ≠ 0) ∧ e = (runTo ss j).2.2.2.2) := ⟨HRS.out.hf, HRS.out.he⟩
  cases f with
  | true =>
    go_wp2_with fail
    refine (defU32_any 1025 10415 true sv v1 v2 _).mono ?_
    rintro e' y1 ⟨gg, cap, rfl, hn4⟩
    obtain ⟨g0, g1, g2, g3, q0, q1, q2, q3, hT⟩ := four_kept (heap_new2 wr _ _) hn4.below
    have hby : Below wr.heap.size wr y1 := hbW.trans (hn4.below.mono hbW.size)
    have hgg : w.heap.size + 1 + 1 + 1 < gg := Nat.lt_of_lt_of_le (Nat.lt_of_lt_of_le hbig hbW.size) hn4.ge
    have hT2 := (hn4.below.block wr.heap.size (by simp; omega)).trans ((Below.heap_alloc _ _ _ (by simp)).trans (heap_alloc_new wr _))
    have c2y : y1.cell? ⟨wr.heap.size, 2, none⟩ = some (.int .u32 sv) := by rw [cell_of_row _ _ _ _ _ _ hT2]; rfl
    have hne : ∀ q : Addr, (some ⟨gg, 0, none⟩ : Option Addr) = some q → q.block ≠ wr.heap.size + 1 := fun q hq => by cases hq; have := hn4.ge; simp at this ⊢; omega
    have MM : Mem wr ((((y1.setCell ⟨wr.heap.size + 1, 0, none⟩ (.int .u32 1025)).setCell ⟨wr.heap.size + 1, 1, none⟩ (.int .u8 (flagsOf 10415 true))).setCell ⟨wr.heap.size + 1, 2, none⟩ (.int .u32 10415)).setCell ⟨wr.heap.size + 1, 3, none⟩ (.slice (some ⟨gg, 0, none⟩) 4 cap)) (wr.heap.size + 1) (w.heap.size + 1 + 1 + 1) ⟨1025, flagsOf 10415 true, 10415, some ⟨gg, 0, none⟩, 4, cap⟩ (be4B sv) :=
      ⟨below4 hby (by omega), set4 hT, (((hn4.by4.setCell _ _ hne).setCell _ _ hne).setCell _ _ hne).setCell _ _ hne, fun q hq => by cases hq; simp; omega⟩
    clear hT hT2 hn4 hne hby x0' x1' x2'
    go_upto_region 76 with fail
    refine at_world (fun Y => Mem wr Y (wr.heap.size + 1) (w.heap.size + 1 + 1 + 1) ⟨1025, flagsOf 10415 true, 10415, some ⟨gg, 0, none⟩, 4, cap⟩ (be4B sv)) ?_ (by first | exact MM | exact MM.drewN _ | exact MM.drew)
    intro Y hY
    clear MM
    have t0 : Y.cell? ⟨wr.heap.size + 1, 0, none⟩ = some (.int .u32 (⟨1025, flagsOf 10415 true, 10415, some ⟨gg, 0, none⟩, 4, cap⟩ : Av).c) := by rw [cell_of_row _ _ _ _ _ _ hY.lies]; rfl
    have t1 : Y.cell? ⟨wr.heap.size + 1, 1, none⟩ = some (.int .u8 (⟨1025, flagsOf 10415 true, 10415, some ⟨gg, 0, none⟩, 4, cap⟩ : Av).f) := by rw [cell_of_row _ _ _ _ _ _ hY.lies]; rfl
    have t2 : Y.cell? ⟨wr.heap.size + 1, 2, none⟩ = some (.int .u32 (⟨1025, flagsOf 10415 true, 10415, some ⟨gg, 0, none⟩, 4, cap⟩ : Av).v) := by rw [cell_of_row _ _ _ _ _ _ hY.lies]; rfl
    have t3 : Y.cell? ⟨wr.heap.size + 1, 3, none⟩ = some (.slice (⟨1025, flagsOf 10415 true, 10415, some ⟨gg, 0, none⟩, 4, cap⟩ : Av).p (⟨1025, flagsOf 10415 true, 10415, some ⟨gg, 0, none⟩, 4, cap⟩ : Av).n (⟨1025, flagsOf 10415 true, 10415, some ⟨gg, 0, none⟩, 4, cap⟩ : Av).k) := by rw [cell_of_row _ _ _ _ _ _ hY.lies]; rfl
    simp only at t0 t1 t2 t3
    go_wp2_with (at_builtin; refine wpList_append_fits _ rfl _ _ 28 rfl 0 32 i0 4 Ybad.underlying28 hi hz1 (w.heap.size + 1 + 1 + 1) j n (avs.flatMap Av.cells) rfl (own_below HROW.out (hY.below.alloc hY.below.size _)) ⟨Y.heap.size, 0, none⟩ 1 1 (Av.cells ⟨1025, flagsOf 10415 true, 10415, some ⟨gg, 0, none⟩, 4, cap⟩) rfl rfl ?c1 ?c2 ?c3 ?_)
    case c1 => first | exact fun j u h => h | exact World.news_of_block (cs := (Av.cells ⟨1025, flagsOf 10415 true, 10415, some ⟨gg, 0, none⟩, 4, cap⟩).toArray) (t := 32) (fr := (0, 0)) (heap_alloc_new Y _)
    case c2 => simp [Av.cells, Value.oneCell']
    case c3 => omega
    intro Z hownZ hgrowZ
    clear t0 t1 t2 t3
    go_wp2_with fail
    go_roundw
    case rel =>
      refine ⟨j + 1, b0, b1, b2, b3, x0, x1, x2, x3, e, true, u, rfl, rfl, rfl, rfl, rfl, rfl, rfl, rfl, rfl, rfl, rfl, rfl, by go_num, by omega, ?_⟩
      have hrs := HRS.out
      exact rs_next hrs HS.out HALL.out (a := ⟨1025, flagsOf 10415 true, 10415, some ⟨gg, 0, none⟩, 4, cap⟩) (but_of hY.below hgrowZ) hownZ (dat_of hY hgrowZ (by rw [EM.out]) (by rw [EM.out]; rfl) (by rw [EM.out]) (by rw [EM.out]) (by simp) (by simp [flagsOf]) (by simp)) (runTo ss j) (by have h := HF.out; have h1 : (runTo ss j).2.2.2.2 ≠ 0 := (by rw [← h.2]; simpa using h.1.symm); rw [mstep, if_pos h1]) hrs.s0 hrs.s1 hrs.s2 hrs.s3 hrs.he hrs.hf (by rw [EU.out]; simp)
    case measure => simp [intOf]; omega
  | false =>
    go_wp2_with fail
    refine (defU32_any 1025 10415 true sv v1 v2 _).mono ?_
    rintro e' y1 ⟨gg, cap, rfl, hn4⟩
    obtain ⟨g0, g1, g2, g3, q0, q1, q2, q3, hT⟩ := four_kept (heap_new2 wr _ _) hn4.below
    have hby : Below wr.heap.size wr y1 := hbW.trans (hn4.below.mono hbW.size)
    have hgg : w.heap.size + 1 + 1 + 1 < gg := Nat.lt_of_lt_of_le (Nat.lt_of_lt_of_le hbig hbW.size) hn4.ge
    have hT2 := (hn4.below.block wr.heap.size (by simp; omega)).trans ((Below.heap_alloc _ _ _ (by simp)).trans (heap_alloc_new wr _))
    have c2y : y1.cell? ⟨wr.heap.size, 2, none⟩ = some (.int .u32 sv) := by rw [cell_of_row _ _ _ _ _ _ hT2]; rfl
    have hne : ∀ q : Addr, (some ⟨gg, 0, none⟩ : Option Addr) = some q → q.block ≠ wr.heap.size + 1 := fun q hq => by cases hq; have := hn4.ge; simp at this ⊢; omega
    have MM : Mem wr ((((y1.setCell ⟨wr.heap.size + 1, 0, none⟩ (.int .u32 1025)).setCell ⟨wr.heap.size + 1, 1, none⟩ (.int .u8 (flagsOf 10415 true))).setCell ⟨wr.heap.size + 1, 2, none⟩ (.int .u32 10415)).setCell ⟨wr.heap.size + 1, 3, none⟩ (.slice (some ⟨gg, 0, none⟩) 4 cap)) (wr.heap.size + 1) (w.heap.size + 1 + 1 + 1) ⟨1025, flagsOf 10415 true, 10415, some ⟨gg, 0, none⟩, 4, cap⟩ (be4B sv) :=
      ⟨below4 hby (by omega), set4 hT, (((hn4.by4.setCell _ _ hne).setCell _ _ hne).setCell _ _ hne).setCell _ _ hne, fun q hq => by cases hq; simp; omega⟩
    clear hT hT2 hn4 hne hby x0' x1' x2'
    go_upto_region 36 with fail
    go_quiet (fail)
    go_upto_region 76 with fail
    refine at_world (fun Y => Mem wr Y (wr.heap.size + 1) (w.heap.size + 1 + 1 + 1) ⟨1025, flagsOf 10415 true, 10415, some ⟨gg, 0, none⟩, 4, cap⟩ (be4B sv)) ?_ (by first | exact MM | exact MM.drewN _ | exact MM.drew)
    intro Y hY
    clear MM
    have t0 : Y.cell? ⟨wr.heap.size + 1, 0, none⟩ = some (.int .u32 (⟨1025, flagsOf 10415 true, 10415, some ⟨gg, 0, none⟩, 4, cap⟩ : Av).c) := by rw [cell_of_row _ _ _ _ _ _ hY.lies]; rfl
    have t1 : Y.cell? ⟨wr.heap.size + 1, 1, none⟩ = some (.int .u8 (⟨1025, flagsOf 10415 true, 10415, some ⟨gg, 0, none⟩, 4, cap⟩ : Av).f) := by rw [cell_of_row _ _ _ _ _ _ hY.lies]; rfl
    have t2 : Y.cell? ⟨wr.heap.size + 1, 2, none⟩ = some (.int .u32 (⟨1025, flagsOf 10415 true, 10415, some ⟨gg, 0, none⟩, 4, cap⟩ : Av).v) := by rw [cell_of_row _ _ _ _ _ _ hY.lies]; rfl
    have t3 : Y.cell? ⟨wr.heap.size + 1, 3, none⟩ = some (.slice (⟨1025, flagsOf 10415 true, 10415, some ⟨gg, 0, none⟩, 4, cap⟩ : Av).p (⟨1025, flagsOf 10415 true, 10415, some ⟨gg, 0, none⟩, 4, cap⟩ : Av).n (⟨1025, flagsOf 10415 true, 10415, some ⟨gg, 0, none⟩, 4, cap⟩ : Av).k) := by rw [cell_of_row _ _ _ _ _ _ hY.lies]; rfl
    simp only at t0 t1 t2 t3
    go_wp2_with (at_builtin; refine wpList_append_fits _ rfl _ _ 28 rfl 0 32 i0 4 Ybad.underlying28 hi hz1 (w.heap.size + 1 + 1 + 1) j n (avs.flatMap Av.cells) rfl (own_below HROW.out (hY.below.alloc hY.below.size _)) ⟨Y.heap.size, 0, none⟩ 1 1 (Av.cells ⟨1025, flagsOf 10415 true, 10415, some ⟨gg, 0, none⟩, 4, cap⟩) rfl rfl ?c1 ?c2 ?c3 ?_)
    case c1 => first | exact fun j u h => h | exact World.news_of_block (cs := (Av.cells ⟨1025, flagsOf 10415 true, 10415, some ⟨gg, 0, none⟩, 4, cap⟩).toArray) (t := 32) (fr := (0, 0)) (heap_alloc_new Y _)
    case c2 => simp [Av.cells, Value.oneCell']
    case c3 => omega
    intro Z hownZ hgrowZ
    clear t0 t1 t2 t3
    go_wp2_with fail
    go_roundw
    case rel =>
      refine ⟨j + 1, b0, b1, true, b3, x0, x1, sv, x3, e, false, u, rfl, rfl, rfl, rfl, rfl, rfl, rfl, rfl, rfl, rfl, rfl, rfl, by go_num, by omega, ?_⟩
      have hrs := HRS.out
      exact rs_next hrs HS.out HALL.out (a := ⟨1025, flagsOf 10415 true, 10415, some ⟨gg, 0, none⟩, 4, cap⟩) (but_of hY.below hgrowZ) hownZ (dat_of hY hgrowZ (by rw [EM.out]) (by rw [EM.out]; rfl) (by rw [EM.out]) (by rw [EM.out]) (by simp) (by simp [flagsOf]) (by simp)) ((runTo ss j).1, (runTo ss j).2.1, some sv, (runTo ss j).2.2.2.1, 0) (by have h := HF.out; have h0 : (runTo ss j).2.2.2.2 = 0 := (by rw [← h.2]; simpa using h.1.symm); simp [mstep, h0, hop]) hrs.s0 hrs.s1 (.inr ⟨rfl, rfl⟩) hrs.s3 (by have h := HF.out; simpa using h.1.symm) (by have h := HF.out; exact h.1) (by rw [EU.out]; simp)
    case measure => simp [intOf]; omega

end Go.Proofs.YbulkcjpcDoor
