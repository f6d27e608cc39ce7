/-
  LawS4279BScript: a step of kind 5 or 6.
-/
import Derived.Test.YbulkcjpcDoorRound
import Derived.Deep.RegionHeld3
namespace Go.Proofs.YbulkcjpcDoor
open Go.RowKit
set_option maxRecDepth 100000

set_option maxHeartbeats 64000000 in
theorem arm5 : rounds.1 5 := by
  intro n k ss w hn i0 hi hz0 hz1 hz2 HG HL HBD qg qo qk hq Q0 K0 hn' u2 u31 u32 u33 u34 u35 u36 u37 u38 u39 u40 u41 u42 u43 u44 u45 u46 u47 u48 u49 u50 j1 hj1 hlt1 hlt2 K2 wr u20 u21 u57 u58 u59 u60 u61 u62 u63 u64 u65 u66 u67 u68 u69 u70 u71 u72 u73 u74 u75 u76 u77 u78 u79 u80 u81 u82 u83 u84 u85 u86 u87 u88 u89 u90 u91 u92 u93 u94 u95 u96 u97 u98 u99 u100 u101 u102 u103 u104 u105 u106 u107 u108 u109 u110 u111 u112 u113 u114 u115 u116 u117 u118 u119 u120 u121 u122 u123 u124 u125 u126 u127 u128 u129 u130 u131 u132 u133 u134 u135 u136 u137 u138 u139 u140 u141 u142 u143 u144 u145 u146 u147 u148 u149 u150 u151 u152 u153 u154 u155 u156 u157 u158 u159 u160 u161 u162 u163 u164 u165 u166 u167 u168 u169 u170 u171 u172 u173 u174 u175 u176 u177 u178 u179 u180 u181 u182 u183 u184 u185 u186 u187 u188 u189 u190 j b0 b1 b2 b3 x0 x1 x2 x3 e f u hj HRS hlt hlt' hj0 g o HR hbl sop sk sv d0 d1 d2 HS o1 o2 k1 k2 v1 v2 hbW HG1 avs HROW HALL hbig hop
  have o0b : (sop % 7 == 0) = false := by rw [hop]; rfl
  have o1b : (sop % 7 == 1) = false := by rw [hop]; rfl
  have o2b : (sop % 7 == 2) = false := by rw [hop]; rfl
  have o3b : (sop % 7 == 3) = false := by rw [hop]; rfl
  have o4b : (sop % 7 == 4) = false := by rw [hop]; rfl
  have o5b : (sop % 7 == 5) = true := by rw [hop]; rfl
  have EM : Hid (mem ⟨sop, sk, sv⟩ = ⟨7, 0, 0, []⟩) := by show mem _ = _; simp [mem, hop]
  have EU : Hid (unk ⟨sop, sk, sv⟩ = false) := by show unk _ = _; simp [unk, hop]
  have HFR : Hid (mstep (runTo ss j) ⟨sop, sk, sv⟩ = runTo ss j) := by show mstep _ _ = _; simp [mstep, hop]
  have hU := (hbW.block _ (by omega)).trans HRS.out.ub
  have u0' : ((wr.alloc (.cells #[.int .u8 sop, .int .u8 sk, .int .u32 sv] 30)).alloc (.cells #[.int .u32 0, .int .u8 0, .int .u32 0, .slice none 0 0] 32)).cell? ⟨w.heap.size, 0, none⟩ = some (.int .u32 7) := by rw [cell_of_row _ _ _ _ _ _ hU]; rfl
  have u1' : ((wr.alloc (.cells #[.int .u8 sop, .int .u8 sk, .int .u32 sv] 30)).alloc (.cells #[.int .u32 0, .int .u8 0, .int .u32 0, .slice none 0 0] 32)).cell? ⟨w.heap.size, 1, none⟩ = some (.int .u32 0) := by rw [cell_of_row _ _ _ _ _ _ hU]; rfl
  have u2' : ((wr.alloc (.cells #[.int .u8 sop, .int .u8 sk, .int .u32 sv] 30)).alloc (.cells #[.int .u32 0, .int .u8 0, .int .u32 0, .slice none 0 0] 32)).cell? ⟨w.heap.size, 2, none⟩ = some (.bool false) := by rw [cell_of_row _ _ _ _ _ _ hU]; rfl
  clear hU
  go_wp2_with fail
  refine (bytes_any 7 0 false none 0 0 _).mono ?_
  rintro e' y1 ⟨rfl, hy⟩
  obtain ⟨g0, g1, g2, g3, q0, q1, q2, q3, hT⟩ := four_kept (heap_new2 wr _ _) hy
  have hby : Below wr.heap.size wr y1 := hbW.trans (hy.mono hbW.size)
  have MM : Mem wr ((((y1.setCell ⟨wr.heap.size + 1, 0, none⟩ (.int .u32 7)).setCell ⟨wr.heap.size + 1, 1, none⟩ (.int .u8 (flagsOf 0 false))).setCell ⟨wr.heap.size + 1, 2, none⟩ (.int .u32 0)).setCell ⟨wr.heap.size + 1, 3, none⟩ (.slice none 0 0)) (wr.heap.size + 1) (w.heap.size + 1 + 1 + 1) ⟨7, flagsOf 0 false, 0, none, 0, 0⟩ [] :=
    ⟨below4 hby (by omega), set4 hT, ⟨rfl, Nat.le_refl _, Nat.zero_le _, .inl ⟨rfl, rfl⟩⟩, fun q hq => by cases hq⟩
  clear hT hby
  clear hy u0' u1' u2'
  go_upto_region 76 with fail
  refine at_world (fun Y => Mem wr Y (wr.heap.size + 1) (w.heap.size + 1 + 1 + 1) ⟨7, flagsOf 0 false, 0, none, 0, 0⟩ []) ?_ (by first | exact MM | exact MM.drewN _ | exact MM.drew)
  intro Y hY
  clear MM
  have t0 : Y.cell? ⟨wr.heap.size + 1, 0, none⟩ = some (.int .u32 (⟨7, flagsOf 0 false, 0, none, 0, 0⟩ : Av).c) := by rw [cell_of_row _ _ _ _ _ _ hY.lies]; rfl
  have t1 : Y.cell? ⟨wr.heap.size + 1, 1, none⟩ = some (.int .u8 (⟨7, flagsOf 0 false, 0, none, 0, 0⟩ : Av).f) := by rw [cell_of_row _ _ _ _ _ _ hY.lies]; rfl
  have t2 : Y.cell? ⟨wr.heap.size + 1, 2, none⟩ = some (.int .u32 (⟨7, flagsOf 0 false, 0, none, 0, 0⟩ : Av).v) := by rw [cell_of_row _ _ _ _ _ _ hY.lies]; rfl
  have t3 : Y.cell? ⟨wr.heap.size + 1, 3, none⟩ = some (.slice (⟨7, flagsOf 0 false, 0, none, 0, 0⟩ : Av).p (⟨7, flagsOf 0 false, 0, none, 0, 0⟩ : Av).n (⟨7, flagsOf 0 false, 0, none, 0, 0⟩ : Av).k) := by rw [cell_of_row _ _ _ _ _ _ hY.lies]; rfl
  simp only at t0 t1 t2 t3
  go_wp2_with (at_builtin; refine wpList_append_fits _ rfl _ _ 28 rfl 0 32 i0 4 Ybad.underlying28 hi hz1 (w.heap.size + 1 + 1 + 1) j n (avs.flatMap Av.cells) rfl (own_below HROW.out (hY.below.alloc hY.below.size _)) ⟨Y.heap.size, 0, none⟩ 1 1 (Av.cells ⟨7, flagsOf 0 false, 0, none, 0, 0⟩) rfl rfl ?c1 ?c2 ?c3 ?_)
  case c1 => first | exact fun j u h => h | exact World.news_of_block (cs := (Av.cells ⟨7, flagsOf 0 false, 0, none, 0, 0⟩).toArray) (t := 32) (fr := (0, 0)) (heap_alloc_new Y _)
  case c2 => simp [Av.cells, Value.oneCell']
  case c3 => omega
  intro Z hownZ hgrowZ
  clear t0 t1 t2 t3
  go_wp2_with fail
  go_roundw
  case rel =>
    refine ⟨j + 1, b0, b1, b2, b3, x0, x1, x2, x3, e, f, u, rfl, rfl, rfl, rfl, rfl, rfl, rfl, rfl, rfl, rfl, rfl, rfl, by go_num, by omega, ?_⟩
    have hrs := HRS.out
    exact rs_next hrs HS.out HALL.out (a := ⟨7, flagsOf 0 false, 0, none, 0, 0⟩) (but_of hY.below hgrowZ) hownZ (dat_of hY hgrowZ (by rw [EM.out]) (by rw [EM.out]; rfl) (by rw [EM.out]) (by rw [EM.out]) (by simp) (by simp [flagsOf]) (by simp)) (runTo ss j) HFR.out hrs.s0 hrs.s1 hrs.s2 hrs.s3 hrs.he hrs.hf (by rw [EU.out]; simp)
  case measure => simp [intOf]; omega

set_option maxHeartbeats 64000000 in
theorem arm6 (c : Int) (c0 : ¬ c = 0) (c1 : ¬ c = 1) (c2 : ¬ c = 2) (c3 : ¬ c = 3) (c4 : ¬ c = 4) (c5 : ¬ c = 5) : rounds.1 c := by
  intro n k ss w hn i0 hi hz0 hz1 hz2 HG HL HBD qg qo qk hq Q0 K0 hn' u2 u31 u32 u33 u34 u35 u36 u37 u38 u39 u40 u41 u42 u43 u44 u45 u46 u47 u48 u49 u50 j1 hj1 hlt1 hlt2 K2 wr u20 u21 u57 u58 u59 u60 u61 u62 u63 u64 u65 u66 u67 u68 u69 u70 u71 u72 u73 u74 u75 u76 u77 u78 u79 u80 u81 u82 u83 u84 u85 u86 u87 u88 u89 u90 u91 u92 u93 u94 u95 u96 u97 u98 u99 u100 u101 u102 u103 u104 u105 u106 u107 u108 u109 u110 u111 u112 u113 u114 u115 u116 u117 u118 u119 u120 u121 u122 u123 u124 u125 u126 u127 u128 u129 u130 u131 u132 u133 u134 u135 u136 u137 u138 u139 u140 u141 u142 u143 u144 u145 u146 u147 u148 u149 u150 u151 u152 u153 u154 u155 u156 u157 u158 u159 u160 u161 u162 u163 u164 u165 u166 u167 u168 u169 u170 u171 u172 u173 u174 u175 u176 u177 u178 u179 u180 u181 u182 u183 u184 u185 u186 u187 u188 u189 u190 j b0 b1 b2 b3 x0 x1 x2 x3 e f u hj HRS hlt hlt' hj0 g o HR hbl sop sk sv d0 d1 d2 HS o1 o2 k1 k2 v1 v2 hbW HG1 avs HROW HALL hbig hop
  have hop0 : ¬ sop % 7 = 0 := by rw [hop]; exact c0
  have hop1 : ¬ sop % 7 = 1 := by rw [hop]; exact c1
  have hop2 : ¬ sop % 7 = 2 := by rw [hop]; exact c2
  have hop3 : ¬ sop % 7 = 3 := by rw [hop]; exact c3
  have hop4 : ¬ sop % 7 = 4 := by rw [hop]; exact c4
  have hop5 : ¬ sop % 7 = 5 := by rw [hop]; exact c5
  clear hop
  have o0b : (sop % 7 == 0) = false := by simpa using hop0
  have o1b : (sop % 7 == 1) = false := by simpa using hop1
  have o2b : (sop % 7 == 2) = false := by simpa using hop2
  have o3b : (sop % 7 == 3) = false := by simpa using hop3
  have o4b : (sop % 7 == 4) = false := by simpa using hop4
  have o5b : (sop % 7 == 5) = false := by simpa using hop5
  have EM : Hid (mem ⟨sop, sk, sv⟩ = ⟨7, 64, 0, []⟩) := by show mem _ = _; simp [mem, hop0, hop1, hop2, hop3, hop4, hop5]
  have EU : Hid (unk ⟨sop, sk, sv⟩ = true) := by show unk _ = _; simp [unk, hop0, hop1, hop2, hop3, hop4, hop5]
  have HFR : Hid (mstep (runTo ss j) ⟨sop, sk, sv⟩ = runTo ss j) := by show mstep _ _ = _; simp [mstep, hop0, hop1, hop2, hop3, hop4]
  have hU := (hbW.block _ (by omega)).trans HRS.out.um
  have u0' : ((wr.alloc (.cells #[.int .u8 sop, .int .u8 sk, .int .u32 sv] 30)).alloc (.cells #[.int .u32 0, .int .u8 0, .int .u32 0, .slice none 0 0] 32)).cell? ⟨w.heap.size + 1, 0, none⟩ = some (.int .u32 7) := by rw [cell_of_row _ _ _ _ _ _ hU]; rfl
  have u1' : ((wr.alloc (.cells #[.int .u8 sop, .int .u8 sk, .int .u32 sv] 30)).alloc (.cells #[.int .u32 0, .int .u8 0, .int .u32 0, .slice none 0 0] 32)).cell? ⟨w.heap.size + 1, 1, none⟩ = some (.int .u32 0) := by rw [cell_of_row _ _ _ _ _ _ hU]; rfl
  have u2' : ((wr.alloc (.cells #[.int .u8 sop, .int .u8 sk, .int .u32 sv] 30)).alloc (.cells #[.int .u32 0, .int .u8 0, .int .u32 0, .slice none 0 0] 32)).cell? ⟨w.heap.size + 1, 2, none⟩ = some (.bool true) := by rw [cell_of_row _ _ _ _ _ _ hU]; rfl
  clear hU
  go_wp2_with fail
  refine (bytes_any 7 0 true none 0 0 _).mono ?_
  rintro e' y1 ⟨rfl, hy⟩
  obtain ⟨g0, g1, g2, g3, q0, q1, q2, q3, hT⟩ := four_kept (heap_new2 wr _ _) hy
  have hby : Below wr.heap.size wr y1 := hbW.trans (hy.mono hbW.size)
  have MM : Mem wr ((((y1.setCell ⟨wr.heap.size + 1, 0, none⟩ (.int .u32 7)).setCell ⟨wr.heap.size + 1, 1, none⟩ (.int .u8 (flagsOf 0 true))).setCell ⟨wr.heap.size + 1, 2, none⟩ (.int .u32 0)).setCell ⟨wr.heap.size + 1, 3, none⟩ (.slice none 0 0)) (wr.heap.size + 1) (w.heap.size + 1 + 1 + 1) ⟨7, flagsOf 0 true, 0, none, 0, 0⟩ [] :=
    ⟨below4 hby (by omega), set4 hT, ⟨rfl, Nat.le_refl _, Nat.zero_le _, .inl ⟨rfl, rfl⟩⟩, fun q hq => by cases hq⟩
  clear hT hby
  clear hy u0' u1' u2'
  go_upto_region 76 with fail
  refine at_world (fun Y => Mem wr Y (wr.heap.size + 1) (w.heap.size + 1 + 1 + 1) ⟨7, flagsOf 0 true, 0, none, 0, 0⟩ []) ?_ (by first | exact MM | exact MM.drewN _ | exact MM.drew)
  intro Y hY
  clear MM
  have t0 : Y.cell? ⟨wr.heap.size + 1, 0, none⟩ = some (.int .u32 (⟨7, flagsOf 0 true, 0, none, 0, 0⟩ : Av).c) := by rw [cell_of_row _ _ _ _ _ _ hY.lies]; rfl
  have t1 : Y.cell? ⟨wr.heap.size + 1, 1, none⟩ = some (.int .u8 (⟨7, flagsOf 0 true, 0, none, 0, 0⟩ : Av).f) := by rw [cell_of_row _ _ _ _ _ _ hY.lies]; rfl
  have t2 : Y.cell? ⟨wr.heap.size + 1, 2, none⟩ = some (.int .u32 (⟨7, flagsOf 0 true, 0, none, 0, 0⟩ : Av).v) := by rw [cell_of_row _ _ _ _ _ _ hY.lies]; rfl
  have t3 : Y.cell? ⟨wr.heap.size + 1, 3, none⟩ = some (.slice (⟨7, flagsOf 0 true, 0, none, 0, 0⟩ : Av).p (⟨7, flagsOf 0 true, 0, none, 0, 0⟩ : Av).n (⟨7, flagsOf 0 true, 0, none, 0, 0⟩ : Av).k) := by rw [cell_of_row _ _ _ _ _ _ hY.lies]; rfl
  simp only at t0 t1 t2 t3
  go_wp2_with (at_builtin; refine wpList_append_fits _ rfl _ _ 28 rfl 0 32 i0 4 Ybad.underlying28 hi hz1 (w.heap.size + 1 + 1 + 1) j n (avs.flatMap Av.cells) rfl (own_below HROW.out (hY.below.alloc hY.below.size _)) ⟨Y.heap.size, 0, none⟩ 1 1 (Av.cells ⟨7, flagsOf 0 true, 0, none, 0, 0⟩) rfl rfl ?c1 ?c2 ?c3 ?_)
  case c1 => first | exact fun j u h => h | exact World.news_of_block (cs := (Av.cells ⟨7, flagsOf 0 true, 0, none, 0, 0⟩).toArray) (t := 32) (fr := (0, 0)) (heap_alloc_new Y _)
  case c2 => simp [Av.cells, Value.oneCell']
  case c3 => omega
  intro Z hownZ hgrowZ
  clear t0 t1 t2 t3
  go_wp2_with fail
  go_roundw
  case rel =>
    refine ⟨j + 1, b0, b1, b2, b3, x0, x1, x2, x3, e, f, true, rfl, rfl, rfl, rfl, rfl, rfl, rfl, rfl, rfl, rfl, rfl, rfl, by go_num, by omega, ?_⟩
    have hrs := HRS.out
    exact rs_next hrs HS.out HALL.out (a := ⟨7, flagsOf 0 true, 0, none, 0, 0⟩) (but_of hY.below hgrowZ) hownZ (dat_of hY hgrowZ (by rw [EM.out]) (by rw [EM.out]; rfl) (by rw [EM.out]) (by rw [EM.out]) (by simp) (by simp [flagsOf]) (by simp)) (runTo ss j) HFR.out hrs.s0 hrs.s1 hrs.s2 hrs.s3 hrs.he hrs.hf (by rw [EU.out]; simp)
  case measure => simp [intOf]; omega

end Go.Proofs.YbulkcjpcDoor
