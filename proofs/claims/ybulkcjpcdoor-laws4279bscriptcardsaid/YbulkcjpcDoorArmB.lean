/-
  LawS4279BScript: a step of kind 3.
-/
import Derived.Test.YbulkcjpcDoorRound
import Derived.Deep.RegionHeld3
namespace Go.Proofs.YbulkcjpcDoor
open Go.RowKit
set_option maxRecDepth 100000

set_option maxHeartbeats 64000000 in
theorem arm3 : rounds.1 3 := by
  intro n k ss w hn i0 hi hz0 hz1 hz2 HG HL HBD qg qo qk hq Q0 K0 hn' u2 u31 u32 u33 u34 u35 u36 u37 u38 u39 u40 u41 u42 u43 u44 u45 u46 u47 u48 u49 u50 j1 hj1 hlt1 hlt2 K2 wr u20 u21 u57 u58 u59 u60 u61 u62 u63 u64 u65 u66 u67 u68 u69 u70 u71 u72 u73 u74 u75 u76 u77 u78 u79 u80 u81 u82 u83 u84 u85 u86 u87 u88 u89 u90 u91 u92 u93 u94 u95 u96 u97 u98 u99 u100 u101 u102 u103 u104 u105 u106 u107 u108 u109 u110 u111 u112 u113 u114 u115 u116 u117 u118 u119 u120 u121 u122 u123 u124 u125 u126 u127 u128 u129 u130 u131 u132 u133 u134 u135 u136 u137 u138 u139 u140 u141 u142 u143 u144 u145 u146 u147 u148 u149 u150 u151 u152 u153 u154 u155 u156 u157 u158 u159 u160 u161 u162 u163 u164 u165 u166 u167 u168 u169 u170 u171 u172 u173 u174 u175 u176 u177 u178 u179 u180 u181 u182 u183 u184 u185 u186 u187 u188 u189 u190 j b0 b1 b2 b3 x0 x1 x2 x3 e f u hj HRS hlt hlt' hj0 g o HR hbl sop sk sv d0 d1 d2 HS o1 o2 k1 k2 v1 v2 hbW HG1 avs HROW HALL hbig hop
  have o0b : (sop % 7 == 0) = false := by rw [hop]; rfl
  have o1b : (sop % 7 == 1) = false := by rw [hop]; rfl
  have o2b : (sop % 7 == 2) = false := by rw [hop]; rfl
  have o3b : (sop % 7 == 3) = true := by rw [hop]; rfl
  have HF : Hid (f = decide (e ≠ 0) ∧ e = (runTo ss j).2.2.2.2) := ⟨HRS.out.hf, HRS.out.he⟩
  have EU : Hid (unk ⟨sop, sk, sv⟩ = false) := by show unk _ = _; simp [unk, hop]
  have EM : Hid (mem ⟨sop, sk, sv⟩ = ⟨1034, 128, 10415, enc (sub ⟨sop, sk, sv⟩)⟩) := by show mem _ = _; simp [mem, hop]
  have HBAD : Hid (Bytes wr (some ⟨w.heap.size + 1 + 1, 0, none⟩) 3 3 bad3) := by
    refine ⟨rfl, Nat.le_refl _, by omega, .inr ⟨_, 0, rfl, fun q hq => ?_⟩⟩
    rw [Nat.zero_add, cell_of_row _ _ _ _ _ _ HRS.out.bb]
    match q, hq with
    | 0, _ => rfl
    | 1, _ => rfl
    | 2, _ => rfl
  by_cases hk0 : sk % 4 = 0
  · have k0b : (sk % 4 == 0) = true := by rw [hk0]; rfl
    have ES : Hid (sub ⟨sop, sk, sv⟩ = [(⟨1046, 128, 10415, be4B sv⟩ : It)]) := by show sub _ = _; simp [sub, hk0]
    have G1 := HG1.out
    have za40 := G1.g4.c0; have za41 := G1.g4.c1; have za42 := G1.g4.c2; have za50 := G1.g5.c0; have za51 := G1.g5.c1; have za52 := G1.g5.c2; 
    have za2 : ((wr.alloc (.cells #[.int .u8 sop, .int .u8 sk, .int .u32 sv] 30)).alloc (.cells #[.int .u32 0, .int .u8 0, .int .u32 0, .slice none 0 0] 32)).cell? ⟨wr.heap.size, 2, none⟩ = some (.int .u32 sv) := by rw [cell_of_row _ _ _ _ _ _ ((Below.heap_alloc _ _ _ (by simp)).trans (heap_alloc_new wr _))]; rfl
    have G : Glob ((wr.alloc (.cells #[.int .u8 sop, .int .u8 sk, .int .u32 sv] 30)).alloc (.cells #[.int .u32 0, .int .u8 0, .int .u32 0, .slice none 0 0] 32)).drew := G1.below ((Below.refl _ _).drew)
    have T20 : ((wr.alloc (.cells #[.int .u8 sop, .int .u8 sk, .int .u32 sv] 30)).alloc (.cells #[.int .u32 0, .int .u8 0, .int .u32 0, .slice none 0 0] 32)).drew.heap[wr.heap.size]? = some (.cells #[.int .u8 sop, .int .u8 sk, .int .u32 sv] 30 (0, 0)) := (Below.heap_alloc _ _ _ (by simp)).trans (heap_alloc_new wr _)
    have T21 : ((wr.alloc (.cells #[.int .u8 sop, .int .u8 sk, .int .u32 sv] 30)).alloc (.cells #[.int .u32 0, .int .u8 0, .int .u32 0, .slice none 0 0] 32)).drew.heap[wr.heap.size + 1]? = some (.cells #[.int .u32 0, .int .u8 0, .int .u32 0, .slice none 0 0] 32 (0, 0)) := heap_new2 wr _ _
    have HBAD1 : Hid (Bytes ((wr.alloc (.cells #[.int .u8 sop, .int .u8 sk, .int .u32 sv] 30)).alloc (.cells #[.int .u32 0, .int .u8 0, .int .u32 0, .slice none 0 0] 32)).drew (some ⟨w.heap.size + 1 + 1, 0, none⟩) 3 3 bad3) := HBAD.out.below hbW.drew
    have h7 : 7 < wr.heap.size := Nat.lt_of_lt_of_le (World.block_lt_of_cell? w _ HG.out.g7.c0) hbl.size
    have n4 : ¬ wr.heap.size + 1 = 4 := by omega
    have n4' : ¬ 4 = wr.heap.size + 1 := by omega
    have n5 : ¬ wr.heap.size + 1 = 5 := by omega
    have n5' : ¬ 5 = wr.heap.size + 1 := by omega
    clear G1
    cases f with
    | true =>
      go_upto_region 45 with fail
      go_region_held3 (fun W' => W'.cell? ⟨4, 0, none⟩ = some (.int .u32 1034) ∧ W'.cell? ⟨4, 1, none⟩ = some (.int .u32 10415) ∧ W'.cell? ⟨4, 2, none⟩ = some (.bool false) ∧ W'.cell? ⟨5, 0, none⟩ = some (.int .u32 1046) ∧ W'.cell? ⟨5, 1, none⟩ = some (.int .u32 10415) ∧ W'.cell? ⟨5, 2, none⟩ = some (.bool false) ∧ W'.cell? ⟨wr.heap.size, 2, none⟩ = some (.int .u32 sv)) (go_keep) (first
        | (go_at_call 7; refine (defU32_any 1046 10415 false sv v1 v2 _).mono ?_; rintro e' y1 ⟨gg, cap, rfl, hn4⟩; have hbn := hn4.below; have hB1 := hn4.by4; replace G := G.below hbn; replace T20 := (hbn.block _ (lt_of_block T20)).trans T20; replace T21 := (hbn.block _ (lt_of_block T21)).trans T21; have zb40 := G.g4.c0; have zb41 := G.g4.c1; have zb42 := G.g4.c2; have zb50 := G.g5.c0; have zb51 := G.g5.c1; have zb52 := G.g5.c2; have zb2 : y1.cell? ⟨wr.heap.size, 2, none⟩ = some (.int .u32 sv) := (by rw [cell_of_row _ _ _ _ _ _ T20]; rfl))
        | (go_at_call 8; refine (pack_any 1034 10415 false _ [(⟨1046, flagsOf 10415 false, 10415, some ⟨gg, 0, none⟩, 4, cap⟩ : Av)] [(⟨1046, 128, 10415, be4B sv⟩ : It)] _ ?_ ?_ (by simp) (by simp [be4B])).mono ?_; (exact ⟨rfl, .inr ⟨y1.heap.size, 1, _, rfl, Nat.zero_le _, heap_alloc_new y1 _, Nat.le_refl _, by decide, rfl, rfl⟩⟩); (exact .cons ⟨rfl, by simp [flagsOf], rfl, by simp, by simp [flagsOf], by simp, hB1.below ((Below.refl _ _).alloc (Nat.le_refl _) _)⟩ .nil); rintro e2 y2 ⟨p2, kk2, rfl, hnb⟩; have hB2 := (((Below.refl _ y1).alloc (Nat.le_refl _) _).trans (hnb.below.mono (by simp))); obtain ⟨g0, g1, g2, g3, q0, q1, q2, q3, hT⟩ := four_kept T21 hB2; have G3 := G.below hB2; have zc40 := G3.g4.c0; have zc41 := G3.g4.c1; have zc42 := G3.g4.c2; have zc50 := G3.g5.c0; have zc51 := G3.g5.c1; have zc52 := G3.g5.c2; have zc2 : y2.cell? ⟨wr.heap.size, 2, none⟩ = some (.int .u32 sv) := (hB2.cell (p := ⟨wr.heap.size, 2, none⟩) (World.block_lt_of_cell? y1 _ zb2)).trans zb2))
      have hby : Below wr.heap.size wr y2 := (hbW.drew.trans (hbn.mono (by simp [World.drew]; omega))).trans (hB2.mono (Nat.le_trans hbW.size hbn.size))
      have hgp : ∀ q : Addr, p2 = some q → wr.heap.size + 1 + 1 ≤ q.block := fun q hq => Nat.le_trans (Nat.le_trans (by simp [World.drew]) hbn.size) (Nat.le_trans (by simp) (hnb.ge q hq))
      have hne : ∀ q : Addr, p2 = some q → q.block ≠ wr.heap.size + 1 := fun q hq => by have := hgp q hq; omega
      have MM : Mem wr ((((y2.setCell ⟨wr.heap.size + 1, 0, none⟩ (.int .u32 1034)).setCell ⟨wr.heap.size + 1, 1, none⟩ (.int .u8 (flagsOf 10415 false))).setCell ⟨wr.heap.size + 1, 2, none⟩ (.int .u32 10415)).setCell ⟨wr.heap.size + 1, 3, none⟩ (.slice p2 (enc [(⟨1046, 128, 10415, be4B sv⟩ : It)]).length kk2)) (wr.heap.size + 1) (w.heap.size + 1 + 1 + 1) ⟨1034, flagsOf 10415 false, 10415, p2, (enc [(⟨1046, 128, 10415, be4B sv⟩ : It)]).length, kk2⟩ (enc [(⟨1046, 128, 10415, be4B sv⟩ : It)]) :=
        ⟨below4 hby (by omega), set4 hT, (((hnb.byt.setCell _ _ hne).setCell _ _ hne).setCell _ _ hne).setCell _ _ hne, fun q hq => by have := hgp q hq; omega⟩
      clear hT hnb hB1 hB2 G G3 T20 T21 hne hby hgp
      go_upto_region 76 with fail
      refine at_world (fun Y => Mem wr Y (wr.heap.size + 1) (w.heap.size + 1 + 1 + 1) ⟨1034, flagsOf 10415 false, 10415, p2, (enc [(⟨1046, 128, 10415, be4B sv⟩ : It)]).length, kk2⟩ (enc [(⟨1046, 128, 10415, be4B sv⟩ : It)])) ?_ (by first | exact MM | exact MM.drewN _ | exact MM.drew)
      intro Y hY
      clear MM
      have t0 : Y.cell? ⟨wr.heap.size + 1, 0, none⟩ = some (.int .u32 (⟨1034, flagsOf 10415 false, 10415, p2, (enc [(⟨1046, 128, 10415, be4B sv⟩ : It)]).length, kk2⟩ : Av).c) := by rw [cell_of_row _ _ _ _ _ _ hY.lies]; rfl
      have t1 : Y.cell? ⟨wr.heap.size + 1, 1, none⟩ = some (.int .u8 (⟨1034, flagsOf 10415 false, 10415, p2, (enc [(⟨1046, 128, 10415, be4B sv⟩ : It)]).length, kk2⟩ : Av).f) := by rw [cell_of_row _ _ _ _ _ _ hY.lies]; rfl
      have t2 : Y.cell? ⟨wr.heap.size + 1, 2, none⟩ = some (.int .u32 (⟨1034, flagsOf 10415 false, 10415, p2, (enc [(⟨1046, 128, 10415, be4B sv⟩ : It)]).length, kk2⟩ : Av).v) := by rw [cell_of_row _ _ _ _ _ _ hY.lies]; rfl
      have t3 : Y.cell? ⟨wr.heap.size + 1, 3, none⟩ = some (.slice (⟨1034, flagsOf 10415 false, 10415, p2, (enc [(⟨1046, 128, 10415, be4B sv⟩ : It)]).length, kk2⟩ : Av).p (⟨1034, flagsOf 10415 false, 10415, p2, (enc [(⟨1046, 128, 10415, be4B sv⟩ : It)]).length, kk2⟩ : Av).n (⟨1034, flagsOf 10415 false, 10415, p2, (enc [(⟨1046, 128, 10415, be4B sv⟩ : It)]).length, kk2⟩ : Av).k) := by rw [cell_of_row _ _ _ _ _ _ hY.lies]; rfl
      simp only at t0 t1 t2 t3
      go_wp2_with (at_builtin; refine wpList_append_fits _ rfl _ _ 28 rfl 0 32 i0 4 Ybad.underlying28 hi hz1 (w.heap.size + 1 + 1 + 1) j n (avs.flatMap Av.cells) rfl (own_below HROW.out (hY.below.alloc hY.below.size _)) ⟨Y.heap.size, 0, none⟩ 1 1 (Av.cells ⟨1034, flagsOf 10415 false, 10415, p2, (enc [(⟨1046, 128, 10415, be4B sv⟩ : It)]).length, kk2⟩) rfl rfl ?c1 ?c2 ?c3 ?_)
      case c1 => first | exact fun j u h => h | exact World.news_of_block (cs := (Av.cells ⟨1034, flagsOf 10415 false, 10415, p2, (enc [(⟨1046, 128, 10415, be4B sv⟩ : It)]).length, kk2⟩).toArray) (t := 32) (fr := (0, 0)) (heap_alloc_new Y _)
      case c2 => simp [Av.cells, Value.oneCell']
      case c3 => omega
      intro Z hownZ hgrowZ
      clear t0 t1 t2 t3
      go_wp2_with fail
      go_roundw
      case rel =>
        refine ⟨j + 1, b0, b1, b2, b3, x0, x1, x2, x3, e, true, u, rfl, rfl, rfl, rfl, rfl, rfl, rfl, rfl, rfl, rfl, rfl, rfl, by go_num, by omega, ?_⟩
        have hrs := HRS.out
        exact rs_next hrs HS.out HALL.out (a := ⟨1034, flagsOf 10415 false, 10415, p2, (enc [(⟨1046, 128, 10415, be4B sv⟩ : It)]).length, kk2⟩) (but_of hY.below hgrowZ) hownZ (dat_of hY hgrowZ (by rw [EM.out]) (by rw [EM.out]; simp [flagsOf]) (by rw [EM.out]) (by rw [EM.out, ES.out]) (by simp) (by simp [flagsOf]) (by simp)) (runTo ss j) (by have h := HF.out; have h1 : (runTo ss j).2.2.2.2 ≠ 0 := (by rw [← h.2]; simpa using h.1.symm); rw [mstep, if_pos h1]) hrs.s0 hrs.s1 hrs.s2 hrs.s3 hrs.he hrs.hf (by rw [EU.out]; simp)
      case measure => simp [intOf]; omega
    | false =>
      go_upto_region 45 with fail
      go_region_held3 (fun W' => W'.cell? ⟨4, 0, none⟩ = some (.int .u32 1034) ∧ W'.cell? ⟨4, 1, none⟩ = some (.int .u32 10415) ∧ W'.cell? ⟨4, 2, none⟩ = some (.bool false) ∧ W'.cell? ⟨5, 0, none⟩ = some (.int .u32 1046) ∧ W'.cell? ⟨5, 1, none⟩ = some (.int .u32 10415) ∧ W'.cell? ⟨5, 2, none⟩ = some (.bool false) ∧ W'.cell? ⟨wr.heap.size, 2, none⟩ = some (.int .u32 sv)) (go_keep) (first
        | (go_at_call 7; refine (defU32_any 1046 10415 false sv v1 v2 _).mono ?_; rintro e' y1 ⟨gg, cap, rfl, hn4⟩; have hbn := hn4.below; have hB1 := hn4.by4; replace G := G.below hbn; replace T20 := (hbn.block _ (lt_of_block T20)).trans T20; replace T21 := (hbn.block _ (lt_of_block T21)).trans T21; have zb40 := G.g4.c0; have zb41 := G.g4.c1; have zb42 := G.g4.c2; have zb50 := G.g5.c0; have zb51 := G.g5.c1; have zb52 := G.g5.c2; have zb2 : y1.cell? ⟨wr.heap.size, 2, none⟩ = some (.int .u32 sv) := (by rw [cell_of_row _ _ _ _ _ _ T20]; rfl))
        | (go_at_call 8; refine (pack_any 1034 10415 false _ [(⟨1046, flagsOf 10415 false, 10415, some ⟨gg, 0, none⟩, 4, cap⟩ : Av)] [(⟨1046, 128, 10415, be4B sv⟩ : It)] _ ?_ ?_ (by simp) (by simp [be4B])).mono ?_; (exact ⟨rfl, .inr ⟨y1.heap.size, 1, _, rfl, Nat.zero_le _, heap_alloc_new y1 _, Nat.le_refl _, by decide, rfl, rfl⟩⟩); (exact .cons ⟨rfl, by simp [flagsOf], rfl, by simp, by simp [flagsOf], by simp, hB1.below ((Below.refl _ _).alloc (Nat.le_refl _) _)⟩ .nil); rintro e2 y2 ⟨p2, kk2, rfl, hnb⟩; have hB2 := (((Below.refl _ y1).alloc (Nat.le_refl _) _).trans (hnb.below.mono (by simp))); obtain ⟨g0, g1, g2, g3, q0, q1, q2, q3, hT⟩ := four_kept T21 hB2; have G3 := G.below hB2; have zc40 := G3.g4.c0; have zc41 := G3.g4.c1; have zc42 := G3.g4.c2; have zc50 := G3.g5.c0; have zc51 := G3.g5.c1; have zc52 := G3.g5.c2; have zc2 : y2.cell? ⟨wr.heap.size, 2, none⟩ = some (.int .u32 sv) := (hB2.cell (p := ⟨wr.heap.size, 2, none⟩) (World.block_lt_of_cell? y1 _ zb2)).trans zb2))
      have hby : Below wr.heap.size wr y2 := (hbW.drew.trans (hbn.mono (by simp [World.drew]; omega))).trans (hB2.mono (Nat.le_trans hbW.size hbn.size))
      have hgp : ∀ q : Addr, p2 = some q → wr.heap.size + 1 + 1 ≤ q.block := fun q hq => Nat.le_trans (Nat.le_trans (by simp [World.drew]) hbn.size) (Nat.le_trans (by simp) (hnb.ge q hq))
      have hne : ∀ q : Addr, p2 = some q → q.block ≠ wr.heap.size + 1 := fun q hq => by have := hgp q hq; omega
      have MM : Mem wr ((((y2.setCell ⟨wr.heap.size + 1, 0, none⟩ (.int .u32 1034)).setCell ⟨wr.heap.size + 1, 1, none⟩ (.int .u8 (flagsOf 10415 false))).setCell ⟨wr.heap.size + 1, 2, none⟩ (.int .u32 10415)).setCell ⟨wr.heap.size + 1, 3, none⟩ (.slice p2 (enc [(⟨1046, 128, 10415, be4B sv⟩ : It)]).length kk2)) (wr.heap.size + 1) (w.heap.size + 1 + 1 + 1) ⟨1034, flagsOf 10415 false, 10415, p2, (enc [(⟨1046, 128, 10415, be4B sv⟩ : It)]).length, kk2⟩ (enc [(⟨1046, 128, 10415, be4B sv⟩ : It)]) :=
        ⟨below4 hby (by omega), set4 hT, (((hnb.byt.setCell _ _ hne).setCell _ _ hne).setCell _ _ hne).setCell _ _ hne, fun q hq => by have := hgp q hq; omega⟩
      clear hT hnb hB1 hB2 G G3 T20 T21 hne hby hgp
      go_upto_region 47 with fail
      go_quiet (fail)
      go_upto_region 76 with fail
      refine at_world (fun Y => Mem wr Y (wr.heap.size + 1) (w.heap.size + 1 + 1 + 1) ⟨1034, flagsOf 10415 false, 10415, p2, (enc [(⟨1046, 128, 10415, be4B sv⟩ : It)]).length, kk2⟩ (enc [(⟨1046, 128, 10415, be4B sv⟩ : It)])) ?_ (by first | exact MM | exact MM.drewN _ | exact MM.drew)
      intro Y hY
      clear MM
      have t0 : Y.cell? ⟨wr.heap.size + 1, 0, none⟩ = some (.int .u32 (⟨1034, flagsOf 10415 false, 10415, p2, (enc [(⟨1046, 128, 10415, be4B sv⟩ : It)]).length, kk2⟩ : Av).c) := by rw [cell_of_row _ _ _ _ _ _ hY.lies]; rfl
      have t1 : Y.cell? ⟨wr.heap.size + 1, 1, none⟩ = some (.int .u8 (⟨1034, flagsOf 10415 false, 10415, p2, (enc [(⟨1046, 128, 10415, be4B sv⟩ : It)]).length, kk2⟩ : Av).f) := by rw [cell_of_row _ _ _ _ _ _ hY.lies]; rfl
      have t2 : Y.cell? ⟨wr.heap.size + 1, 2, none⟩ = some (.int .u32 (⟨1034, flagsOf 10415 false, 10415, p2, (enc [(⟨1046, 128, 10415, be4B sv⟩ : It)]).length, kk2⟩ : Av).v) := by rw [cell_of_row _ _ _ _ _ _ hY.lies]; rfl
      have t3 : Y.cell? ⟨wr.heap.size + 1, 3, none⟩ = some (.slice (⟨1034, flagsOf 10415 false, 10415, p2, (enc [(⟨1046, 128, 10415, be4B sv⟩ : It)]).length, kk2⟩ : Av).p (⟨1034, flagsOf 10415 false, 10415, p2, (enc [(⟨1046, 128, 10415, be4B sv⟩ : It)]).length, kk2⟩ : Av).n (⟨1034, flagsOf 10415 false, 10415, p2, (enc [(⟨1046, 128, 10415, be4B sv⟩ : It)]).length, kk2⟩ : Av).k) := by rw [cell_of_row _ _ _ _ _ _ hY.lies]; rfl
      simp only at t0 t1 t2 t3
      go_wp2_with (at_builtin; refine wpList_append_fits _ rfl _ _ 28 rfl 0 32 i0 4 Ybad.underlying28 hi hz1 (w.heap.size + 1 + 1 + 1) j n (avs.flatMap Av.cells) rfl (own_below HROW.out (hY.below.alloc hY.below.size _)) ⟨Y.heap.size, 0, none⟩ 1 1 (Av.cells ⟨1034, flagsOf 10415 false, 10415, p2, (enc [(⟨1046, 128, 10415, be4B sv⟩ : It)]).length, kk2⟩) rfl rfl ?c1 ?c2 ?c3 ?_)
      case c1 => first | exact fun j u h => h | exact World.news_of_block (cs := (Av.cells ⟨1034, flagsOf 10415 false, 10415, p2, (enc [(⟨1046, 128, 10415, be4B sv⟩ : It)]).length, kk2⟩).toArray) (t := 32) (fr := (0, 0)) (heap_alloc_new Y _)
      case c2 => simp [Av.cells, Value.oneCell']
      case c3 => omega
      intro Z hownZ hgrowZ
      clear t0 t1 t2 t3
      go_wp2_with fail
      go_roundw
      case rel =>
        refine ⟨j + 1, b0, b1, b2, true, x0, x1, x2, sv, e, false, u, rfl, rfl, rfl, rfl, rfl, rfl, rfl, rfl, rfl, rfl, rfl, rfl, by go_num, by omega, ?_⟩
        have hrs := HRS.out
        exact rs_next hrs HS.out HALL.out (a := ⟨1034, flagsOf 10415 false, 10415, p2, (enc [(⟨1046, 128, 10415, be4B sv⟩ : It)]).length, kk2⟩) (but_of hY.below hgrowZ) hownZ (dat_of hY hgrowZ (by rw [EM.out]) (by rw [EM.out]; simp [flagsOf]) (by rw [EM.out]) (by rw [EM.out, ES.out]) (by simp) (by simp [flagsOf]) (by simp)) ((runTo ss j).1, (runTo ss j).2.1, (runTo ss j).2.2.1, some sv, 0) (by have h := HF.out; have h0 : (runTo ss j).2.2.2.2 = 0 := (by rw [← h.2]; simpa using h.1.symm); simp [mstep, h0, hop, hk0]) hrs.s0 hrs.s1 hrs.s2 (.inr ⟨rfl, rfl⟩) (by have h := HF.out; simpa using h.1.symm) (by have h := HF.out; exact h.1) (by rw [EU.out]; simp)
      case measure => simp [intOf]; omega
  by_cases hk1 : sk % 4 = 1
  · have k0b : (sk % 4 == 0) = false := by rw [hk1]; rfl
    have k1b : (sk % 4 == 1) = true := by rw [hk1]; rfl
    have ES : Hid (sub ⟨sop, sk, sv⟩ = [(⟨1048, 128, 10415, be4B 1⟩ : It), ⟨1046, 128, 10415, be4B sv⟩, ⟨1046, 128, 10415, be4B ((sv + 1) % 4294967296)⟩]) := by show sub _ = _; simp [sub, hk1]
    have kw3 : IntKind.u32.wrap (sv + 1) = (sv + 1) % 4294967296 := IntKind.wrap_u32 _
    have G1 := HG1.out
    have za40 := G1.g4.c0; have za41 := G1.g4.c1; have za42 := G1.g4.c2; have za50 := G1.g5.c0; have za51 := G1.g5.c1; have za52 := G1.g5.c2; have za60 := G1.g6.c0; have za61 := G1.g6.c1; have za62 := G1.g6.c2; 
    have za2 : ((wr.alloc (.cells #[.int .u8 sop, .int .u8 sk, .int .u32 sv] 30)).alloc (.cells #[.int .u32 0, .int .u8 0, .int .u32 0, .slice none 0 0] 32)).cell? ⟨wr.heap.size, 2, none⟩ = some (.int .u32 sv) := by rw [cell_of_row _ _ _ _ _ _ ((Below.heap_alloc _ _ _ (by simp)).trans (heap_alloc_new wr _))]; rfl
    have G : Glob ((wr.alloc (.cells #[.int .u8 sop, .int .u8 sk, .int .u32 sv] 30)).alloc (.cells #[.int .u32 0, .int .u8 0, .int .u32 0, .slice none 0 0] 32)).drew := G1.below ((Below.refl _ _).drew)
    have T20 : ((wr.alloc (.cells #[.int .u8 sop, .int .u8 sk, .int .u32 sv] 30)).alloc (.cells #[.int .u32 0, .int .u8 0, .int .u32 0, .slice none 0 0] 32)).drew.heap[wr.heap.size]? = some (.cells #[.int .u8 sop, .int .u8 sk, .int .u32 sv] 30 (0, 0)) := (Below.heap_alloc _ _ _ (by simp)).trans (heap_alloc_new wr _)
    have T21 : ((wr.alloc (.cells #[.int .u8 sop, .int .u8 sk, .int .u32 sv] 30)).alloc (.cells #[.int .u32 0, .int .u8 0, .int .u32 0, .slice none 0 0] 32)).drew.heap[wr.heap.size + 1]? = some (.cells #[.int .u32 0, .int .u8 0, .int .u32 0, .slice none 0 0] 32 (0, 0)) := heap_new2 wr _ _
    have hbc : Below wr.heap.size wr ((wr.alloc (.cells #[.int .u8 sop, .int .u8 sk, .int .u32 sv] 30)).alloc (.cells #[.int .u32 0, .int .u8 0, .int .u32 0, .slice none 0 0] 32)).drew := hbW.drew
    have hsz : wr.heap.size + 1 + 1 ≤ ((wr.alloc (.cells #[.int .u8 sop, .int .u8 sk, .int .u32 sv] 30)).alloc (.cells #[.int .u32 0, .int .u8 0, .int .u32 0, .slice none 0 0] 32)).drew.heap.size := by simp [World.drew]
    have h7 : 7 < wr.heap.size := Nat.lt_of_lt_of_le (World.block_lt_of_cell? w _ HG.out.g7.c0) hbl.size
    have n4 : ¬ wr.heap.size + 1 = 4 := by omega
    have n4' : ¬ 4 = wr.heap.size + 1 := by omega
    have n5 : ¬ wr.heap.size + 1 = 5 := by omega
    have n5' : ¬ 5 = wr.heap.size + 1 := by omega
    have n6 : ¬ wr.heap.size + 1 = 6 := by omega
    have n6' : ¬ 6 = wr.heap.size + 1 := by omega
    clear G1
    cases f with
    | true =>
      go_upto_region 49 with fail
      go_region_held3 (fun W' => W'.cell? ⟨4, 0, none⟩ = some (.int .u32 1034) ∧ W'.cell? ⟨4, 1, none⟩ = some (.int .u32 10415) ∧ W'.cell? ⟨4, 2, none⟩ = some (.bool false) ∧ W'.cell? ⟨5, 0, none⟩ = some (.int .u32 1046) ∧ W'.cell? ⟨5, 1, none⟩ = some (.int .u32 10415) ∧ W'.cell? ⟨5, 2, none⟩ = some (.bool false) ∧ W'.cell? ⟨6, 0, none⟩ = some (.int .u32 1048) ∧ W'.cell? ⟨6, 1, none⟩ = some (.int .u32 10415) ∧ W'.cell? ⟨6, 2, none⟩ = some (.bool false) ∧ W'.cell? ⟨wr.heap.size, 2, none⟩ = some (.int .u32 sv)) (go_keep) (first
        | (go_at_call_of 7 (Value.int IntKind.u32 1048); refine (defU32_any 1048 10415 false 1 (by omega) (by omega) _).mono ?_; rintro e1 y1 ⟨gg1, cap1, rfl, hn1⟩; have hbn1 := hn1.below; (try replace hB1 := hB1.below hbn1); (try replace hB2 := hB2.below hbn1); (try replace hB3 := hB3.below hbn1); have hB1 := hn1.by4; replace G := G.below hbn1; replace T20 := (hbn1.block _ (lt_of_block T20)).trans T20; replace T21 := (hbn1.block _ (lt_of_block T21)).trans T21; replace hbc := hbc.trans (hbn1.mono hbc.size); replace hsz := Nat.le_trans hsz hbn1.size; have zb40 := G.g4.c0; have zb41 := G.g4.c1; have zb42 := G.g4.c2; have zb50 := G.g5.c0; have zb51 := G.g5.c1; have zb52 := G.g5.c2; have zb60 := G.g6.c0; have zb61 := G.g6.c1; have zb62 := G.g6.c2; have zb2 := cell20 T20)
        | (go_at_call_of 7 (Value.int IntKind.u32 sv); refine (defU32_any 1046 10415 false sv v1 v2 _).mono ?_; rintro e2 y2 ⟨gg2, cap2, rfl, hn2⟩; have hbn2 := hn2.below; (try replace hB1 := hB1.below hbn2); (try replace hB2 := hB2.below hbn2); (try replace hB3 := hB3.below hbn2); have hB2 := hn2.by4; replace G := G.below hbn2; replace T20 := (hbn2.block _ (lt_of_block T20)).trans T20; replace T21 := (hbn2.block _ (lt_of_block T21)).trans T21; replace hbc := hbc.trans (hbn2.mono hbc.size); replace hsz := Nat.le_trans hsz hbn2.size; have zb40 := G.g4.c0; have zb41 := G.g4.c1; have zb42 := G.g4.c2; have zb50 := G.g5.c0; have zb51 := G.g5.c1; have zb52 := G.g5.c2; have zb60 := G.g6.c0; have zb61 := G.g6.c1; have zb62 := G.g6.c2; have zb2 := cell20 T20)
        | (go_at_call 7; refine (defU32_any 1046 10415 false ((sv + 1) % 4294967296) (by omega) (by omega) _).mono ?_; rintro e3 y3 ⟨gg3, cap3, rfl, hn3⟩; have hbn3 := hn3.below; (try replace hB1 := hB1.below hbn3); (try replace hB2 := hB2.below hbn3); (try replace hB3 := hB3.below hbn3); have hB3 := hn3.by4; replace G := G.below hbn3; replace T20 := (hbn3.block _ (lt_of_block T20)).trans T20; replace T21 := (hbn3.block _ (lt_of_block T21)).trans T21; replace hbc := hbc.trans (hbn3.mono hbc.size); replace hsz := Nat.le_trans hsz hbn3.size; have zb40 := G.g4.c0; have zb41 := G.g4.c1; have zb42 := G.g4.c2; have zb50 := G.g5.c0; have zb51 := G.g5.c1; have zb52 := G.g5.c2; have zb60 := G.g6.c0; have zb61 := G.g6.c1; have zb62 := G.g6.c2; have zb2 := cell20 T20)
        | (go_at_call 8; refine (pack_any 1034 10415 false _ [(⟨1048, flagsOf 10415 false, 10415, some ⟨gg1, 0, none⟩, 4, cap1⟩ : Av), (⟨1046, flagsOf 10415 false, 10415, some ⟨gg2, 0, none⟩, 4, cap2⟩ : Av), (⟨1046, flagsOf 10415 false, 10415, some ⟨gg3, 0, none⟩, 4, cap3⟩ : Av)] [(⟨1048, 128, 10415, be4B 1⟩ : It), ⟨1046, 128, 10415, be4B sv⟩, ⟨1046, 128, 10415, be4B ((sv + 1) % 4294967296)⟩] _ ?_ ?_ (by simp) (by simp [be4B])).mono ?_; (exact ⟨rfl, .inr ⟨_, 3, _, rfl, Nat.zero_le _, heap_alloc_new _ _, Nat.le_refl _, by decide, rfl, rfl⟩⟩); (exact .cons ⟨rfl, by simp [flagsOf], rfl, by simp, by simp [flagsOf], by simp, hB1.below ((Below.refl _ _).alloc (Nat.le_refl _) _)⟩ (.cons ⟨rfl, by simp [flagsOf], rfl, by simp, by simp [flagsOf], by simp, hB2.below ((Below.refl _ _).alloc (Nat.le_refl _) _)⟩ (.cons ⟨rfl, by simp [flagsOf], rfl, by simp, by simp [flagsOf], by simp, hB3.below ((Below.refl _ _).alloc (Nat.le_refl _) _)⟩ .nil))); rintro e4 y4 ⟨p4, kk4, rfl, hnb⟩; have hB4 := (((Below.refl _ _).alloc (Nat.le_refl _) _).trans (hnb.below.mono (by simp))); obtain ⟨g0, g1, g2, g3, q0, q1, q2, q3, hT⟩ := four_kept T21 hB4; have G3 := G.below hB4; replace T20 := (hB4.block _ (lt_of_block T20)).trans T20; have hge := hnb.ge; replace hbc := hbc.trans (hB4.mono hbc.size); have zc40 := G3.g4.c0; have zc41 := G3.g4.c1; have zc42 := G3.g4.c2; have zc50 := G3.g5.c0; have zc51 := G3.g5.c1; have zc52 := G3.g5.c2; have zc60 := G3.g6.c0; have zc61 := G3.g6.c1; have zc62 := G3.g6.c2; have zc2 := cell20 T20))
      all_goals
        have hgp : ∀ q : Addr, p4 = some q → wr.heap.size + 1 + 1 ≤ q.block := fun q hq => Nat.le_trans hsz (Nat.le_trans (by simp) (hge q hq))
        have hne : ∀ q : Addr, p4 = some q → q.block ≠ wr.heap.size + 1 := fun q hq => by have := hgp q hq; omega
        have MM : Mem wr ((((y4.setCell ⟨wr.heap.size + 1, 0, none⟩ (.int .u32 1034)).setCell ⟨wr.heap.size + 1, 1, none⟩ (.int .u8 (flagsOf 10415 false))).setCell ⟨wr.heap.size + 1, 2, none⟩ (.int .u32 10415)).setCell ⟨wr.heap.size + 1, 3, none⟩ (.slice p4 (enc [(⟨1048, 128, 10415, be4B 1⟩ : It), ⟨1046, 128, 10415, be4B sv⟩, ⟨1046, 128, 10415, be4B ((sv + 1) % 4294967296)⟩]).length kk4)) (wr.heap.size + 1) (w.heap.size + 1 + 1 + 1) ⟨1034, flagsOf 10415 false, 10415, p4, (enc [(⟨1048, 128, 10415, be4B 1⟩ : It), ⟨1046, 128, 10415, be4B sv⟩, ⟨1046, 128, 10415, be4B ((sv + 1) % 4294967296)⟩]).length, kk4⟩ (enc [(⟨1048, 128, 10415, be4B 1⟩ : It), ⟨1046, 128, 10415, be4B sv⟩, ⟨1046, 128, 10415, be4B ((sv + 1) % 4294967296)⟩]) :=
          ⟨below4 hbc (by omega), set4 hT, (((hnb.byt.setCell _ _ hne).setCell _ _ hne).setCell _ _ hne).setCell _ _ hne, fun q hq => by have := hgp q hq; omega⟩
        clear hT hnb hB1 hB2 hB3 hB4 G G3 T20 T21 hne hbc hgp hge hsz hn1 hn2 hn3 hbn1 hbn2 hbn3
        go_upto_region 76 with fail
        refine at_world (fun Y => Mem wr Y (wr.heap.size + 1) (w.heap.size + 1 + 1 + 1) ⟨1034, flagsOf 10415 false, 10415, p4, (enc [(⟨1048, 128, 10415, be4B 1⟩ : It), ⟨1046, 128, 10415, be4B sv⟩, ⟨1046, 128, 10415, be4B ((sv + 1) % 4294967296)⟩]).length, kk4⟩ (enc [(⟨1048, 128, 10415, be4B 1⟩ : It), ⟨1046, 128, 10415, be4B sv⟩, ⟨1046, 128, 10415, be4B ((sv + 1) % 4294967296)⟩])) ?_ (by first | exact MM | exact MM.drewN _ | exact MM.drew)
        intro Y hY
        clear MM
        have t0 : Y.cell? ⟨wr.heap.size + 1, 0, none⟩ = some (.int .u32 (⟨1034, flagsOf 10415 false, 10415, p4, (enc [(⟨1048, 128, 10415, be4B 1⟩ : It), ⟨1046, 128, 10415, be4B sv⟩, ⟨1046, 128, 10415, be4B ((sv + 1) % 4294967296)⟩]).length, kk4⟩ : Av).c) := by rw [cell_of_row _ _ _ _ _ _ hY.lies]; rfl
        have t1 : Y.cell? ⟨wr.heap.size + 1, 1, none⟩ = some (.int .u8 (⟨1034, flagsOf 10415 false, 10415, p4, (enc [(⟨1048, 128, 10415, be4B 1⟩ : It), ⟨1046, 128, 10415, be4B sv⟩, ⟨1046, 128, 10415, be4B ((sv + 1) % 4294967296)⟩]).length, kk4⟩ : Av).f) := by rw [cell_of_row _ _ _ _ _ _ hY.lies]; rfl
        have t2 : Y.cell? ⟨wr.heap.size + 1, 2, none⟩ = some (.int .u32 (⟨1034, flagsOf 10415 false, 10415, p4, (enc [(⟨1048, 128, 10415, be4B 1⟩ : It), ⟨1046, 128, 10415, be4B sv⟩, ⟨1046, 128, 10415, be4B ((sv + 1) % 4294967296)⟩]).length, kk4⟩ : Av).v) := by rw [cell_of_row _ _ _ _ _ _ hY.lies]; rfl
        have t3 : Y.cell? ⟨wr.heap.size + 1, 3, none⟩ = some (.slice (⟨1034, flagsOf 10415 false, 10415, p4, (enc [(⟨1048, 128, 10415, be4B 1⟩ : It), ⟨1046, 128, 10415, be4B sv⟩, ⟨1046, 128, 10415, be4B ((sv + 1) % 4294967296)⟩]).length, kk4⟩ : Av).p (⟨1034, flagsOf 10415 false, 10415, p4, (enc [(⟨1048, 128, 10415, be4B 1⟩ : It), ⟨1046, 128, 10415, be4B sv⟩, ⟨1046, 128, 10415, be4B ((sv + 1) % 4294967296)⟩]).length, kk4⟩ : Av).n (⟨1034, flagsOf 10415 false, 10415, p4, (enc [(⟨1048, 128, 10415, be4B 1⟩ : It), ⟨1046, 128, 10415, be4B sv⟩, ⟨1046, 128, 10415, be4B ((sv + 1) % 4294967296)⟩]).length, kk4⟩ : Av).k) := by rw [cell_of_row _ _ _ _ _ _ hY.lies]; rfl
        simp only at t0 t1 t2 t3
        go_wp2_with (at_builtin; refine wpList_append_fits _ rfl _ _ 28 rfl 0 32 i0 4 Ybad.underlying28 hi hz1 (w.heap.size + 1 + 1 + 1) j n (avs.flatMap Av.cells) rfl (own_below HROW.out (hY.below.alloc hY.below.size _)) ⟨Y.heap.size, 0, none⟩ 1 1 (Av.cells ⟨1034, flagsOf 10415 false, 10415, p4, (enc [(⟨1048, 128, 10415, be4B 1⟩ : It), ⟨1046, 128, 10415, be4B sv⟩, ⟨1046, 128, 10415, be4B ((sv + 1) % 4294967296)⟩]).length, kk4⟩) rfl rfl ?c1 ?c2 ?c3 ?_)
        case c1 => first | exact fun j u h => h | exact World.news_of_block (cs := (Av.cells ⟨1034, flagsOf 10415 false, 10415, p4, (enc [(⟨1048, 128, 10415, be4B 1⟩ : It), ⟨1046, 128, 10415, be4B sv⟩, ⟨1046, 128, 10415, be4B ((sv + 1) % 4294967296)⟩]).length, kk4⟩).toArray) (t := 32) (fr := (0, 0)) (heap_alloc_new Y _)
        case c2 => simp [Av.cells, Value.oneCell']
        case c3 => omega
        intro Z hownZ hgrowZ
        clear t0 t1 t2 t3
        go_wp2_with fail
        go_roundw
        case rel =>
          refine ⟨j + 1, b0, b1, b2, b3, x0, x1, x2, x3, e, true, u, rfl, rfl, rfl, rfl, rfl, rfl, rfl, rfl, rfl, rfl, rfl, rfl, by go_num, by omega, ?_⟩
          have hrs := HRS.out
          exact rs_next hrs HS.out HALL.out (a := ⟨1034, flagsOf 10415 false, 10415, p4, (enc [(⟨1048, 128, 10415, be4B 1⟩ : It), ⟨1046, 128, 10415, be4B sv⟩, ⟨1046, 128, 10415, be4B ((sv + 1) % 4294967296)⟩]).length, kk4⟩) (but_of hY.below hgrowZ) hownZ (dat_of hY hgrowZ (by rw [EM.out]) (by rw [EM.out]; simp [flagsOf]) (by rw [EM.out]) (by rw [EM.out, ES.out]) (by simp) (by simp [flagsOf]) (by simp)) (runTo ss j) (by have h := HF.out; have h1 : (runTo ss j).2.2.2.2 ≠ 0 := (by rw [← h.2]; simpa using h.1.symm); rw [mstep, if_pos h1]) hrs.s0 hrs.s1 hrs.s2 hrs.s3 hrs.he hrs.hf (by rw [EU.out]; simp)
        case measure => simp [intOf]; omega
    | false =>
      go_upto_region 49 with fail
      go_region_held3 (fun W' => W'.cell? ⟨4, 0, none⟩ = some (.int .u32 1034) ∧ W'.cell? ⟨4, 1, none⟩ = some (.int .u32 10415) ∧ W'.cell? ⟨4, 2, none⟩ = some (.bool false) ∧ W'.cell? ⟨5, 0, none⟩ = some (.int .u32 1046) ∧ W'.cell? ⟨5, 1, none⟩ = some (.int .u32 10415) ∧ W'.cell? ⟨5, 2, none⟩ = some (.bool false) ∧ W'.cell? ⟨6, 0, none⟩ = some (.int .u32 1048) ∧ W'.cell? ⟨6, 1, none⟩ = some (.int .u32 10415) ∧ W'.cell? ⟨6, 2, none⟩ = some (.bool false) ∧ W'.cell? ⟨wr.heap.size, 2, none⟩ = some (.int .u32 sv)) (go_keep) (first
        | (go_at_call_of 7 (Value.int IntKind.u32 1048); refine (defU32_any 1048 10415 false 1 (by omega) (by omega) _).mono ?_; rintro e1 y1 ⟨gg1, cap1, rfl, hn1⟩; have hbn1 := hn1.below; (try replace hB1 := hB1.below hbn1); (try replace hB2 := hB2.below hbn1); (try replace hB3 := hB3.below hbn1); have hB1 := hn1.by4; replace G := G.below hbn1; replace T20 := (hbn1.block _ (lt_of_block T20)).trans T20; replace T21 := (hbn1.block _ (lt_of_block T21)).trans T21; replace hbc := hbc.trans (hbn1.mono hbc.size); replace hsz := Nat.le_trans hsz hbn1.size; have zb40 := G.g4.c0; have zb41 := G.g4.c1; have zb42 := G.g4.c2; have zb50 := G.g5.c0; have zb51 := G.g5.c1; have zb52 := G.g5.c2; have zb60 := G.g6.c0; have zb61 := G.g6.c1; have zb62 := G.g6.c2; have zb2 := cell20 T20)
        | (go_at_call_of 7 (Value.int IntKind.u32 sv); refine (defU32_any 1046 10415 false sv v1 v2 _).mono ?_; rintro e2 y2 ⟨gg2, cap2, rfl, hn2⟩; have hbn2 := hn2.below; (try replace hB1 := hB1.below hbn2); (try replace hB2 := hB2.below hbn2); (try replace hB3 := hB3.below hbn2); have hB2 := hn2.by4; replace G := G.below hbn2; replace T20 := (hbn2.block _ (lt_of_block T20)).trans T20; replace T21 := (hbn2.block _ (lt_of_block T21)).trans T21; replace hbc := hbc.trans (hbn2.mono hbc.size); replace hsz := Nat.le_trans hsz hbn2.size; have zb40 := G.g4.c0; have zb41 := G.g4.c1; have zb42 := G.g4.c2; have zb50 := G.g5.c0; have zb51 := G.g5.c1; have zb52 := G.g5.c2; have zb60 := G.g6.c0; have zb61 := G.g6.c1; have zb62 := G.g6.c2; have zb2 := cell20 T20)
        | (go_at_call 7; refine (defU32_any 1046 10415 false ((sv + 1) % 4294967296) (by omega) (by omega) _).mono ?_; rintro e3 y3 ⟨gg3, cap3, rfl, hn3⟩; have hbn3 := hn3.below; (try replace hB1 := hB1.below hbn3); (try replace hB2 := hB2.below hbn3); (try replace hB3 := hB3.below hbn3); have hB3 := hn3.by4; replace G := G.below hbn3; replace T20 := (hbn3.block _ (lt_of_block T20)).trans T20; replace T21 := (hbn3.block _ (lt_of_block T21)).trans T21; replace hbc := hbc.trans (hbn3.mono hbc.size); replace hsz := Nat.le_trans hsz hbn3.size; have zb40 := G.g4.c0; have zb41 := G.g4.c1; have zb42 := G.g4.c2; have zb50 := G.g5.c0; have zb51 := G.g5.c1; have zb52 := G.g5.c2; have zb60 := G.g6.c0; have zb61 := G.g6.c1; have zb62 := G.g6.c2; have zb2 := cell20 T20)
        | (go_at_call 8; refine (pack_any 1034 10415 false _ [(⟨1048, flagsOf 10415 false, 10415, some ⟨gg1, 0, none⟩, 4, cap1⟩ : Av), (⟨1046, flagsOf 10415 false, 10415, some ⟨gg2, 0, none⟩, 4, cap2⟩ : Av), (⟨1046, flagsOf 10415 false, 10415, some ⟨gg3, 0, none⟩, 4, cap3⟩ : Av)] [(⟨1048, 128, 10415, be4B 1⟩ : It), ⟨1046, 128, 10415, be4B sv⟩, ⟨1046, 128, 10415, be4B ((sv + 1) % 4294967296)⟩] _ ?_ ?_ (by simp) (by simp [be4B])).mono ?_; (exact ⟨rfl, .inr ⟨_, 3, _, rfl, Nat.zero_le _, heap_alloc_new _ _, Nat.le_refl _, by decide, rfl, rfl⟩⟩); (exact .cons ⟨rfl, by simp [flagsOf], rfl, by simp, by simp [flagsOf], by simp, hB1.below ((Below.refl _ _).alloc (Nat.le_refl _) _)⟩ (.cons ⟨rfl, by simp [flagsOf], rfl, by simp, by simp [flagsOf], by simp, hB2.below ((Below.refl _ _).alloc (Nat.le_refl _) _)⟩ (.cons ⟨rfl, by simp [flagsOf], rfl, by simp, by simp [flagsOf], by simp, hB3.below ((Below.refl _ _).alloc (Nat.le_refl _) _)⟩ .nil))); rintro e4 y4 ⟨p4, kk4, rfl, hnb⟩; have hB4 := (((Below.refl _ _).alloc (Nat.le_refl _) _).trans (hnb.below.mono (by simp))); obtain ⟨g0, g1, g2, g3, q0, q1, q2, q3, hT⟩ := four_kept T21 hB4; have G3 := G.below hB4; replace T20 := (hB4.block _ (lt_of_block T20)).trans T20; have hge := hnb.ge; replace hbc := hbc.trans (hB4.mono hbc.size); have zc40 := G3.g4.c0; have zc41 := G3.g4.c1; have zc42 := G3.g4.c2; have zc50 := G3.g5.c0; have zc51 := G3.g5.c1; have zc52 := G3.g5.c2; have zc60 := G3.g6.c0; have zc61 := G3.g6.c1; have zc62 := G3.g6.c2; have zc2 := cell20 T20))
      all_goals
        have hgp : ∀ q : Addr, p4 = some q → wr.heap.size + 1 + 1 ≤ q.block := fun q hq => Nat.le_trans hsz (Nat.le_trans (by simp) (hge q hq))
        have hne : ∀ q : Addr, p4 = some q → q.block ≠ wr.heap.size + 1 := fun q hq => by have := hgp q hq; omega
        have MM : Mem wr ((((y4.setCell ⟨wr.heap.size + 1, 0, none⟩ (.int .u32 1034)).setCell ⟨wr.heap.size + 1, 1, none⟩ (.int .u8 (flagsOf 10415 false))).setCell ⟨wr.heap.size + 1, 2, none⟩ (.int .u32 10415)).setCell ⟨wr.heap.size + 1, 3, none⟩ (.slice p4 (enc [(⟨1048, 128, 10415, be4B 1⟩ : It), ⟨1046, 128, 10415, be4B sv⟩, ⟨1046, 128, 10415, be4B ((sv + 1) % 4294967296)⟩]).length kk4)) (wr.heap.size + 1) (w.heap.size + 1 + 1 + 1) ⟨1034, flagsOf 10415 false, 10415, p4, (enc [(⟨1048, 128, 10415, be4B 1⟩ : It), ⟨1046, 128, 10415, be4B sv⟩, ⟨1046, 128, 10415, be4B ((sv + 1) % 4294967296)⟩]).length, kk4⟩ (enc [(⟨1048, 128, 10415, be4B 1⟩ : It), ⟨1046, 128, 10415, be4B sv⟩, ⟨1046, 128, 10415, be4B ((sv + 1) % 4294967296)⟩]) :=
          ⟨below4 hbc (by omega), set4 hT, (((hnb.byt.setCell _ _ hne).setCell _ _ hne).setCell _ _ hne).setCell _ _ hne, fun q hq => by have := hgp q hq; omega⟩
        clear hT hnb hB1 hB2 hB3 hB4 G G3 T20 T21 hne hbc hgp hge hsz hn1 hn2 hn3 hbn1 hbn2 hbn3
        go_upto_region 51 with fail
        go_quiet (fail)
        go_upto_region 76 with fail
        refine at_world (fun Y => Mem wr Y (wr.heap.size + 1) (w.heap.size + 1 + 1 + 1) ⟨1034, flagsOf 10415 false, 10415, p4, (enc [(⟨1048, 128, 10415, be4B 1⟩ : It), ⟨1046, 128, 10415, be4B sv⟩, ⟨1046, 128, 10415, be4B ((sv + 1) % 4294967296)⟩]).length, kk4⟩ (enc [(⟨1048, 128, 10415, be4B 1⟩ : It), ⟨1046, 128, 10415, be4B sv⟩, ⟨1046, 128, 10415, be4B ((sv + 1) % 4294967296)⟩])) ?_ (by first | exact MM | exact MM.drewN _ | exact MM.drew)
        intro Y hY
        clear MM
        have t0 : Y.cell? ⟨wr.heap.size + 1, 0, none⟩ = some (.int .u32 (⟨1034, flagsOf 10415 false, 10415, p4, (enc [(⟨1048, 128, 10415, be4B 1⟩ : It), ⟨1046, 128, 10415, be4B sv⟩, ⟨1046, 128, 10415, be4B ((sv + 1) % 4294967296)⟩]).length, kk4⟩ : Av).c) := by rw [cell_of_row _ _ _ _ _ _ hY.lies]; rfl
        have t1 : Y.cell? ⟨wr.heap.size + 1, 1, none⟩ = some (.int .u8 (⟨1034, flagsOf 10415 false, 10415, p4, (enc [(⟨1048, 128, 10415, be4B 1⟩ : It), ⟨1046, 128, 10415, be4B sv⟩, ⟨1046, 128, 10415, be4B ((sv + 1) % 4294967296)⟩]).length, kk4⟩ : Av).f) := by rw [cell_of_row _ _ _ _ _ _ hY.lies]; rfl
        have t2 : Y.cell? ⟨wr.heap.size + 1, 2, none⟩ = some (.int .u32 (⟨1034, flagsOf 10415 false, 10415, p4, (enc [(⟨1048, 128, 10415, be4B 1⟩ : It), ⟨1046, 128, 10415, be4B sv⟩, ⟨1046, 128, 10415, be4B ((sv + 1) % 4294967296)⟩]).length, kk4⟩ : Av).v) := by rw [cell_of_row _ _ _ _ _ _ hY.lies]; rfl
        have t3 : Y.cell? ⟨wr.heap.size + 1, 3, none⟩ = some (.slice (⟨1034, flagsOf 10415 false, 10415, p4, (enc [(⟨1048, 128, 10415, be4B 1⟩ : It), ⟨1046, 128, 10415, be4B sv⟩, ⟨1046, 128, 10415, be4B ((sv + 1) % 4294967296)⟩]).length, kk4⟩ : Av).p (⟨1034, flagsOf 10415 false, 10415, p4, (enc [(⟨1048, 128, 10415, be4B 1⟩ : It), ⟨1046, 128, 10415, be4B sv⟩, ⟨1046, 128, 10415, be4B ((sv + 1) % 4294967296)⟩]).length, kk4⟩ : Av).n (⟨1034, flagsOf 10415 false, 10415, p4, (enc [(⟨1048, 128, 10415, be4B 1⟩ : It), ⟨1046, 128, 10415, be4B sv⟩, ⟨1046, 128, 10415, be4B ((sv + 1) % 4294967296)⟩]).length, kk4⟩ : Av).k) := by rw [cell_of_row _ _ _ _ _ _ hY.lies]; rfl
        simp only at t0 t1 t2 t3
        go_wp2_with (at_builtin; refine wpList_append_fits _ rfl _ _ 28 rfl 0 32 i0 4 Ybad.underlying28 hi hz1 (w.heap.size + 1 + 1 + 1) j n (avs.flatMap Av.cells) rfl (own_below HROW.out (hY.below.alloc hY.below.size _)) ⟨Y.heap.size, 0, none⟩ 1 1 (Av.cells ⟨1034, flagsOf 10415 false, 10415, p4, (enc [(⟨1048, 128, 10415, be4B 1⟩ : It), ⟨1046, 128, 10415, be4B sv⟩, ⟨1046, 128, 10415, be4B ((sv + 1) % 4294967296)⟩]).length, kk4⟩) rfl rfl ?c1 ?c2 ?c3 ?_)
        case c1 => first | exact fun j u h => h | exact World.news_of_block (cs := (Av.cells ⟨1034, flagsOf 10415 false, 10415, p4, (enc [(⟨1048, 128, 10415, be4B 1⟩ : It), ⟨1046, 128, 10415, be4B sv⟩, ⟨1046, 128, 10415, be4B ((sv + 1) % 4294967296)⟩]).length, kk4⟩).toArray) (t := 32) (fr := (0, 0)) (heap_alloc_new Y _)
        case c2 => simp [Av.cells, Value.oneCell']
        case c3 => omega
        intro Z hownZ hgrowZ
        clear t0 t1 t2 t3
        go_wp2_with fail
        go_roundw
        case rel =>
          refine ⟨j + 1, b0, b1, b2, true, x0, x1, x2, sv, e, false, u, rfl, rfl, rfl, rfl, rfl, rfl, rfl, rfl, rfl, rfl, rfl, rfl, by go_num, by omega, ?_⟩
          have hrs := HRS.out
          exact rs_next hrs HS.out HALL.out (a := ⟨1034, flagsOf 10415 false, 10415, p4, (enc [(⟨1048, 128, 10415, be4B 1⟩ : It), ⟨1046, 128, 10415, be4B sv⟩, ⟨1046, 128, 10415, be4B ((sv + 1) % 4294967296)⟩]).length, kk4⟩) (but_of hY.below hgrowZ) hownZ (dat_of hY hgrowZ (by rw [EM.out]) (by rw [EM.out]; simp [flagsOf]) (by rw [EM.out]) (by rw [EM.out, ES.out]) (by simp) (by simp [flagsOf]) (by simp)) ((runTo ss j).1, (runTo ss j).2.1, (runTo ss j).2.2.1, some sv, 0) (by have h := HF.out; have h0 : (runTo ss j).2.2.2.2 = 0 := (by rw [← h.2]; simpa using h.1.symm); simp [mstep, h0, hop, hk1]) hrs.s0 hrs.s1 hrs.s2 (.inr ⟨rfl, rfl⟩) (by have h := HF.out; simpa using h.1.symm) (by have h := HF.out; exact h.1) (by rw [EU.out]; simp)
        case measure => simp [intOf]; omega
  by_cases hk2 : sk % 4 = 2
  · have k0b : (sk % 4 == 0) = false := by rw [hk2]; rfl
    have k1b : (sk % 4 == 1) = false := by rw [hk2]; rfl
    have k2b : (sk % 4 == 2) = true := by rw [hk2]; rfl
    have ES : Hid (sub ⟨sop, sk, sv⟩ = [(⟨1047, 128, 10415, be4B 0⟩ : It)]) := by show sub _ = _; simp [sub, hk2]
    have G1 := HG1.out
    have za40 := G1.g4.c0; have za41 := G1.g4.c1; have za42 := G1.g4.c2; have za70 := G1.g7.c0; have za71 := G1.g7.c1; have za72 := G1.g7.c2; 
    have za2 : ((wr.alloc (.cells #[.int .u8 sop, .int .u8 sk, .int .u32 sv] 30)).alloc (.cells #[.int .u32 0, .int .u8 0, .int .u32 0, .slice none 0 0] 32)).cell? ⟨wr.heap.size, 2, none⟩ = some (.int .u32 sv) := by rw [cell_of_row _ _ _ _ _ _ ((Below.heap_alloc _ _ _ (by simp)).trans (heap_alloc_new wr _))]; rfl
    have G : Glob ((wr.alloc (.cells #[.int .u8 sop, .int .u8 sk, .int .u32 sv] 30)).alloc (.cells #[.int .u32 0, .int .u8 0, .int .u32 0, .slice none 0 0] 32)).drew := G1.below ((Below.refl _ _).drew)
    have T20 : ((wr.alloc (.cells #[.int .u8 sop, .int .u8 sk, .int .u32 sv] 30)).alloc (.cells #[.int .u32 0, .int .u8 0, .int .u32 0, .slice none 0 0] 32)).drew.heap[wr.heap.size]? = some (.cells #[.int .u8 sop, .int .u8 sk, .int .u32 sv] 30 (0, 0)) := (Below.heap_alloc _ _ _ (by simp)).trans (heap_alloc_new wr _)
    have T21 : ((wr.alloc (.cells #[.int .u8 sop, .int .u8 sk, .int .u32 sv] 30)).alloc (.cells #[.int .u32 0, .int .u8 0, .int .u32 0, .slice none 0 0] 32)).drew.heap[wr.heap.size + 1]? = some (.cells #[.int .u32 0, .int .u8 0, .int .u32 0, .slice none 0 0] 32 (0, 0)) := heap_new2 wr _ _
    have HBAD1 : Hid (Bytes ((wr.alloc (.cells #[.int .u8 sop, .int .u8 sk, .int .u32 sv] 30)).alloc (.cells #[.int .u32 0, .int .u8 0, .int .u32 0, .slice none 0 0] 32)).drew (some ⟨w.heap.size + 1 + 1, 0, none⟩) 3 3 bad3) := HBAD.out.below hbW.drew
    have h7 : 7 < wr.heap.size := Nat.lt_of_lt_of_le (World.block_lt_of_cell? w _ HG.out.g7.c0) hbl.size
    have n4 : ¬ wr.heap.size + 1 = 4 := by omega
    have n4' : ¬ 4 = wr.heap.size + 1 := by omega
    have n7 : ¬ wr.heap.size + 1 = 7 := by omega
    have n7' : ¬ 7 = wr.heap.size + 1 := by omega
    clear G1
    cases f with
    | true =>
      go_upto_region 53 with fail
      go_region_held3 (fun W' => W'.cell? ⟨4, 0, none⟩ = some (.int .u32 1034) ∧ W'.cell? ⟨4, 1, none⟩ = some (.int .u32 10415) ∧ W'.cell? ⟨4, 2, none⟩ = some (.bool false) ∧ W'.cell? ⟨7, 0, none⟩ = some (.int .u32 1047) ∧ W'.cell? ⟨7, 1, none⟩ = some (.int .u32 10415) ∧ W'.cell? ⟨7, 2, none⟩ = some (.bool false) ∧ W'.cell? ⟨wr.heap.size, 2, none⟩ = some (.int .u32 sv)) (go_keep) (first
        | (go_at_call 7; refine (defU32_any 1047 10415 false 0 (by omega) (by omega) _).mono ?_; rintro e' y1 ⟨gg, cap, rfl, hn4⟩; have hbn := hn4.below; have hB1 := hn4.by4; replace G := G.below hbn; replace T20 := (hbn.block _ (lt_of_block T20)).trans T20; replace T21 := (hbn.block _ (lt_of_block T21)).trans T21; have zb40 := G.g4.c0; have zb41 := G.g4.c1; have zb42 := G.g4.c2; have zb70 := G.g7.c0; have zb71 := G.g7.c1; have zb72 := G.g7.c2; have zb2 : y1.cell? ⟨wr.heap.size, 2, none⟩ = some (.int .u32 sv) := (by rw [cell_of_row _ _ _ _ _ _ T20]; rfl))
        | (go_at_call 8; refine (pack_any 1034 10415 false _ [(⟨1047, flagsOf 10415 false, 10415, some ⟨gg, 0, none⟩, 4, cap⟩ : Av)] [(⟨1047, 128, 10415, be4B 0⟩ : It)] _ ?_ ?_ (by simp) (by simp [be4B])).mono ?_; (exact ⟨rfl, .inr ⟨y1.heap.size, 1, _, rfl, Nat.zero_le _, heap_alloc_new y1 _, Nat.le_refl _, by decide, rfl, rfl⟩⟩); (exact .cons ⟨rfl, by simp [flagsOf], rfl, by simp, by simp [flagsOf], by simp, hB1.below ((Below.refl _ _).alloc (Nat.le_refl _) _)⟩ .nil); rintro e2 y2 ⟨p2, kk2, rfl, hnb⟩; have hB2 := (((Below.refl _ y1).alloc (Nat.le_refl _) _).trans (hnb.below.mono (by simp))); obtain ⟨g0, g1, g2, g3, q0, q1, q2, q3, hT⟩ := four_kept T21 hB2; have G3 := G.below hB2; have zc40 := G3.g4.c0; have zc41 := G3.g4.c1; have zc42 := G3.g4.c2; have zc70 := G3.g7.c0; have zc71 := G3.g7.c1; have zc72 := G3.g7.c2; have zc2 : y2.cell? ⟨wr.heap.size, 2, none⟩ = some (.int .u32 sv) := (hB2.cell (p := ⟨wr.heap.size, 2, none⟩) (World.block_lt_of_cell? y1 _ zb2)).trans zb2))
      have hby : Below wr.heap.size wr y2 := (hbW.drew.trans (hbn.mono (by simp [World.drew]; omega))).trans (hB2.mono (Nat.le_trans hbW.size hbn.size))
      have hgp : ∀ q : Addr, p2 = some q → wr.heap.size + 1 + 1 ≤ q.block := fun q hq => Nat.le_trans (Nat.le_trans (by simp [World.drew]) hbn.size) (Nat.le_trans (by simp) (hnb.ge q hq))
      have hne : ∀ q : Addr, p2 = some q → q.block ≠ wr.heap.size + 1 := fun q hq => by have := hgp q hq; omega
      have MM : Mem wr ((((y2.setCell ⟨wr.heap.size + 1, 0, none⟩ (.int .u32 1034)).setCell ⟨wr.heap.size + 1, 1, none⟩ (.int .u8 (flagsOf 10415 false))).setCell ⟨wr.heap.size + 1, 2, none⟩ (.int .u32 10415)).setCell ⟨wr.heap.size + 1, 3, none⟩ (.slice p2 (enc [(⟨1047, 128, 10415, be4B 0⟩ : It)]).length kk2)) (wr.heap.size + 1) (w.heap.size + 1 + 1 + 1) ⟨1034, flagsOf 10415 false, 10415, p2, (enc [(⟨1047, 128, 10415, be4B 0⟩ : It)]).length, kk2⟩ (enc [(⟨1047, 128, 10415, be4B 0⟩ : It)]) :=
        ⟨below4 hby (by omega), set4 hT, (((hnb.byt.setCell _ _ hne).setCell _ _ hne).setCell _ _ hne).setCell _ _ hne, fun q hq => by have := hgp q hq; omega⟩
      clear hT hnb hB1 hB2 G G3 T20 T21 hne hby hgp
      go_upto_region 76 with fail
      refine at_world (fun Y => Mem wr Y (wr.heap.size + 1) (w.heap.size + 1 + 1 + 1) ⟨1034, flagsOf 10415 false, 10415, p2, (enc [(⟨1047, 128, 10415, be4B 0⟩ : It)]).length, kk2⟩ (enc [(⟨1047, 128, 10415, be4B 0⟩ : It)])) ?_ (by first | exact MM | exact MM.drewN _ | exact MM.drew)
      intro Y hY
      clear MM
      have t0 : Y.cell? ⟨wr.heap.size + 1, 0, none⟩ = some (.int .u32 (⟨1034, flagsOf 10415 false, 10415, p2, (enc [(⟨1047, 128, 10415, be4B 0⟩ : It)]).length, kk2⟩ : Av).c) := by rw [cell_of_row _ _ _ _ _ _ hY.lies]; rfl
      have t1 : Y.cell? ⟨wr.heap.size + 1, 1, none⟩ = some (.int .u8 (⟨1034, flagsOf 10415 false, 10415, p2, (enc [(⟨1047, 128, 10415, be4B 0⟩ : It)]).length, kk2⟩ : Av).f) := by rw [cell_of_row _ _ _ _ _ _ hY.lies]; rfl
      have t2 : Y.cell? ⟨wr.heap.size + 1, 2, none⟩ = some (.int .u32 (⟨1034, flagsOf 10415 false, 10415, p2, (enc [(⟨1047, 128, 10415, be4B 0⟩ : It)]).length, kk2⟩ : Av).v) := by rw [cell_of_row _ _ _ _ _ _ hY.lies]; rfl
      have t3 : Y.cell? ⟨wr.heap.size + 1, 3, none⟩ = some (.slice (⟨1034, flagsOf 10415 false, 10415, p2, (enc [(⟨1047, 128, 10415, be4B 0⟩ : It)]).length, kk2⟩ : Av).p (⟨1034, flagsOf 10415 false, 10415, p2, (enc [(⟨1047, 128, 10415, be4B 0⟩ : It)]).length, kk2⟩ : Av).n (⟨1034, flagsOf 10415 false, 10415, p2, (enc [(⟨1047, 128, 10415, be4B 0⟩ : It)]).length, kk2⟩ : Av).k) := by rw [cell_of_row _ _ _ _ _ _ hY.lies]; rfl
      simp only at t0 t1 t2 t3
      go_wp2_with (at_builtin; refine wpList_append_fits _ rfl _ _ 28 rfl 0 32 i0 4 Ybad.underlying28 hi hz1 (w.heap.size + 1 + 1 + 1) j n (avs.flatMap Av.cells) rfl (own_below HROW.out (hY.below.alloc hY.below.size _)) ⟨Y.heap.size, 0, none⟩ 1 1 (Av.cells ⟨1034, flagsOf 10415 false, 10415, p2, (enc [(⟨1047, 128, 10415, be4B 0⟩ : It)]).length, kk2⟩) rfl rfl ?c1 ?c2 ?c3 ?_)
      case c1 => first | exact fun j u h => h | exact World.news_of_block (cs := (Av.cells ⟨1034, flagsOf 10415 false, 10415, p2, (enc [(⟨1047, 128, 10415, be4B 0⟩ : It)]).length, kk2⟩).toArray) (t := 32) (fr := (0, 0)) (heap_alloc_new Y _)
      case c2 => simp [Av.cells, Value.oneCell']
      case c3 => omega
      intro Z hownZ hgrowZ
      clear t0 t1 t2 t3
      go_wp2_with fail
      go_roundw
      case rel =>
        refine ⟨j + 1, b0, b1, b2, b3, x0, x1, x2, x3, e, true, u, rfl, rfl, rfl, rfl, rfl, rfl, rfl, rfl, rfl, rfl, rfl, rfl, by go_num, by omega, ?_⟩
        have hrs := HRS.out
        exact rs_next hrs HS.out HALL.out (a := ⟨1034, flagsOf 10415 false, 10415, p2, (enc [(⟨1047, 128, 10415, be4B 0⟩ : It)]).length, kk2⟩) (but_of hY.below hgrowZ) hownZ (dat_of hY hgrowZ (by rw [EM.out]) (by rw [EM.out]; simp [flagsOf]) (by rw [EM.out]) (by rw [EM.out, ES.out]) (by simp) (by simp [flagsOf]) (by simp)) (runTo ss j) (by have h := HF.out; have h1 : (runTo ss j).2.2.2.2 ≠ 0 := (by rw [← h.2]; simpa using h.1.symm); rw [mstep, if_pos h1]) hrs.s0 hrs.s1 hrs.s2 hrs.s3 hrs.he hrs.hf (by rw [EU.out]; simp)
      case measure => simp [intOf]; omega
    | false =>
      go_upto_region 53 with fail
      go_region_held3 (fun W' => W'.cell? ⟨4, 0, none⟩ = some (.int .u32 1034) ∧ W'.cell? ⟨4, 1, none⟩ = some (.int .u32 10415) ∧ W'.cell? ⟨4, 2, none⟩ = some (.bool false) ∧ W'.cell? ⟨7, 0, none⟩ = some (.int .u32 1047) ∧ W'.cell? ⟨7, 1, none⟩ = some (.int .u32 10415) ∧ W'.cell? ⟨7, 2, none⟩ = some (.bool false) ∧ W'.cell? ⟨wr.heap.size, 2, none⟩ = some (.int .u32 sv)) (go_keep) (first
        | (go_at_call 7; refine (defU32_any 1047 10415 false 0 (by omega) (by omega) _).mono ?_; rintro e' y1 ⟨gg, cap, rfl, hn4⟩; have hbn := hn4.below; have hB1 := hn4.by4; replace G := G.below hbn; replace T20 := (hbn.block _ (lt_of_block T20)).trans T20; replace T21 := (hbn.block _ (lt_of_block T21)).trans T21; have zb40 := G.g4.c0; have zb41 := G.g4.c1; have zb42 := G.g4.c2; have zb70 := G.g7.c0; have zb71 := G.g7.c1; have zb72 := G.g7.c2; have zb2 : y1.cell? ⟨wr.heap.size, 2, none⟩ = some (.int .u32 sv) := (by rw [cell_of_row _ _ _ _ _ _ T20]; rfl))
        | (go_at_call 8; refine (pack_any 1034 10415 false _ [(⟨1047, flagsOf 10415 false, 10415, some ⟨gg, 0, none⟩, 4, cap⟩ : Av)] [(⟨1047, 128, 10415, be4B 0⟩ : It)] _ ?_ ?_ (by simp) (by simp [be4B])).mono ?_; (exact ⟨rfl, .inr ⟨y1.heap.size, 1, _, rfl, Nat.zero_le _, heap_alloc_new y1 _, Nat.le_refl _, by decide, rfl, rfl⟩⟩); (exact .cons ⟨rfl, by simp [flagsOf], rfl, by simp, by simp [flagsOf], by simp, hB1.below ((Below.refl _ _).alloc (Nat.le_refl _) _)⟩ .nil); rintro e2 y2 ⟨p2, kk2, rfl, hnb⟩; have hB2 := (((Below.refl _ y1).alloc (Nat.le_refl _) _).trans (hnb.below.mono (by simp))); obtain ⟨g0, g1, g2, g3, q0, q1, q2, q3, hT⟩ := four_kept T21 hB2; have G3 := G.below hB2; have zc40 := G3.g4.c0; have zc41 := G3.g4.c1; have zc42 := G3.g4.c2; have zc70 := G3.g7.c0; have zc71 := G3.g7.c1; have zc72 := G3.g7.c2; have zc2 : y2.cell? ⟨wr.heap.size, 2, none⟩ = some (.int .u32 sv) := (hB2.cell (p := ⟨wr.heap.size, 2, none⟩) (World.block_lt_of_cell? y1 _ zb2)).trans zb2))
      have hby : Below wr.heap.size wr y2 := (hbW.drew.trans (hbn.mono (by simp [World.drew]; omega))).trans (hB2.mono (Nat.le_trans hbW.size hbn.size))
      have hgp : ∀ q : Addr, p2 = some q → wr.heap.size + 1 + 1 ≤ q.block := fun q hq => Nat.le_trans (Nat.le_trans (by simp [World.drew]) hbn.size) (Nat.le_trans (by simp) (hnb.ge q hq))
      have hne : ∀ q : Addr, p2 = some q → q.block ≠ wr.heap.size + 1 := fun q hq => by have := hgp q hq; omega
      have MM : Mem wr ((((y2.setCell ⟨wr.heap.size + 1, 0, none⟩ (.int .u32 1034)).setCell ⟨wr.heap.size + 1, 1, none⟩ (.int .u8 (flagsOf 10415 false))).setCell ⟨wr.heap.size + 1, 2, none⟩ (.int .u32 10415)).setCell ⟨wr.heap.size + 1, 3, none⟩ (.slice p2 (enc [(⟨1047, 128, 10415, be4B 0⟩ : It)]).length kk2)) (wr.heap.size + 1) (w.heap.size + 1 + 1 + 1) ⟨1034, flagsOf 10415 false, 10415, p2, (enc [(⟨1047, 128, 10415, be4B 0⟩ : It)]).length, kk2⟩ (enc [(⟨1047, 128, 10415, be4B 0⟩ : It)]) :=
        ⟨below4 hby (by omega), set4 hT, (((hnb.byt.setCell _ _ hne).setCell _ _ hne).setCell _ _ hne).setCell _ _ hne, fun q hq => by have := hgp q hq; omega⟩
      clear hT hnb hB1 hB2 G G3 T20 T21 hne hby hgp
      go_upto_region 76 with fail
      refine at_world (fun Y => Mem wr Y (wr.heap.size + 1) (w.heap.size + 1 + 1 + 1) ⟨1034, flagsOf 10415 false, 10415, p2, (enc [(⟨1047, 128, 10415, be4B 0⟩ : It)]).length, kk2⟩ (enc [(⟨1047, 128, 10415, be4B 0⟩ : It)])) ?_ (by first | exact MM | exact MM.drewN _ | exact MM.drew)
      intro Y hY
      clear MM
      have t0 : Y.cell? ⟨wr.heap.size + 1, 0, none⟩ = some (.int .u32 (⟨1034, flagsOf 10415 false, 10415, p2, (enc [(⟨1047, 128, 10415, be4B 0⟩ : It)]).length, kk2⟩ : Av).c) := by rw [cell_of_row _ _ _ _ _ _ hY.lies]; rfl
      have t1 : Y.cell? ⟨wr.heap.size + 1, 1, none⟩ = some (.int .u8 (⟨1034, flagsOf 10415 false, 10415, p2, (enc [(⟨1047, 128, 10415, be4B 0⟩ : It)]).length, kk2⟩ : Av).f) := by rw [cell_of_row _ _ _ _ _ _ hY.lies]; rfl
      have t2 : Y.cell? ⟨wr.heap.size + 1, 2, none⟩ = some (.int .u32 (⟨1034, flagsOf 10415 false, 10415, p2, (enc [(⟨1047, 128, 10415, be4B 0⟩ : It)]).length, kk2⟩ : Av).v) := by rw [cell_of_row _ _ _ _ _ _ hY.lies]; rfl
      have t3 : Y.cell? ⟨wr.heap.size + 1, 3, none⟩ = some (.slice (⟨1034, flagsOf 10415 false, 10415, p2, (enc [(⟨1047, 128, 10415, be4B 0⟩ : It)]).length, kk2⟩ : Av).p (⟨1034, flagsOf 10415 false, 10415, p2, (enc [(⟨1047, 128, 10415, be4B 0⟩ : It)]).length, kk2⟩ : Av).n (⟨1034, flagsOf 10415 false, 10415, p2, (enc [(⟨1047, 128, 10415, be4B 0⟩ : It)]).length, kk2⟩ : Av).k) := by rw [cell_of_row _ _ _ _ _ _ hY.lies]; rfl
      simp only at t0 t1 t2 t3
      go_wp2_with (at_builtin; refine wpList_append_fits _ rfl _ _ 28 rfl 0 32 i0 4 Ybad.underlying28 hi hz1 (w.heap.size + 1 + 1 + 1) j n (avs.flatMap Av.cells) rfl (own_below HROW.out (hY.below.alloc hY.below.size _)) ⟨Y.heap.size, 0, none⟩ 1 1 (Av.cells ⟨1034, flagsOf 10415 false, 10415, p2, (enc [(⟨1047, 128, 10415, be4B 0⟩ : It)]).length, kk2⟩) rfl rfl ?c1 ?c2 ?c3 ?_)
      case c1 => first | exact fun j u h => h | exact World.news_of_block (cs := (Av.cells ⟨1034, flagsOf 10415 false, 10415, p2, (enc [(⟨1047, 128, 10415, be4B 0⟩ : It)]).length, kk2⟩).toArray) (t := 32) (fr := (0, 0)) (heap_alloc_new Y _)
      case c2 => simp [Av.cells, Value.oneCell']
      case c3 => omega
      intro Z hownZ hgrowZ
      clear t0 t1 t2 t3
      go_wp2_with fail
      go_roundw
      case rel =>
        refine ⟨j + 1, b0, b1, b2, false, x0, x1, x2, x3, 5005, true, u, rfl, rfl, rfl, rfl, rfl, rfl, rfl, rfl, rfl, rfl, rfl, rfl, by go_num, by omega, ?_⟩
        have hrs := HRS.out
        exact rs_next hrs HS.out HALL.out (a := ⟨1034, flagsOf 10415 false, 10415, p2, (enc [(⟨1047, 128, 10415, be4B 0⟩ : It)]).length, kk2⟩) (but_of hY.below hgrowZ) hownZ (dat_of hY hgrowZ (by rw [EM.out]) (by rw [EM.out]; simp [flagsOf]) (by rw [EM.out]) (by rw [EM.out, ES.out]) (by simp) (by simp [flagsOf]) (by simp)) ((runTo ss j).1, (runTo ss j).2.1, (runTo ss j).2.2.1, none, 5005) (by have h := HF.out; have h0 : (runTo ss j).2.2.2.2 = 0 := (by rw [← h.2]; simpa using h.1.symm); simp [mstep, h0, hop, hk2]) hrs.s0 hrs.s1 hrs.s2 (.inl ⟨rfl, rfl⟩) rfl rfl (by rw [EU.out]; simp)
      case measure => simp [intOf]; omega
  · have k0b : (sk % 4 == 0) = false := by simpa using hk0
    have k1b : (sk % 4 == 1) = false := by simpa using hk1
    have k2b : (sk % 4 == 2) = false := by simpa using hk2
    have ES : Hid (sub ⟨sop, sk, sv⟩ = [(⟨1046, 128, 10415, bad3⟩ : It)]) := by show sub _ = _; simp [sub, hk0, hk1, hk2]
    have G1 := HG1.out
    have za40 := G1.g4.c0; have za41 := G1.g4.c1; have za42 := G1.g4.c2; have za50 := G1.g5.c0; have za51 := G1.g5.c1; have za52 := G1.g5.c2; 
    have za2 : ((wr.alloc (.cells #[.int .u8 sop, .int .u8 sk, .int .u32 sv] 30)).alloc (.cells #[.int .u32 0, .int .u8 0, .int .u32 0, .slice none 0 0] 32)).cell? ⟨wr.heap.size, 2, none⟩ = some (.int .u32 sv) := by rw [cell_of_row _ _ _ _ _ _ ((Below.heap_alloc _ _ _ (by simp)).trans (heap_alloc_new wr _))]; rfl
    have G : Glob ((wr.alloc (.cells #[.int .u8 sop, .int .u8 sk, .int .u32 sv] 30)).alloc (.cells #[.int .u32 0, .int .u8 0, .int .u32 0, .slice none 0 0] 32)).drew := G1.below ((Below.refl _ _).drew)
    have T20 : ((wr.alloc (.cells #[.int .u8 sop, .int .u8 sk, .int .u32 sv] 30)).alloc (.cells #[.int .u32 0, .int .u8 0, .int .u32 0, .slice none 0 0] 32)).drew.heap[wr.heap.size]? = some (.cells #[.int .u8 sop, .int .u8 sk, .int .u32 sv] 30 (0, 0)) := (Below.heap_alloc _ _ _ (by simp)).trans (heap_alloc_new wr _)
    have T21 : ((wr.alloc (.cells #[.int .u8 sop, .int .u8 sk, .int .u32 sv] 30)).alloc (.cells #[.int .u32 0, .int .u8 0, .int .u32 0, .slice none 0 0] 32)).drew.heap[wr.heap.size + 1]? = some (.cells #[.int .u32 0, .int .u8 0, .int .u32 0, .slice none 0 0] 32 (0, 0)) := heap_new2 wr _ _
    have HBAD1 : Hid (Bytes ((wr.alloc (.cells #[.int .u8 sop, .int .u8 sk, .int .u32 sv] 30)).alloc (.cells #[.int .u32 0, .int .u8 0, .int .u32 0, .slice none 0 0] 32)).drew (some ⟨w.heap.size + 1 + 1, 0, none⟩) 3 3 bad3) := HBAD.out.below hbW.drew
    have h7 : 7 < wr.heap.size := Nat.lt_of_lt_of_le (World.block_lt_of_cell? w _ HG.out.g7.c0) hbl.size
    have n4 : ¬ wr.heap.size + 1 = 4 := by omega
    have n4' : ¬ 4 = wr.heap.size + 1 := by omega
    have n5 : ¬ wr.heap.size + 1 = 5 := by omega
    have n5' : ¬ 5 = wr.heap.size + 1 := by omega
    clear G1
    cases f with
    | true =>
      go_upto_region 39 with fail
      go_region_held3 (fun W' => W'.cell? ⟨4, 0, none⟩ = some (.int .u32 1034) ∧ W'.cell? ⟨4, 1, none⟩ = some (.int .u32 10415) ∧ W'.cell? ⟨4, 2, none⟩ = some (.bool false) ∧ W'.cell? ⟨5, 0, none⟩ = some (.int .u32 1046) ∧ W'.cell? ⟨5, 1, none⟩ = some (.int .u32 10415) ∧ W'.cell? ⟨5, 2, none⟩ = some (.bool false) ∧ W'.cell? ⟨wr.heap.size, 2, none⟩ = some (.int .u32 sv)) (go_keep) (first
        | (go_at_call 9; refine (bytes_any 1046 10415 false (some ⟨w.heap.size + 1 + 1, 0, none⟩) 3 3 _).mono ?_; rintro e' y1 ⟨rfl, hbn⟩; have hB1 := HBAD1.out.below hbn; replace G := G.below hbn; replace T20 := (hbn.block _ (lt_of_block T20)).trans T20; replace T21 := (hbn.block _ (lt_of_block T21)).trans T21; have zb40 := G.g4.c0; have zb41 := G.g4.c1; have zb42 := G.g4.c2; have zb50 := G.g5.c0; have zb51 := G.g5.c1; have zb52 := G.g5.c2; have zb2 : y1.cell? ⟨wr.heap.size, 2, none⟩ = some (.int .u32 sv) := (by rw [cell_of_row _ _ _ _ _ _ T20]; rfl))
        | (go_at_call 8; refine (pack_any 1034 10415 false _ [(⟨1046, flagsOf 10415 false, 10415, some ⟨w.heap.size + 1 + 1, 0, none⟩, 3, 3⟩ : Av)] [(⟨1046, 128, 10415, bad3⟩ : It)] _ ?_ ?_ (by simp) (by simp [bad3])).mono ?_; (exact ⟨rfl, .inr ⟨y1.heap.size, 1, _, rfl, Nat.zero_le _, heap_alloc_new y1 _, Nat.le_refl _, by decide, rfl, rfl⟩⟩); (exact .cons ⟨rfl, by simp [flagsOf], rfl, by simp, by simp [flagsOf], by simp, hB1.below ((Below.refl _ _).alloc (Nat.le_refl _) _)⟩ .nil); rintro e2 y2 ⟨p2, kk2, rfl, hnb⟩; have hB2 := (((Below.refl _ y1).alloc (Nat.le_refl _) _).trans (hnb.below.mono (by simp))); obtain ⟨g0, g1, g2, g3, q0, q1, q2, q3, hT⟩ := four_kept T21 hB2; have G3 := G.below hB2; have zc40 := G3.g4.c0; have zc41 := G3.g4.c1; have zc42 := G3.g4.c2; have zc50 := G3.g5.c0; have zc51 := G3.g5.c1; have zc52 := G3.g5.c2; have zc2 : y2.cell? ⟨wr.heap.size, 2, none⟩ = some (.int .u32 sv) := (hB2.cell (p := ⟨wr.heap.size, 2, none⟩) (World.block_lt_of_cell? y1 _ zb2)).trans zb2))
      have hby : Below wr.heap.size wr y2 := (hbW.drew.trans (hbn.mono (by simp [World.drew]; omega))).trans (hB2.mono (Nat.le_trans hbW.size hbn.size))
      have hgp : ∀ q : Addr, p2 = some q → wr.heap.size + 1 + 1 ≤ q.block := fun q hq => Nat.le_trans (Nat.le_trans (by simp [World.drew]) hbn.size) (Nat.le_trans (by simp) (hnb.ge q hq))
      have hne : ∀ q : Addr, p2 = some q → q.block ≠ wr.heap.size + 1 := fun q hq => by have := hgp q hq; omega
      have MM : Mem wr ((((y2.setCell ⟨wr.heap.size + 1, 0, none⟩ (.int .u32 1034)).setCell ⟨wr.heap.size + 1, 1, none⟩ (.int .u8 (flagsOf 10415 false))).setCell ⟨wr.heap.size + 1, 2, none⟩ (.int .u32 10415)).setCell ⟨wr.heap.size + 1, 3, none⟩ (.slice p2 (enc [(⟨1046, 128, 10415, bad3⟩ : It)]).length kk2)) (wr.heap.size + 1) (w.heap.size + 1 + 1 + 1) ⟨1034, flagsOf 10415 false, 10415, p2, (enc [(⟨1046, 128, 10415, bad3⟩ : It)]).length, kk2⟩ (enc [(⟨1046, 128, 10415, bad3⟩ : It)]) :=
        ⟨below4 hby (by omega), set4 hT, (((hnb.byt.setCell _ _ hne).setCell _ _ hne).setCell _ _ hne).setCell _ _ hne, fun q hq => by have := hgp q hq; omega⟩
      clear hT hnb hB1 hB2 G G3 T20 T21 hne hby hgp
      go_upto_region 76 with fail
      refine at_world (fun Y => Mem wr Y (wr.heap.size + 1) (w.heap.size + 1 + 1 + 1) ⟨1034, flagsOf 10415 false, 10415, p2, (enc [(⟨1046, 128, 10415, bad3⟩ : It)]).length, kk2⟩ (enc [(⟨1046, 128, 10415, bad3⟩ : It)])) ?_ (by first | exact MM | exact MM.drewN _ | exact MM.drew)
      intro Y hY
      clear MM
      have t0 : Y.cell? ⟨wr.heap.size + 1, 0, none⟩ = some (.int .u32 (⟨1034, flagsOf 10415 false, 10415, p2, (enc [(⟨1046, 128, 10415, bad3⟩ : It)]).length, kk2⟩ : Av).c) := by rw [cell_of_row _ _ _ _ _ _ hY.lies]; rfl
      have t1 : Y.cell? ⟨wr.heap.size + 1, 1, none⟩ = some (.int .u8 (⟨1034, flagsOf 10415 false, 10415, p2, (enc [(⟨1046, 128, 10415, bad3⟩ : It)]).length, kk2⟩ : Av).f) := by rw [cell_of_row _ _ _ _ _ _ hY.lies]; rfl
      have t2 : Y.cell? ⟨wr.heap.size + 1, 2, none⟩ = some (.int .u32 (⟨1034, flagsOf 10415 false, 10415, p2, (enc [(⟨1046, 128, 10415, bad3⟩ : It)]).length, kk2⟩ : Av).v) := by rw [cell_of_row _ _ _ _ _ _ hY.lies]; rfl
      have t3 : Y.cell? ⟨wr.heap.size + 1, 3, none⟩ = some (.slice (⟨1034, flagsOf 10415 false, 10415, p2, (enc [(⟨1046, 128, 10415, bad3⟩ : It)]).length, kk2⟩ : Av).p (⟨1034, flagsOf 10415 false, 10415, p2, (enc [(⟨1046, 128, 10415, bad3⟩ : It)]).length, kk2⟩ : Av).n (⟨1034, flagsOf 10415 false, 10415, p2, (enc [(⟨1046, 128, 10415, bad3⟩ : It)]).length, kk2⟩ : Av).k) := by rw [cell_of_row _ _ _ _ _ _ hY.lies]; rfl
      simp only at t0 t1 t2 t3
      go_wp2_with (at_builtin; refine wpList_append_fits _ rfl _ _ 28 rfl 0 32 i0 4 Ybad.underlying28 hi hz1 (w.heap.size + 1 + 1 + 1) j n (avs.flatMap Av.cells) rfl (own_below HROW.out (hY.below.alloc hY.below.size _)) ⟨Y.heap.size, 0, none⟩ 1 1 (Av.cells ⟨1034, flagsOf 10415 false, 10415, p2, (enc [(⟨1046, 128, 10415, bad3⟩ : It)]).length, kk2⟩) rfl rfl ?c1 ?c2 ?c3 ?_)
      case c1 => first | exact fun j u h => h | exact World.news_of_block (cs := (Av.cells ⟨1034, flagsOf 10415 false, 10415, p2, (enc [(⟨1046, 128, 10415, bad3⟩ : It)]).length, kk2⟩).toArray) (t := 32) (fr := (0, 0)) (heap_alloc_new Y _)
      case c2 => simp [Av.cells, Value.oneCell']
      case c3 => omega
      intro Z hownZ hgrowZ
      clear t0 t1 t2 t3
      go_wp2_with fail
      go_roundw
      case rel =>
        refine ⟨j + 1, b0, b1, b2, b3, x0, x1, x2, x3, e, true, u, rfl, rfl, rfl, rfl, rfl, rfl, rfl, rfl, rfl, rfl, rfl, rfl, by go_num, by omega, ?_⟩
        have hrs := HRS.out
        exact rs_next hrs HS.out HALL.out (a := ⟨1034, flagsOf 10415 false, 10415, p2, (enc [(⟨1046, 128, 10415, bad3⟩ : It)]).length, kk2⟩) (but_of hY.below hgrowZ) hownZ (dat_of hY hgrowZ (by rw [EM.out]) (by rw [EM.out]; simp [flagsOf]) (by rw [EM.out]) (by rw [EM.out, ES.out]) (by simp) (by simp [flagsOf]) (by simp)) (runTo ss j) (by have h := HF.out; have h1 : (runTo ss j).2.2.2.2 ≠ 0 := (by rw [← h.2]; simpa using h.1.symm); rw [mstep, if_pos h1]) hrs.s0 hrs.s1 hrs.s2 hrs.s3 hrs.he hrs.hf (by rw [EU.out]; simp)
      case measure => simp [intOf]; omega
    | false =>
      go_upto_region 39 with fail
      go_region_held3 (fun W' => W'.cell? ⟨4, 0, none⟩ = some (.int .u32 1034) ∧ W'.cell? ⟨4, 1, none⟩ = some (.int .u32 10415) ∧ W'.cell? ⟨4, 2, none⟩ = some (.bool false) ∧ W'.cell? ⟨5, 0, none⟩ = some (.int .u32 1046) ∧ W'.cell? ⟨5, 1, none⟩ = some (.int .u32 10415) ∧ W'.cell? ⟨5, 2, none⟩ = some (.bool false) ∧ W'.cell? ⟨wr.heap.size, 2, none⟩ = some (.int .u32 sv)) (go_keep) (first
        | (go_at_call 9; refine (bytes_any 1046 10415 false (some ⟨w.heap.size + 1 + 1, 0, none⟩) 3 3 _).mono ?_; rintro e' y1 ⟨rfl, hbn⟩; have hB1 := HBAD1.out.below hbn; replace G := G.below hbn; replace T20 := (hbn.block _ (lt_of_block T20)).trans T20; replace T21 := (hbn.block _ (lt_of_block T21)).trans T21; have zb40 := G.g4.c0; have zb41 := G.g4.c1; have zb42 := G.g4.c2; have zb50 := G.g5.c0; have zb51 := G.g5.c1; have zb52 := G.g5.c2; have zb2 : y1.cell? ⟨wr.heap.size, 2, none⟩ = some (.int .u32 sv) := (by rw [cell_of_row _ _ _ _ _ _ T20]; rfl))
        | (go_at_call 8; refine (pack_any 1034 10415 false _ [(⟨1046, flagsOf 10415 false, 10415, some ⟨w.heap.size + 1 + 1, 0, none⟩, 3, 3⟩ : Av)] [(⟨1046, 128, 10415, bad3⟩ : It)] _ ?_ ?_ (by simp) (by simp [bad3])).mono ?_; (exact ⟨rfl, .inr ⟨y1.heap.size, 1, _, rfl, Nat.zero_le _, heap_alloc_new y1 _, Nat.le_refl _, by decide, rfl, rfl⟩⟩); (exact .cons ⟨rfl, by simp [flagsOf], rfl, by simp, by simp [flagsOf], by simp, hB1.below ((Below.refl _ _).alloc (Nat.le_refl _) _)⟩ .nil); rintro e2 y2 ⟨p2, kk2, rfl, hnb⟩; have hB2 := (((Below.refl _ y1).alloc (Nat.le_refl _) _).trans (hnb.below.mono (by simp))); obtain ⟨g0, g1, g2, g3, q0, q1, q2, q3, hT⟩ := four_kept T21 hB2; have G3 := G.below hB2; have zc40 := G3.g4.c0; have zc41 := G3.g4.c1; have zc42 := G3.g4.c2; have zc50 := G3.g5.c0; have zc51 := G3.g5.c1; have zc52 := G3.g5.c2; have zc2 : y2.cell? ⟨wr.heap.size, 2, none⟩ = some (.int .u32 sv) := (hB2.cell (p := ⟨wr.heap.size, 2, none⟩) (World.block_lt_of_cell? y1 _ zb2)).trans zb2))
      have hby : Below wr.heap.size wr y2 := (hbW.drew.trans (hbn.mono (by simp [World.drew]; omega))).trans (hB2.mono (Nat.le_trans hbW.size hbn.size))
      have hgp : ∀ q : Addr, p2 = some q → wr.heap.size + 1 + 1 ≤ q.block := fun q hq => Nat.le_trans (Nat.le_trans (by simp [World.drew]) hbn.size) (Nat.le_trans (by simp) (hnb.ge q hq))
      have hne : ∀ q : Addr, p2 = some q → q.block ≠ wr.heap.size + 1 := fun q hq => by have := hgp q hq; omega
      have MM : Mem wr ((((y2.setCell ⟨wr.heap.size + 1, 0, none⟩ (.int .u32 1034)).setCell ⟨wr.heap.size + 1, 1, none⟩ (.int .u8 (flagsOf 10415 false))).setCell ⟨wr.heap.size + 1, 2, none⟩ (.int .u32 10415)).setCell ⟨wr.heap.size + 1, 3, none⟩ (.slice p2 (enc [(⟨1046, 128, 10415, bad3⟩ : It)]).length kk2)) (wr.heap.size + 1) (w.heap.size + 1 + 1 + 1) ⟨1034, flagsOf 10415 false, 10415, p2, (enc [(⟨1046, 128, 10415, bad3⟩ : It)]).length, kk2⟩ (enc [(⟨1046, 128, 10415, bad3⟩ : It)]) :=
        ⟨below4 hby (by omega), set4 hT, (((hnb.byt.setCell _ _ hne).setCell _ _ hne).setCell _ _ hne).setCell _ _ hne, fun q hq => by have := hgp q hq; omega⟩
      clear hT hnb hB1 hB2 G G3 T20 T21 hne hby hgp
      go_upto_region 76 with fail
      refine at_world (fun Y => Mem wr Y (wr.heap.size + 1) (w.heap.size + 1 + 1 + 1) ⟨1034, flagsOf 10415 false, 10415, p2, (enc [(⟨1046, 128, 10415, bad3⟩ : It)]).length, kk2⟩ (enc [(⟨1046, 128, 10415, bad3⟩ : It)])) ?_ (by first | exact MM | exact MM.drewN _ | exact MM.drew)
      intro Y hY
      clear MM
      have t0 : Y.cell? ⟨wr.heap.size + 1, 0, none⟩ = some (.int .u32 (⟨1034, flagsOf 10415 false, 10415, p2, (enc [(⟨1046, 128, 10415, bad3⟩ : It)]).length, kk2⟩ : Av).c) := by rw [cell_of_row _ _ _ _ _ _ hY.lies]; rfl
      have t1 : Y.cell? ⟨wr.heap.size + 1, 1, none⟩ = some (.int .u8 (⟨1034, flagsOf 10415 false, 10415, p2, (enc [(⟨1046, 128, 10415, bad3⟩ : It)]).length, kk2⟩ : Av).f) := by rw [cell_of_row _ _ _ _ _ _ hY.lies]; rfl
      have t2 : Y.cell? ⟨wr.heap.size + 1, 2, none⟩ = some (.int .u32 (⟨1034, flagsOf 10415 false, 10415, p2, (enc [(⟨1046, 128, 10415, bad3⟩ : It)]).length, kk2⟩ : Av).v) := by rw [cell_of_row _ _ _ _ _ _ hY.lies]; rfl
      have t3 : Y.cell? ⟨wr.heap.size + 1, 3, none⟩ = some (.slice (⟨1034, flagsOf 10415 false, 10415, p2, (enc [(⟨1046, 128, 10415, bad3⟩ : It)]).length, kk2⟩ : Av).p (⟨1034, flagsOf 10415 false, 10415, p2, (enc [(⟨1046, 128, 10415, bad3⟩ : It)]).length, kk2⟩ : Av).n (⟨1034, flagsOf 10415 false, 10415, p2, (enc [(⟨1046, 128, 10415, bad3⟩ : It)]).length, kk2⟩ : Av).k) := by rw [cell_of_row _ _ _ _ _ _ hY.lies]; rfl
      simp only at t0 t1 t2 t3
      go_wp2_with (at_builtin; refine wpList_append_fits _ rfl _ _ 28 rfl 0 32 i0 4 Ybad.underlying28 hi hz1 (w.heap.size + 1 + 1 + 1) j n (avs.flatMap Av.cells) rfl (own_below HROW.out (hY.below.alloc hY.below.size _)) ⟨Y.heap.size, 0, none⟩ 1 1 (Av.cells ⟨1034, flagsOf 10415 false, 10415, p2, (enc [(⟨1046, 128, 10415, bad3⟩ : It)]).length, kk2⟩) rfl rfl ?c1 ?c2 ?c3 ?_)
      case c1 => first | exact fun j u h => h | exact World.news_of_block (cs := (Av.cells ⟨1034, flagsOf 10415 false, 10415, p2, (enc [(⟨1046, 128, 10415, bad3⟩ : It)]).length, kk2⟩).toArray) (t := 32) (fr := (0, 0)) (heap_alloc_new Y _)
      case c2 => simp [Av.cells, Value.oneCell']
      case c3 => omega
      intro Z hownZ hgrowZ
      clear t0 t1 t2 t3
      go_wp2_with fail
      go_roundw
      case rel =>
        refine ⟨j + 1, b0, b1, b2, true, x0, x1, x2, 0, 5014, true, u, rfl, rfl, rfl, rfl, rfl, rfl, rfl, rfl, rfl, rfl, rfl, rfl, by go_num, by omega, ?_⟩
        have hrs := HRS.out
        exact rs_next hrs HS.out HALL.out (a := ⟨1034, flagsOf 10415 false, 10415, p2, (enc [(⟨1046, 128, 10415, bad3⟩ : It)]).length, kk2⟩) (but_of hY.below hgrowZ) hownZ (dat_of hY hgrowZ (by rw [EM.out]) (by rw [EM.out]; simp [flagsOf]) (by rw [EM.out]) (by rw [EM.out, ES.out]) (by simp) (by simp [flagsOf]) (by simp)) ((runTo ss j).1, (runTo ss j).2.1, (runTo ss j).2.2.1, some 0, 5014) (by have h := HF.out; have h0 : (runTo ss j).2.2.2.2 = 0 := (by rw [← h.2]; simpa using h.1.symm); simp [mstep, h0, hop, hk0, hk1, hk2]) hrs.s0 hrs.s1 hrs.s2 (.inr ⟨rfl, rfl⟩) rfl rfl (by rw [EU.out]; simp)
      case measure => simp [intOf]; omega

end Go.Proofs.YbulkcjpcDoor
