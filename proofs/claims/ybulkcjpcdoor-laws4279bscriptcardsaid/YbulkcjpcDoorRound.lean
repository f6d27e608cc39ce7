/-
  LawS4279BScript: the walk, but for the seven ways of a step.
-/
import Derived.Test.YbulkcjpcDoorStp
namespace Go.Proofs.YbulkcjpcDoor
open Go.RowKit
set_option maxRecDepth 100000

set_option maxHeartbeats 64000000 in
/-- The goal that the seven ways of a step share (by the number of the way), and the walk round them. -/
noncomputable def rounds : (P : Int → Prop) ×' (E : Int → Prop) ×' (∀ (p : Option Addr) (n k : Nat) (ss : List St) (w : World), ss.length = n → n ≤ 300 → (0 < n → ∃ g o, p = some ⟨g, o, none⟩ ∧ Steps w g o ss) → (∀ s, s ∈ ss → StBd s) → Glob w → (∀ c, P c) → (∀ c, E c) → Calls Ybad.prog 3 #[.slice p n k] w fun e w' => e = .returned (.bool true) ∧ Below w.heap.size w w') := by
  constructor
  constructor
  case snd.snd =>
    intro p n k ss w hl hn hr hbd hg HC HE
    obtain ⟨i0, hi, hz0, hz1, hz2⟩ := info_parts Ybad.info32
    have HR : Hid (0 < n → ∃ g o, p = some ⟨g, o, none⟩ ∧ Steps w g o ss) := hr
    have HG : Hid (Glob w) := hg
    have HL : Hid (ss.length = n) := hl
    have HBD : Hid (∀ s, s ∈ ss → StBd s) := hbd
    have hn' : ¬ (300 : Int) < (n : Int) := by omega
    obtain ⟨qg, qo, qk, hq, hqd⟩ := hg.q
    have HQD : Hid (Defs w qg qo qosDs) := hqd
    clear hr hg hl hbd hqd
    go_enter Ybad.func3, Ybad.ntmps3
    go_wp2_with fail
    go_loop [3] (fun i => ∃ j : Nat, i = .int .i64 j ∧ j ≤ 16) (fun i => 16 - (intOf i).toNat)
    case atStart => exact ⟨0, rfl, by omega⟩
    case round =>
      obtain ⟨j, rfl, hj⟩ := hrel
      by_cases hlt : j < 16
      · have hlt' : (j : Int) < 16 := by omega
        have hj0 : (0 : Int) ≤ (j : Int) := Int.natCast_nonneg _
        obtain ⟨d, hd⟩ : ∃ d, qosDs[j]? = some d := ⟨_, List.getElem?_eq_getElem (by simpa [qosDs] using hlt)⟩
        obtain ⟨c0, c1, c2⟩ := HQD.out.at0 j d hd
        have h7 : (d.1 == 7) = false := by
          have : ∀ d ∈ qosDs, (d.1 == 7) = false := by decide
          exact this d (List.mem_of_getElem? hd)
        clear c2 hd
        go_wp2_with fail
        go_round
        case rel => exact ⟨j + 1, by go_num, by omega⟩
        case measure => simp [intOf]; omega
      · have hlt' : ¬ (j : Int) < 16 := by omega
        go_wp2_with (at_make; refine wpList_make_own _ rfl _ _ 28 rfl 0 32 i0 _ 4 Ybad.underlying28 hi hz0 hz1 .i64 .i64 _ n rfl rfl rfl (by rw [hz2]; omega) (by unfold maxLen; omega) (Nat.zero_le _) ?_)
        intro w1 hown1 hgrow1
        have hb1 : Below w.heap.size w w1 := (((((Below.refl _ w).alloc (Nat.le_refl _) _).alloc (by simp) _).alloc (by simp; omega) _)).grown hgrow1 (by simp; omega) (fun q hq => by cases hq)
        have hbig : w.heap.size + 1 + 1 + 1 < w1.heap.size := by
          obtain ⟨q1, q2⟩ := hown1.lt (w.heap.size + 1 + 1 + 1) (by simp [Value.ownBlock])
          exact q2
        have RS0 : RS w n ss 0 false false false false 0 0 0 0 0 false false w1 := by
          refine ⟨⟨[], by simpa using hown1, .nil⟩, .inl ⟨rfl, rfl⟩, .inl ⟨rfl, rfl⟩, .inl ⟨rfl, rfl⟩, .inl ⟨rfl, rfl⟩, rfl, rfl, rfl, ?_, ?_, ?_, hb1, hbig⟩
          · rw [hgrow1.block _ (by simp; omega) (by simp), Below.heap_alloc _ _ _ (by simp; omega), Below.heap_alloc _ _ _ (by simp)]; exact heap_alloc_new w _
          · rw [hgrow1.block _ (by simp) (by simp), Below.heap_alloc _ _ _ (by simp)]; exact heap_new2 w _ _
          · rw [hgrow1.block _ (by simp) (by simp)]; exact heap_new3 w _ _ _
        have HRS0 : Hid (RS w n ss 0 false false false false 0 0 0 0 0 false false w1) := RS0
        clear hown1 hgrow1 RS0
        go_wp2_with fail
        go_loopw [7, 8, 9, 10, 11, 12, 13, 14, 15, 16, 17, 18, 19] (fun ms qS mS gS pS qV mV gV pV wc fl un i wr => ∃ (j : Nat) (b0 b1 b2 b3 : Bool) (x0 x1 x2 x3 e : Int) (f u : Bool), ms = .slice (some ⟨w.heap.size + 1 + 1 + 1, 0, none⟩) j n ∧
          qS = .bool b0 ∧ mS = .bool b1 ∧ gS = .bool b2 ∧ pS = .bool b3 ∧ qV = .int .u32 x0 ∧ mV = .int .u32 x1 ∧ gV = .int .u32 x2 ∧ pV = .int .u32 x3 ∧ wc = .int .u32 e ∧ fl = .bool f ∧ un = .bool u ∧ i = .int .i64 j ∧ j ≤ n ∧ RS w n ss j b0 b1 b2 b3 x0 x1 x2 x3 e f u wr)
          (fun _ _ _ _ _ _ _ _ _ _ _ _ i _ => n - (intOf i).toNat)
        case atStart => exact ⟨0, false, false, false, false, 0, 0, 0, 0, 0, false, false, rfl, rfl, rfl, rfl, rfl, rfl, rfl, rfl, rfl, rfl, rfl, rfl, rfl, Nat.zero_le _, HRS0.out⟩
        case round =>
          obtain ⟨j, b0, b1, b2, b3, x0, x1, x2, x3, e, f, u, rfl, rfl, rfl, rfl, rfl, rfl, rfl, rfl, rfl, rfl, rfl, rfl, rfl, hj, hrs⟩ := hrel
          have HRS : Hid (RS w n ss j b0 b1 b2 b3 x0 x1 x2 x3 e f u wr) := hrs
          clear hrs
          by_cases hlt : j < n
          · have hlt' : (j : Int) < (n : Int) := by omega
            have hj0 : (0 : Int) ≤ (j : Int) := Int.natCast_nonneg _
            obtain ⟨g, o, hp, hst⟩ := HR.out (by omega)
            subst hp
            obtain ⟨s, hs⟩ : ∃ s, ss[j]? = some s := ⟨_, List.getElem?_eq_getElem (by rw [HL.out]; exact hlt)⟩
            obtain ⟨c0, c1, c2⟩ := hst.at0 j s hs
            have hbl := HRS.out.below
            have d0 := (hbl.cell (World.block_lt_of_cell? w _ c0)).trans c0
            have d1 := (hbl.cell (World.block_lt_of_cell? w _ c1)).trans c1
            have d2 := (hbl.cell (World.block_lt_of_cell? w _ c2)).trans c2
            have hsb := HBD.out s (List.mem_of_getElem? hs)
            have HS : Hid (ss[j]? = some s) := hs
            obtain ⟨sop, sk, sv⟩ := s
            obtain ⟨⟨o1, o2⟩, ⟨k1, k2⟩, ⟨v1, v2⟩⟩ := hsb
            simp only at o1 o2 k1 k2 v1 v2 d0 d1 d2
            clear c0 c1 c2 hst hs
            have hbW : Below wr.heap.size wr ((wr.alloc (.cells #[.int .u8 sop, .int .u8 sk, .int .u32 sv] 30)).alloc (.cells #[.int .u32 0, .int .u8 0, .int .u32 0, .slice none 0 0] 32)) := ((Below.refl _ _).alloc (Nat.le_refl _) _).alloc (by simp) _
            have G1 := HG.out.below (hbl.trans (hbW.mono hbl.size))
            have HG1 : Hid (Glob ((wr.alloc (.cells #[.int .u8 sop, .int .u8 sk, .int .u32 sv] 30)).alloc (.cells #[.int .u32 0, .int .u8 0, .int .u32 0, .slice none 0 0] 32))) := G1
            obtain ⟨avs, hrow, hall⟩ := HRS.out.row
            have HROW : Hid (wr.ownsRow 0 32 4 (.slice (some ⟨w.heap.size + 1 + 1 + 1, 0, none⟩) j n) j (avs.flatMap Av.cells)) := hrow
            have HALL : Hid (All2 (FitsM (w.heap.size + 1 + 1 + 1) wr) avs ((ss.take j).map mem)) := hall
            have hbig := HRS.out.big
            clear G1 hrow hall
            rename_i Q0 K0 j1 hj1 hlt1 K1 hw1 hlt2 hbig1 K2 a1 Q1 a2
            clear a1 a2 hw1 HRS0 hb1 hbig1 w1 HQD Q1 K1
            obtain ⟨c, hc⟩ : ∃ c, sop % 7 = c := ⟨_, rfl⟩
            revert n k ss w i0 qg qo qk K0 u2 u31 u32 u33 u34 u35 u36 u37 u38 u39 u40 u41 u42 u43 u44 u45 u46 u47 u48 u49 u50 j1 K2 wr u20 u21 u57 u58 u59 u60 u61 u62 u63 u64 u65 u66 u67 u68 u69 u70 u71 u72 u73 u74 u75 u76 u77 u78 u79 u80 u81 u82 u83 u84 u85 u86 u87 u88 u89 u90 u91 u92 u93 u94 u95 u96 u97 u98 u99 u100 u101 u102 u103 u104 u105 u106 u107 u108 u109 u110 u111 u112 u113 u114 u115 u116 u117 u118 u119 u120 u121 u122 u123 u124 u125 u126 u127 u128 u129 u130 u131 u132 u133 u134 u135 u136 u137 u138 u139 u140 u141 u142 u143 u144 u145 u146 u147 u148 u149 u150 u151 u152 u153 u154 u155 u156 u157 u158 u159 u160 u161 u162 u163 u164 u165 u166 u167 u168 u169 u170 u171 u172 u173 u174 u175 u176 u177 u178 u179 u180 u181 u182 u183 u184 u185 u186 u187 u188 u189 u190 j b0 b1 b2 b3 x0 x1 x2 x3 e f u g o sop sk sv avs
            exact HC c
          · rename_i Q0 K0 j1 hj1 hlt1 Q1 K1 a2 hw1 K2 a1
            rename w.heap.size + 1 + 1 + 1 < w1.heap.size => hbig1
            rename 16 ≤ (j1 : Int) => hlt2
            clear a2 hw1 HRS0 hb1 hbig1 w1 HQD Q1 K1 HR
            obtain ⟨c⟩ : Nonempty Int := ⟨0⟩
            revert p n k ss w i0 qg qo qk K0 u2 u31 u32 u33 u34 u35 u36 u37 u38 u39 u40 u41 u42 u43 u44 u45 u46 u47 u48 u49 u50 j1 K2 wr u20 u21 u57 u58 u59 u60 u61 u62 u63 u64 u65 u66 u67 u68 u69 u70 u71 u72 u73 u74 u75 u76 u77 u78 u79 u80 u81 u82 u83 u84 u85 u86 u87 u88 u89 u90 u91 u92 u93 u94 u95 u96 u97 u98 u99 u100 u101 u102 u103 u104 u105 u106 u107 u108 u109 u110 u111 u112 u113 u114 u115 u116 u117 u118 u119 u120 u121 u122 u123 u124 u125 u126 u127 u128 u129 u130 u131 u132 u133 u134 u135 u136 u137 u138 u139 u140 u141 u142 u143 u144 u145 u146 u147 u148 u149 u150 u151 u152 u153 u154 u155 u156 u157 u158 u159 u160 u161 u162 u163 u164 u165 u166 u167 u168 u169 u170 u171 u172 u173 u174 u175 u176 u177 u178 u179 u180 u181 u182 u183 u184 u185 u186 u187 u188 u189 u190 j b0 b1 b2 b3 x0 x1 x2 x3 e f u
            exact HE c

end Go.Proofs.YbulkcjpcDoor
