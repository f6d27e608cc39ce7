/-
  LawS4279BScript: the end.
-/
import Derived.Test.YbulkcjpcDoorRound
namespace Go.Proofs.YbulkcjpcDoor
open Go.RowKit
set_option maxRecDepth 100000

set_option maxHeartbeats 64000000 in
theorem armE (c : Int) : rounds.2.1 c := by
  intro p n k ss w hn i0 hi hz0 hz1 hz2 HG HL HBD qg qo qk hq Q0 K0 hn' u2 u31 u32 u33 u34 u35 u36 u37 u38 u39 u40 u41 u42 u43 u44 u45 u46 u47 u48 u49 u50 j1 hj1 hlt1 hlt2 K2 a1 wr u20 u21 u57 u58 u59 u60 u61 u62 u63 u64 u65 u66 u67 u68 u69 u70 u71 u72 u73 u74 u75 u76 u77 u78 u79 u80 u81 u82 u83 u84 u85 u86 u87 u88 u89 u90 u91 u92 u93 u94 u95 u96 u97 u98 u99 u100 u101 u102 u103 u104 u105 u106 u107 u108 u109 u110 u111 u112 u113 u114 u115 u116 u117 u118 u119 u120 u121 u122 u123 u124 u125 u126 u127 u128 u129 u130 u131 u132 u133 u134 u135 u136 u137 u138 u139 u140 u141 u142 u143 u144 u145 u146 u147 u148 u149 u150 u151 u152 u153 u154 u155 u156 u157 u158 u159 u160 u161 u162 u163 u164 u165 u166 u167 u168 u169 u170 u171 u172 u173 u174 u175 u176 u177 u178 u179 u180 u181 u182 u183 u184 u185 u186 u187 u188 u189 u190 j b0 b1 b2 b3 x0 x1 x2 x3 e f u hj HRS hlt
  have hjn : j = n := by omega
  subst hjn
  have hlt' : ¬ (j : Int) < (j : Int) := by omega
  obtain ⟨avs, hrow, hall⟩ := HRS.out.row
  have htk : ss.take j = ss := List.take_of_length_le (by rw [HL.out]; exact Nat.le_refl _)
  rw [htk] at hall
  have hfits : All2 (Fits wr) avs (ss.map mem) := all2_mono (fun _ _ h => h.1) hall
  have hal : avs.length = j := by rw [hfits.length, List.length_map, HL.out]
  have hps := parse_script ss (fun s hs => (HBD.out s hs).2.2)
  have hel := enc_le ss
  rw [HL.out] at hel
  have HROW : Hid (wr.ownsRow 0 32 4 (.slice (some ⟨w.heap.size + 1 + 1 + 1, 0, none⟩) j j) avs.length (avs.flatMap Av.cells)) := by rw [hal]; exact hrow
  have HFI : Hid (All2 (Fits wr) avs (ss.map mem)) := hfits
  have HPS : Hid (parse (enc (ss.map mem)) = if ss.any unk then (none, none, none, none, 5001) else runTo ss j) := by rw [runTo, htk]; exact hps
  have HU : Hid (u = ss.any unk) := by have := HRS.out.hu; rw [htk] at this; exact this
  have HDL : Hid (∀ i, i ∈ ss.map mem → i.d.length ≤ 50000) := fun i hi => by obtain ⟨s, _, rfl⟩ := List.mem_map.1 hi; exact (mem_good s).d
  have hbl := HRS.out.below
  clear hrow hall hfits hps htk
  go_wp2_with fail
  refine (pack_any 0 0 false (.slice (some ⟨w.heap.size + 1 + 1 + 1, 0, none⟩) j j) avs (ss.map mem) wr HROW.out HFI.out (by omega) HDL.out).mono ?_
  rintro e' y1 ⟨p1, k1, rfl, hnb⟩
  have hb1' : Below w.heap.size w y1 := hbl.trans (hnb.below.mono hbl.size)
  generalize hbs : enc (ss.map mem) = bs at *
  generalize hLL : bs.length = L at *
  go_wp2_with fail
  refine (parse_any 0 (flagsOf 0 false) 0 p1 L k1 bs y1 hnb.byt (by omega) (HG.out.below hb1')).mono ?_
  rintro e' y2 ⟨p0, p1', p2, p3, er, rfl, hb2, i0', i1', i2', i3', her⟩
  have hb2' : Below w.heap.size w y2 := hb1'.trans (hb2.mono hb1'.size)
  have hal2 : ∀ o, Below y2.heap.size y2 (y2.alloc o) := fun o => (Below.refl _ _).alloc (Nat.le_refl _) _
  have HRS2 : Hid (SV b0 x0 (runTo ss j).1 ∧ SV b1 x1 (runTo ss j).2.1 ∧ SV b2 x2 (runTo ss j).2.2.1 ∧ SV b3 x3 (runTo ss j).2.2.2.1 ∧ e = (runTo ss j).2.2.2.2 ∧ f = decide (e ≠ 0)) := ⟨HRS.out.s0, HRS.out.s1, HRS.out.s2, HRS.out.s3, HRS.out.he, HRS.out.hf⟩
  cases u with
  | true =>
    have hpa : parse bs = (none, none, none, none, 5001) := by have := HPS.out; rw [← HU.out] at this; simpa using this
    rw [hpa] at i0' i1' i2' i3' her
    cases i0'; cases i1'; cases i2'; cases i3'
    obtain ⟨eb, se, rfl, heb⟩ : ErrAt y2 er 5001 := by
      rcases her with ⟨h, _⟩ | ⟨_, h⟩
      · exact absurd h (by decide)
      · exact h
    have HEB : Hid (y2.heap[eb]? = some (.cells #[.int .u32 5001, .int .u32 0, se] 81 (0, 0))) := heb
    clear heb her hpa
    go_wp2_with fail
    refine (code_err eb 5001 (.int .u32 0) se _ (((hal2 _).block _ (lt_of_block HEB.out)).trans HEB.out)).mono ?_
    rintro e' y3 ⟨rfl, rfl⟩
    go_wp2_with fail
    go_ret
    exact ⟨rfl, hb2'.alloc hb2'.size _⟩
  | false =>
    have hpa : parse bs = runTo ss j := by have := HPS.out; rw [← HU.out] at this; simpa using this
    rw [hpa] at i0' i1' i2' i3' her
    have HI : Hid (PtrIs y2 (.pointer p0) (runTo ss j).1 ∧ PtrIs y2 (.pointer p1') (runTo ss j).2.1 ∧ PtrIs y2 (.pointer p2) (runTo ss j).2.2.1 ∧ PtrIs y2 (.pointer p3) (runTo ss j).2.2.2.1 ∧ ErrOr y2 er (runTo ss j).2.2.2.2) := ⟨i0', i1', i2', i3', her⟩
    clear i0' i1' i2' i3' hpa her
    go_wp2_with fail
    refine (ptr_any p0 _ b0 x0 _ (ptr_side HRS2.out.1 (HI.out.1.below (hal2 _)))).mono ?_
    rintro e' y3 ⟨rfl, rfl⟩
    go_wp2_with fail
    refine (ptr_any p1' _ b1 x1 _ (ptr_side HRS2.out.2.1 (HI.out.2.1.below (hal2 _)))).mono ?_
    rintro e' y3 ⟨rfl, rfl⟩
    go_wp2_with fail
    refine (ptr_any p2 _ b2 x2 _ (ptr_side HRS2.out.2.2.1 (HI.out.2.2.1.below (hal2 _)))).mono ?_
    rintro e' y3 ⟨rfl, rfl⟩
    go_wp2_with fail
    refine (ptr_any p3 _ b3 x3 _ (ptr_side HRS2.out.2.2.2.1 (HI.out.2.2.2.1.below (hal2 _)))).mono ?_
    rintro e' y3 ⟨rfl, rfl⟩
    cases f with
    | true =>
      obtain ⟨eb, se, rfl, heb⟩ : ErrAt y2 er e := by
        have h1 := HI.out.2.2.2.2
        rw [← HRS2.out.2.2.2.2.1] at h1
        rcases h1 with ⟨h, _⟩ | ⟨_, h⟩
        · have h2 := HRS2.out.2.2.2.2.2; simp [h] at h2
        · exact h
      have HEB : Hid (y2.heap[eb]? = some (.cells #[.int .u32 e, .int .u32 0, se] 81 (0, 0))) := heb
      have hee : (e == e) = true := by simp
      clear heb
      go_wp2_with fail
      refine (code_err eb e (.int .u32 0) se _ (((hal2 _).block _ (lt_of_block HEB.out)).trans HEB.out)).mono ?_
      rintro e' y3 ⟨rfl, rfl⟩
      go_wp2_with fail
      go_ret
      exact ⟨rfl, hb2'.alloc hb2'.size _⟩
    | false =>
      have her : er = .nilIface := by
        have h1 := HI.out.2.2.2.2
        rw [← HRS2.out.2.2.2.2.1] at h1
        rcases h1 with ⟨_, h⟩ | ⟨h, _⟩
        · exact h
        · have h2 := HRS2.out.2.2.2.2.2; simp [h] at h2
      subst her
      go_wp2_with fail
      go_ret
      exact ⟨rfl, hb2'.alloc hb2'.size _⟩

end Go.Proofs.YbulkcjpcDoor
