/-
  decodeAVPs.
-/
import Derived.Test.YbulkcjpcDoorPlain
namespace Go.Proofs.YbulkcjpcDoor
open Go.RowKit
set_option maxRecDepth 100000

set_option maxHeartbeats 16000000 in
theorem dec_any (p : Option Addr) (n k : Nat) (bs : List UInt8) (w : World) (hbs : Bytes w p n k bs) (hn : n ≤ 1000000) :
    Calls Ybad.prog 27 #[.slice p n k] w fun e w' => ∃ (avs : List Av) (sl er : Value), e = .returned (.tuple #[sl, er]) ∧ w'.ownsRow w.heap.size 32 4 sl avs.length (avs.flatMap Av.cells) ∧
      Below w.heap.size w w' ∧ All2 (Fits w) avs (dec bs).1 ∧ ErrIs w' er (dec bs).2 := by
  obtain ⟨i0, hi, hz0, hz1, hz2⟩ := info_parts Ybad.info32
  have HB : Hid (Bytes w p n k bs) := hbs
  clear hbs
  go_enter Ybad.func27, Ybad.ntmps27
  go_wp2_with fail
  go_loopw [0, 4] (fun b sl wr => ∃ (p' : Option Addr) (n' k' : Nat) (rs : List UInt8) (avs : List Av) (done : List It), b = .slice p' n' k' ∧ Bytes w p' n' k' rs ∧ avs.length + n' ≤ n ∧
      wr.ownsRow w.heap.size 32 4 sl avs.length (avs.flatMap Av.cells) ∧ Below w.heap.size w wr ∧ All2 (Fits w) avs done ∧ dec bs = (done ++ (dec rs).1, (dec rs).2)) (fun b _ _ => match b with | .slice _ m _ => m | _ => 0)
  case atStart => exact ⟨p, n, k, bs, [], [], rfl, HB.out, by simp, World.ownsRow_nil _ _ _ _, Below.refl _ _, All2.nil, by simp⟩
  case round =>
    obtain ⟨p', n', k', rs, avs, done, rfl, hrs, has, hown, hb, hfit, hdec⟩ := hrel
    have hsz := hb.size
    have HR : Hid (Bytes w p' n' k' rs) := hrs
    have HD : Hid (dec bs = (done ++ (dec rs).1, (dec rs).2)) := hdec
    have HF : Hid (All2 (Fits w) avs done) := hfit
    clear hrs hdec hfit
    by_cases h0 : 0 < n'
    · rcases HR.out.lies with ⟨rfl, rfl⟩ | ⟨g, o, rfl, hc⟩
      · exact absurd HR.out.cap (by omega)
      have hnn : rs.length = n' := HR.out.len
      have hcap := HR.out.cap
      have HC : Hid (∀ j, j < n' → w.cell? ⟨g, o + j, none⟩ = some (.int .u8 (at' rs j))) := hc
      clear hc
      have h0' : (0 : Int) < (n' : Int) := by omega
      go_wp2_with (refine wpList_copy_splice rfl (.tmp 12) (.tmp 13) 27 27 rfl 5 Ybad.underlying27 (by kernel_rfl) _ _ _ _ _ _ rfl rfl wr.heap.size 0 (List.replicate 12 (.int .u8 0)) 103 ?c0 (cpL rs) ?c1 ?c2 ?c3 ?c4 wr.heap.size wr ?c5 (Nat.le_refl _) ?_)
      case c0 => exact heap_alloc_new wr _
      case c1 => rw [cpL_len, hnn]
      case c2 =>
        intro _ j v hj
        obtain ⟨h1, rfl⟩ := cpL_get rs j v hj
        have hh := HC.out j (by omega)
        have hl := World.block_lt_of_cell? w _ hh
        exact cell_alloc _ ((hb.cell hl).trans hh)
      case c3 => rw [cpL_len]; simp; omega
      case c4 => intro v hv; simp only [cpL, List.mem_map] at hv; obtain ⟨j, _, rfl⟩ := hv; rfl
      case c5 => exact (Below.refl _ _).alloc (Nat.le_refl _) _
      intro w2 HG hB2
      have HH : Hid (w2.heap[wr.heap.size]? = some (.cells (hdL rs).toArray 103 (0, 0))) := by rw [← hd_splice]; exact HG.out
      clear HG
      have hs2 : wr.heap.size < w2.heap.size := lt_of_block HH.out
      have HU : Hid (∀ W : World, W.heap[wr.heap.size]? = some (.cells (hdL rs).toArray 103 (0, 0)) → Calls Ybad.prog 42 #[.agg #[], .slice (some ⟨wr.heap.size, 0, none⟩) 12 12] W fun e w' => e = .returned (.int .u32 (code rs)) ∧ Below W.heap.size W w') := fun W hW => by
        have hh : ∀ j, j < 12 → W.cell? ⟨wr.heap.size, 0 + j, none⟩ = some (.int .u8 (at' rs j)) := fun j hj => by rw [Nat.zero_add]; exact hd_cell hW j hj
        exact uint32_any wr.heap.size 0 12 12 _ _ _ _ W (by omega) (hh 0 (by omega)) (hh 1 (by omega)) (hh 2 (by omega)) (hh 3 (by omega)) (at_bd _ _) (at_bd _ _) (at_bd _ _) (at_bd _ _)
      have h4 : w2.cell? ⟨wr.heap.size, 4, none⟩ = some (.int .u8 (at' rs 4)) := hd_cell HH.out 4 (by omega)
      have h4a : ∀ o, (w2.alloc o).cell? ⟨wr.heap.size, 4, none⟩ = some (.int .u8 (at' rs 4)) := fun o => cell_alloc o h4
      go_upto_region 5 with fail
      go_cut [6] from 9 to 65 (fun q wx => ∃ ab, q = .pointer (some ⟨ab, 0, none⟩) ∧ w2.heap.size ≤ ab ∧ wx.heap[ab]? = some (.cells #[.int .u32 (code rs), .int .u8 (at' rs 4), .int .u32 0, .slice none 0 0] 32 (0, 0)) ∧ Below w2.heap.size w2 wx)
      case first =>
        go_region_with ((go_at_call 42; refine (HU.out _ ?_).mono ?_; (first | exact HH.out | exact (Below.heap_alloc _ _ _ hs2).trans HH.out); rintro e w3 ⟨rfl, hb3⟩; first | (have e1 : w3.cell? ⟨wr.heap.size, 4, none⟩ = some (.int .u8 (at' rs 4)) := (hb3.cell hs2).trans h4; have e2 : ∀ o, (w3.alloc o).cell? ⟨wr.heap.size, 4, none⟩ = some (.int .u8 (at' rs 4)) := fun o => cell_alloc o e1; have hb3' : Below w2.heap.size w2 w3 := ⟨hb3.os, hb3.tape, hb3.output, hb3.size, hb3.block⟩) | (obtain ⟨hb3', e0, e1, g0, g1, g2, g3, q0, q1, q2, q3⟩ := new_kept hs2 h4 hb3)))
        all_goals
          go_wp2_with fail
          go_meet
          case rel => first
            | exact ⟨w2.heap.size, rfl, Nat.le_refl _, set4 e0, below_set4 hb3'⟩
            | exact ⟨w3.heap.size, rfl, hb3'.size, heap_alloc_new _ _, hb3'.alloc hb3'.size _⟩
      case rest =>
        obtain ⟨ab, rfl, hab2, hab, hbx⟩ := hcut
        have HX : Hid (wc.heap[wr.heap.size]? = some (.cells (hdL rs).toArray 103 (0, 0))) := (hbx.block _ hs2).trans HH.out
        have hlb : lenOf rs < 16777216 := lenOf_lt rs
        have HL : Hid (Calls Ybad.prog 43 #[.slice (some ⟨wr.heap.size, 5, none⟩) 7 7] wc fun e w' => e = .returned (.int .u32 (lenOf rs)) ∧ Below wc.heap.size wc w') := by
          rw [lenOf_eq]
          exact get24_any wr.heap.size 5 7 7 _ _ _ wc (by omega) (hd_cell HX.out 5 (by omega)) (hd_cell HX.out 6 (by omega)) (hd_cell HX.out 7 (by omega)) (at_bd _ _) (at_bd _ _) (at_bd _ _)
        clear HU h4 h4a
        go_wp2_with fail
        refine HL.out.mono ?_
        rintro e w4 ⟨rfl, hb4⟩
        have hab4 := (hb4.block _ (lt_of_block hab)).trans hab
        have HX4 : Hid (w4.heap[wr.heap.size]? = some (.cells (hdL rs).toArray 103 (0, 0))) := (hb4.block _ (lt_of_block HX.out)).trans HX.out
        have hbx4 : Below w2.heap.size w2 w4 := hbx.trans (hb4.mono hbx.size)
        clear HX HL hb4 hab hbx HH
        have hv0 : (vb (at' rs 4) = true ∧ hdr rs = 12 ∧ (itOf rs).v = vend rs) ∨ (vb (at' rs 4) = false ∧ hdr rs = 8 ∧ (itOf rs).v = 0) := by
          cases hv : vb (at' rs 4) <;> simp [hdr, itOf, hv]
        have HV : Hid _ := hv0
        clear hv0
        have l1 : w4.cell? ⟨ab, 1, none⟩ = some (.int .u8 (at' rs 4)) := by rw [cell_of_row _ _ _ _ _ _ hab4]; rfl
        have l2 : w4.cell? ⟨ab, 2, none⟩ = some (.int .u32 0) := by rw [cell_of_row _ _ _ _ _ _ hab4]; rfl
        have f2 : w4.frozen? ⟨ab, 2, none⟩ = false := frozen_of_row _ _ _ _ _ hab4
        have HAB : Hid (w4.heap[ab]? = some (.cells #[.int .u32 (code rs), .int .u8 (at' rs 4), .int .u32 0, .slice none 0 0] 32 (0, 0))) := hab4
        clear hab4
        have HU2 : Hid (Calls Ybad.prog 42 #[.agg #[], .slice (some ⟨wr.heap.size, 8, none⟩) 4 4] w4.drew fun e w' => e = .returned (.int .u32 (vend rs)) ∧ Below w4.heap.size w4 w') := by
          have hh : ∀ j, j < 12 → w4.drew.cell? ⟨wr.heap.size, j, none⟩ = some (.int .u8 (at' rs j)) := fun j hj => hd_cell (w := w4) HX4.out j hj
          exact (uint32_any wr.heap.size 8 4 4 _ _ _ _ w4.drew (by omega) (hh 8 (by omega)) (hh 9 (by omega)) (hh 10 (by omega)) (hh 11 (by omega)) (at_bd _ _) (at_bd _ _) (at_bd _ _) (at_bd _ _)).mono
            fun e w' ⟨h1, h2⟩ => ⟨h1, h2.os, h2.tape, h2.output, h2.size, h2.block⟩
        go_upto_if 27 with fail
        go_cut [8] from 9 to 65 (fun q wx => q = .int .i64 (hdr rs) ∧ wx.heap[ab]? = some (.cells #[.int .u32 (code rs), .int .u8 (at' rs 4), .int .u32 (itOf rs).v, .slice none 0 0] 32 (0, 0)) ∧ Below w2.heap.size w2 wx)
        case first =>
          rcases HV.out with ⟨hv, hh, hvv⟩ | ⟨hv, hh, hvv⟩
          · have hv' : (bits BinOp.and IntKind.u8 (at' rs 4) 128 != 0) = true := hv
            go_upto_region 9 with fail
            go_region_with ((go_at_call 42; refine HU2.out.mono ?_; rintro e w5 ⟨rfl, hb5⟩; have e1 : w5.cell? ⟨ab, 2, none⟩ = some (.int .u32 0) := (hb5.cell (lt_of_block HAB.out)).trans l2; have e2 : w5.frozen? ⟨ab, 2, none⟩ = false := (hb5.frozen (lt_of_block HAB.out)).trans f2))
            all_goals
              go_wp2_with fail
              go_meet
              case rel =>
                refine ⟨by rw [hh]; rfl, ?_, (hbx4.trans (hb5.mono hbx4.size)).setCell hab2 _⟩
                rw [hvv, heap_setCell_same _ _ _ _ _ _ ((hb5.block _ (lt_of_block HAB.out)).trans HAB.out)]
                rfl
          · have hv' : (bits BinOp.and IntKind.u8 (at' rs 4) 128 != 0) = false := hv
            go_wp2_with fail
            go_meet
            case rel => exact ⟨by rw [hh]; rfl, by rw [hvv]; exact HAB.out, hbx4⟩
        case rest =>
          clear HV l1 l2 f2 HU2 HAB HX4 hbx4
          obtain ⟨rfl, hab5, hbx5⟩ := hcut
          have l0 : wc.cell? ⟨ab, 0, none⟩ = some (.int .u32 (code rs)) := by rw [cell_of_row _ _ _ _ _ _ hab5]; rfl
          have l1 : wc.cell? ⟨ab, 1, none⟩ = some (.int .u8 (at' rs 4)) := by rw [cell_of_row _ _ _ _ _ _ hab5]; rfl
          have l2 : wc.cell? ⟨ab, 2, none⟩ = some (.int .u32 (itOf rs).v) := by rw [cell_of_row _ _ _ _ _ _ hab5]; rfl
          have l3 : wc.cell? ⟨ab, 3, none⟩ = some (.slice none 0 0) := by rw [cell_of_row _ _ _ _ _ _ hab5]; rfl
          have f3 : wc.frozen? ⟨ab, 3, none⟩ = false := frozen_of_row _ _ _ _ _ hab5
          have HAB : Hid (wc.heap[ab]? = some (.cells #[.int .u32 (code rs), .int .u8 (at' rs 4), .int .u32 (itOf rs).v, .slice none 0 0] 32 (0, 0))) := hab5
          clear hab5
          have hbw : Below wr.heap.size wr wc := hB2.trans (hbx5.mono (by omega))
          have HO : Hid (wc.ownsRow w.heap.size 32 4 u4 avs.length (avs.flatMap Av.cells)) := hown.kept ⟨hbw.os, hbw.tape, hbw.output, hbw.size, fun k hk _ => hbw.block k hk⟩ (row := none) (by cases hv : u4.ownBlock <;> simp)
          have hbc : Below w.heap.size w wc := hb.trans (hbw.mono hsz)
          have hwc : wr.heap.size < wc.heap.size := Nat.lt_of_lt_of_le hs2 hbx5.size
          have hrne : rs ≠ [] := fun h => by rw [h] at hnn; simp at hnn; omega
          by_cases hbad : lenOf rs < hdr rs ∨ n' < lenOf rs
          · have hde : dec rs = ([], false) := by rw [dec, dif_neg hrne, dif_pos (by rw [hnn]; exact hbad)]
            have hq : (lenOf rs : Int) < (hdr rs : Int) ∨ (¬ (lenOf rs : Int) < (hdr rs : Int) ∧ (n' : Int) < (lenOf rs : Int)) := by omega
            clear hbad
            rcases hq with hq | ⟨hq, hq2⟩ <;>
            · go_upto_region 11 with fail
              go_region
              go_wp2_with fail
              go_ret2
              refine ⟨avs, _, _, rfl, ((HO.out.alloc _).alloc _).drew, ((hbc.alloc hbc.size _).alloc (by simp; omega) _).drew, ?_, ?_⟩
              · rw [HD.out, hde]; simpa using HF.out
              · rw [HD.out, hde]
                refine .inr ⟨rfl, wc.heap.size + 1, wc.heap.size, code rs, at' rs 4, (itOf rs).v, rfl, ?_, ?_, code_bd rs, at_bd _ _, v_bd rs⟩
                · exact heap_new2 wc _ _
                · exact (Below.heap_alloc _ _ _ (by simp)).trans (heap_alloc_new wc _)
          · have hq : ¬ (lenOf rs : Int) < (hdr rs : Int) := by omega
            have hq2 : ¬ (n' : Int) < (lenOf rs : Int) := by omega
            have hg1 : hdr rs ≤ lenOf rs := by omega
            have hg2 : lenOf rs ≤ n' := by omega
            have hde : dec rs = (itOf rs :: (dec (rs.drop (min (padded (lenOf rs)) rs.length))).1, (dec (rs.drop (min (padded (lenOf rs)) rs.length))).2) := by rw [dec, dif_neg hrne, dif_neg (by rw [hnn]; exact hbad)]
            have HE : Hid _ := hde
            clear hde hbad
            have hrb := HR.out
            have HBD : Hid (∀ o', o' = o + hdr rs → Bytes w (some ⟨g, o', none⟩) (lenOf rs - hdr rs) (lenOf rs - hdr rs) (itOf rs).d) := by
              rintro _ rfl
              refine ⟨?_, Nat.le_refl _, by omega, .inr ⟨g, _, rfl, fun j hj => ?_⟩⟩
              · simp only [itOf, List.length_drop, List.length_take]; omega
              · rw [show (itOf rs).d = (rs.take (lenOf rs)).drop (hdr rs) from rfl, at_cut _ _ _ _ (by omega), Nat.add_assoc]
                exact HC.out (hdr rs + j) (by omega)
            have HBZ : Hid (lenOf rs = hdr rs → Bytes w (some ⟨g, o, none⟩) (lenOf rs - hdr rs) (lenOf rs - hdr rs) (itOf rs).d) := by
              intro hz
              exact ⟨by simp only [itOf, List.length_drop, List.length_take]; omega, Nat.le_refl _, by omega, .inr ⟨g, _, rfl, fun j hj => by omega⟩⟩
            clear hrb
            go_upto_region 12 with fail
            go_cut [7] from 9 to 65 (fun q wx => q = .int .i64 (lenOf rs) ∧ ∃ pd, wx.heap[ab]? = some (.cells #[.int .u32 (code rs), .int .u8 (at' rs 4), .int .u32 (itOf rs).v, .slice pd (lenOf rs - hdr rs) (lenOf rs - hdr rs)] 32 (0, 0)) ∧ Bytes w pd (lenOf rs - hdr rs) (lenOf rs - hdr rs) (itOf rs).d ∧ Below w2.heap.size w2 wx)
            case first =>
              go_wp2_with fail
              · go_meet
                case rel =>
                  have hz : lenOf rs = hdr rs := by assumption
                  refine ⟨by rw [hz], some ⟨g, o, none⟩, ?_, HBZ.out hz, hbx5.setCell hab2 _⟩
                  rw [heap_setCell_same _ _ _ _ _ _ HAB.out, hz, Nat.sub_self]
                  rfl
              · go_meet
                case rel =>
                  refine ⟨rfl, some ⟨g, o + hdr rs, none⟩, ?_, HBD.out _ rfl, hbx5.setCell hab2 _⟩
                  rw [heap_setCell_same _ _ _ _ _ _ HAB.out]
                  rfl
            case rest =>
              clear l0 l1 l2 l3 f3 HAB HO hbc hbw hwc hbx5
              obtain ⟨rfl, pd, hab6, hby, hbx6⟩ := hcut
              have l0 : wc.cell? ⟨ab, 0, none⟩ = some (.int .u32 (code rs)) := by rw [cell_of_row _ _ _ _ _ _ hab6]; rfl
              have l1 : wc.cell? ⟨ab, 1, none⟩ = some (.int .u8 (at' rs 4)) := by rw [cell_of_row _ _ _ _ _ _ hab6]; rfl
              have l2 : wc.cell? ⟨ab, 2, none⟩ = some (.int .u32 (itOf rs).v) := by rw [cell_of_row _ _ _ _ _ _ hab6]; rfl
              have l3 : wc.cell? ⟨ab, 3, none⟩ = some (.slice pd (lenOf rs - hdr rs) (lenOf rs - hdr rs)) := by rw [cell_of_row _ _ _ _ _ _ hab6]; rfl
              have hbw : Below wr.heap.size wr wc := hB2.trans (hbx6.mono (by omega))
              have HO : Hid (wc.ownsRow w.heap.size 32 4 u4 avs.length (avs.flatMap Av.cells)) := hown.kept ⟨hbw.os, hbw.tape, hbw.output, hbw.size, fun k hk _ => hbw.block k hk⟩ (row := none) (by cases hv : u4.ownBlock <;> simp)
              have hbc : Below w.heap.size w wc := hb.trans (hbw.mono hsz)
              have HBY : Hid (Bytes w pd (lenOf rs - hdr rs) (lenOf rs - hdr rs) (itOf rs).d) := hby
              have hcs : w.heap.size ≤ wc.heap.size := hbc.size
              generalize hnd : lenOf rs - hdr rs = nd at *
              clear hab6 hby hbx6 hbw
              go_wp2_with (at_builtin; refine wpList_append_own _ rfl _ _ 28 rfl w.heap.size 32 i0 _ 4 40 Ybad.underlying28 hi hz0 hz1 hz2 rfl (by decide) _ _ _ rfl (HO.out.alloc _) ⟨wc.heap.size, 0, none⟩ 1 1 (Av.cells ⟨code rs, at' rs 4, (itOf rs).v, pd, nd, nd⟩) rfl rfl ?c1 ?c2 ?c3 ?c4 ?c5 ?_)
              case c1 => exact fun j u h => h
              case c2 => simp [Av.cells, Value.oneCell']
              case c3 => unfold maxLen; omega
              case c4 => omega
              case c5 => first | omega | (simp; omega)
              intro sl' w6 hown6 hgrow6 _
              have hbc6 : Below w.heap.size w w6 := (hbc.alloc hbc.size _).grown hgrow6 (by simp; omega) (fun j hj => (HO.out.lt j hj).1)
              rw [flat_snoc] at hown6
              have HO6 : Hid (w6.ownsRow w.heap.size 32 4 sl' (avs ++ [(⟨code rs, at' rs 4, (itOf rs).v, pd, nd, nd⟩ : Av)]).length ((avs ++ [(⟨code rs, at' rs 4, (itOf rs).v, pd, nd, nd⟩ : Av)]).flatMap Av.cells)) := by rw [List.length_append]; exact hown6
              clear hown6 hgrow6 l0 l1 l2 l3 HO hbc
              go_wp2_with fail
              refine (pad_any (lenOf rs) (by omega) w6).mono ?_
              rintro e w7 ⟨rfl, hw7⟩
              subst hw7
              have hpm : ((lenOf rs + 3) / 4 * 4 : Nat) = padded (lenOf rs) := rfl
              rw [hpm]
              have hp8 : lenOf rs ≤ padded (lenOf rs) := by unfold padded; omega
              have hpl : padded (lenOf rs) < 16777220 := by unfold padded; omega
              have hh8 : 8 ≤ hdr rs := by unfold hdr; split <;> omega
              generalize padded (lenOf rs) = pn at *
              have hm : (if n' < pn then (n' : Int) else (pn : Int)).toNat = min pn rs.length := by rw [hnn]; split <;> omega
              have HM : Hid _ := hm
              clear hm
              go_wp2_with fail
              rw [HM.out]
              have hlen := hnn
              refine ⟨⟨_, _, _, rs.drop (min pn rs.length), avs ++ [(⟨code rs, at' rs 4, (itOf rs).v, pd, nd, nd⟩ : Av)], done ++ [itOf rs], rfl, ?_, ?_, HO6.out, hbc6, HF.out.snoc ⟨rfl, rfl, rfl, code_bd rs, at_bd _ _, v_bd rs, HBY.out⟩, ?_⟩, ?_⟩
              · have hbig := HR.out.big
                refine ⟨by simp [hnn], by omega, by omega, .inr ?_⟩
                by_cases hkm : k' = min pn rs.length
                · rw [if_pos hkm]
                  exact ⟨g, o, rfl, fun j hj => by omega⟩
                · rw [if_neg hkm]
                  refine ⟨g, o + min pn rs.length, rfl, fun j hj => ?_⟩
                  rw [at_drop, Nat.add_assoc]
                  exact HC.out _ (by omega)
              · simp; omega
              · rw [HD.out, HE.out]; simp
              · simp only []
                omega
    · have h0' : ¬ (0 : Int) < (n' : Int) := by omega
      go_wp2_with fail
      go_ret2
      have : rs = [] := List.eq_nil_of_length_eq_zero (by rw [HR.out.len]; omega)
      subst this
      have hd : dec [] = ([], true) := by rw [dec]; rfl
      refine ⟨avs, _, _, rfl, hown, hb, ?_, ?_⟩
      · rw [HD.out, hd]; simpa using HF.out
      · rw [HD.out, hd]; exact .inl ⟨rfl, rfl⟩
end Go.Proofs.YbulkcjpcDoor
