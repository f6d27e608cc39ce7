/-
  AVP.Group, AVP.Members.
-/
import Derived.Test.YbulkcjpcDoorKnown
import Derived.Test.YbulkcjpcDoorDec
namespace Go.Proofs.YbulkcjpcDoor
open Go.RowKit
set_option maxRecDepth 100000

@[local go_sem] theorem as_err2 (v : Value) (w : World) : (Instr.typeAssert (.iface 78 v) 40 78 false).run Ybad.prog w = .ok v w := by kernel_rfl

/-- What Group and Members hand back where they refuse. -/
def Refused (w' : World) (sl er : Value) (code : Int) : Prop := sl = .slice none 0 0 ∧ ErrAt w' er code

theorem Fits.below {w w' : World} {a : Av} {i : It} (h : Fits w a i) (hb : Below w.heap.size w w') : Fits w' a i :=
  ⟨h.1, h.2.1, h.2.2.1, h.2.2.2.1, h.2.2.2.2.1, h.2.2.2.2.2.1, h.2.2.2.2.2.2.below hb⟩
theorem All2.mono {R S : Av → It → Prop} (hRS : ∀ a i, R a i → S a i) {avs : List Av} {its : List It} (h : All2 R avs its) : All2 S avs its := by
  induction h with
  | nil => exact .nil
  | cons h1 _ ih => exact .cons (hRS _ _ h1) ih
theorem dec_len (bs : List UInt8) : (dec bs).1.length ≤ bs.length := by
  induction hn : bs.length using Nat.strongRecOn generalizing bs with
  | ind n ih =>
    rw [dec]
    split
    · simp
    · rename_i h1
      split
      · simp
      · rename_i h2
        have h0 : 0 < bs.length := List.length_pos_iff.2 h1
        have h8 : 8 ≤ hdr bs := by unfold hdr; split <;> omega
        have hm : 0 < min (padded (lenOf bs)) bs.length := by unfold padded; omega
        have := ih (bs.drop (min (padded (lenOf bs)) bs.length)).length (by rw [List.length_drop]; omega) _ rfl
        rw [List.length_drop] at this
        simp only [List.length_cons]
        omega

set_option maxHeartbeats 1600000 in
theorem group_any (c f v : Int) (p : Option Addr) (n k : Nat) (bs : List UInt8) (w : World) (hbs : Bytes w p n k bs) (hn : n ≤ 1000000) :
    Calls Ybad.prog 13 #[av c f v p n k] w fun e w' => ∃ sl er, e = .returned (.tuple #[sl, er]) ∧ Below w.heap.size w w' ∧
      (((dec bs).2 = true ∧ er = .nilIface ∧ ∃ avs : List Av, w'.ownsRow w.heap.size 32 4 sl avs.length (avs.flatMap Av.cells) ∧ All2 (Fits w') avs (dec bs).1) ∨ ((dec bs).2 = false ∧ Refused w' sl er 5014)) := by
  have HB : Hid (Bytes w p n k bs) := hbs
  clear hbs
  go_enter Ybad.func13, Ybad.ntmps13
  go_wp2_with fail
  refine (dec_any p n k bs _ (HB.out.below ((Below.refl _ w).alloc (Nat.le_refl _) _)) hn).mono ?_
  rintro e w2 ⟨avs, sl, er, rfl, hown, hb, hall, herr⟩
  have hb2 : Below w.heap.size w w2 := ((Below.refl _ w).alloc (Nat.le_refl _) _).trans (hb.mono (by simp))
  have HA : Hid (All2 (Fits w2) avs (dec bs).1) := hall.mono (fun a i h => h.below hb)
  have HO : Hid (w2.ownsRow w.heap.size 32 4 sl avs.length (avs.flatMap Av.cells)) := own_base hown (by simp)
  have T2 := (hb.block w.heap.size (by simp)).trans (heap_alloc_new w _)
  have hs2 := hb2.size
  clear hown hall hb
  rcases herr with ⟨hok, rfl⟩ | ⟨hok, eb, sb, c', f', v', rfl, heb, hsb, bc, bf, bv⟩
  · have HOK : Hid ((dec bs).2 = true) := hok
    clear hok T2
    go_wp2_with fail
    go_ret2
    exact ⟨_, _, rfl, hb2, .inl ⟨HOK.out, rfl, avs, HO.out, HA.out⟩⟩
  · have HOK : Hid ((dec bs).2 = false) := hok
    have e2 : w2.cell? ⟨eb, 2, none⟩ = some (.slice (some ⟨sb, 0, none⟩) 1 1) := by rw [cell_of_row _ _ _ _ _ _ heb]; rfl
    have HSB : Hid (w2.ownsRow 0 32 4 (.slice (some ⟨sb, 0, none⟩) 1 1) 1 (([(⟨c', f', v', none, 0, 0⟩ : Av)]).flatMap Av.cells)) :=
      ⟨rfl, .inr ⟨sb, 1, _, rfl, Nat.zero_le _, hsb, Nat.le_refl _, by decide, rfl, rfl⟩⟩
    have HFF : Hid (All2 (Fits w2) [(⟨c', f', v', none, 0, 0⟩ : Av)] [(⟨c', f', v', []⟩ : It)]) := .cons ⟨rfl, rfl, rfl, bc, bf, bv, ⟨rfl, Nat.le_refl _, Nat.zero_le _, .inl ⟨rfl, rfl⟩⟩⟩ .nil
    have HT2 : Hid (w2.heap[w.heap.size]? = some (.cells #[.int .u32 c, .int .u8 f, .int .u32 v, .slice p n k] 32 (0, 0))) := T2
    clear hok heb hsb T2
    go_wp2_with fail
    refine (enc_any (.slice (some ⟨sb, 0, none⟩) 1 1) [(⟨c', f', v', none, 0, 0⟩ : Av)] [(⟨c', f', v', []⟩ : It)] w2 HSB.out HFF.out (by simp) (by simp)).mono ?_
    rintro e w3 ⟨d3, rfl, hown3, hb3⟩
    obtain ⟨g3, cap3, _, hd3, _⟩ := own_some hown3 (by have := encOne_len (⟨c', f', v', []⟩ : It); simp only [enc, List.flatMap_cons, List.flatMap_nil, List.append_nil]; omega)
    subst hd3
    generalize (enc [(⟨c', f', v', []⟩ : It)]).length = L3 at *
    have T3 := (hb3.block _ (lt_of_block HT2.out)).trans HT2.out
    have t0 : w3.cell? ⟨w.heap.size, 0, none⟩ = some (.int .u32 c) := by rw [cell_of_row _ _ _ _ _ _ T3]; rfl
    have t1 : w3.cell? ⟨w.heap.size, 1, none⟩ = some (.int .u8 f) := by rw [cell_of_row _ _ _ _ _ _ T3]; rfl
    have t2 : w3.cell? ⟨w.heap.size, 2, none⟩ = some (.int .u32 v) := by rw [cell_of_row _ _ _ _ _ _ T3]; rfl
    have t3 : w3.cell? ⟨w.heap.size, 3, none⟩ = some (.slice p n k) := by rw [cell_of_row _ _ _ _ _ _ T3]; rfl
    have f3 : w3.frozen? ⟨w.heap.size, 3, none⟩ = false := frozen_of_row _ _ _ _ _ T3
    have hb3' : Below w.heap.size w w3 := hb2.trans (hb3.mono hs2)
    have hs3 := hb3'.size
    clear T3 hown3 hb3 e2
    go_wp2_with fail
    go_region
    go_wp2_with fail
    go_ret2
    refine ⟨_, _, rfl, ?_, .inr ⟨HOK.out, rfl, _, .slice (some ⟨w3.heap.size, 0, none⟩) 1 1, rfl, ?_⟩⟩
    · exact (((hb3'.setCell (Nat.le_refl _) _).alloc (by simp [World.setCell]; exact hs3) _).alloc (by simp [World.setCell]; omega) _).drew
    · have := heap_new2 (w3.setCell ⟨w.heap.size, 3, none⟩ (.slice (some ⟨g3, 0, none⟩) L3 cap3)) (.cells #[.int .u32 c, .int .u8 f, .int .u32 v, .slice (some ⟨g3, 0, none⟩) L3 cap3] 32) (.cells #[.int .u32 5014, .int .u32 0, .slice (some ⟨w3.heap.size, 0, none⟩) 1 1] 81)
      rw [show (w3.setCell ⟨w.heap.size, 3, none⟩ (.slice (some ⟨g3, 0, none⟩) L3 cap3)).heap.size = w3.heap.size by simp [World.setCell]] at this
      exact this

set_option maxHeartbeats 1600000 in
theorem members_any (c f v : Int) (p : Option Addr) (n k : Nat) (bs : List UInt8) (g o m k' : Nat) (ds : List (Int × Int × Bool)) (w : World) (hbs : Bytes w p n k bs) (hn : n ≤ 1000000) (hm : ds.length = m) (hm2 : m ≤ 1000) (hds : Defs w g o ds) :
    Calls Ybad.prog 22 #[av c f v p n k, .slice (some ⟨g, o, none⟩) m k'] w fun e w' => ∃ sl er, e = .returned (.tuple #[sl, er]) ∧ Below w.heap.size w w' ∧
      (((dec bs).2 = true ∧ allOk ds (dec bs).1 = true ∧ er = .nilIface ∧ ∃ avs : List Av, w'.ownsRow w.heap.size 32 4 sl avs.length (avs.flatMap Av.cells) ∧ All2 (Fits w') avs (dec bs).1 ∧ avs.length ≤ 1000000) ∨
       ((dec bs).2 = true ∧ allOk ds (dec bs).1 = false ∧ Refused w' sl er 5001) ∨ ((dec bs).2 = false ∧ Refused w' sl er 5014)) := by
  have hmf : ∀ (fn : Fn) (first cp : Array Value) (w : World), (Instr.makeFunc fn first cp).run Ybad.prog w = .ok (.func fn first cp) w := fun _ _ _ _ => rfl
  have HB : Hid (Bytes w p n k bs) := hbs
  have H2 : Hid (ds.length = m) := hm
  have H3 : Hid (Defs w g o ds) := hds
  clear hbs hm hds
  go_enter Ybad.func22, Ybad.ntmps22
  go_wp2_with fail
  have hb1 : Below w.heap.size w ((w.alloc (.cells #[.int .u32 c, .int .u8 f, .int .u32 v, .slice p n k] 32)).alloc (.cells #[.slice (some ⟨g, o, none⟩) m k'] 23)) := ((Below.refl _ w).alloc (Nat.le_refl _) _).alloc (by simp) _
  refine (group_any c f v p n k bs _ (HB.out.below hb1) hn).mono ?_
  rintro e w2 ⟨sl, er, rfl, hb, hcase⟩
  have hb2 : Below w.heap.size w w2 := hb1.trans (hb.mono (by simp; omega))
  have G2 := (hb.block (w.heap.size + 1) (by simp)).trans (heap_new2 w _ _)
  have hs2 := hb2.size
  clear hb1
  rcases hcase with ⟨hok, rfl, avs, hown, hall⟩ | ⟨hok, rfl, her⟩
  · have HOK : Hid ((dec bs).2 = true) := hok
    have HA : Hid (All2 (Fits w2) avs (dec bs).1) := hall
    have HO : Hid (w2.ownsRow w.heap.size 32 4 sl avs.length (avs.flatMap Av.cells)) := own_base hown (by simp; omega)
    have HL : Hid (avs.length ≤ 1000000) := by rw [hall.length]; exact Nat.le_trans (dec_len bs) (by rw [HB.out.len]; exact hn)
    have HG : Hid (w2.heap[w.heap.size + 1]? = some (.cells #[.slice (some ⟨g, o, none⟩) m k'] 23 (0, 0))) := G2
    clear hok hall hown G2 hb
    go_wp2_with fail
    refine (unsupported_any sl avs (dec bs).1 (w.heap.size + 1) g o m k' ds w2 w2 (own_base HO.out (Nat.zero_le _)) HA.out HL.out HG.out H2.out hm2 (H3.out.below hb2)).mono ?_
    rintro e w3 ⟨er, rfl, hb3, hcase⟩
    have hb3' : Below w.heap.size w w3 := hb2.trans (hb3.mono hs2)
    rcases hcase with ⟨hk1, rfl⟩ | ⟨hk1, her⟩
    · have HK : Hid (allOk ds (dec bs).1 = true) := hk1
      clear hk1
      go_wp2_with fail
      go_ret2
      exact ⟨_, _, rfl, hb3', .inl ⟨HOK.out, HK.out, rfl, avs, own_below HO.out hb3, HA.out.mono (fun a i h => h.below hb3), HL.out⟩⟩
    · have HK : Hid (allOk ds (dec bs).1 = false) := hk1
      obtain ⟨eb, s, rfl, heb⟩ := her
      have HE : Hid (w3.heap[eb]? = some (.cells #[.int .u32 5001, .int .u32 0, s] 81 (0, 0))) := heb
      clear hk1 heb
      go_wp2_with fail
      go_ret2
      exact ⟨_, _, rfl, hb3', .inr (.inl ⟨HOK.out, HK.out, rfl, eb, s, rfl, HE.out⟩)⟩
  · have HOK : Hid ((dec bs).2 = false) := hok
    obtain ⟨eb, s, rfl, heb⟩ := her
    have HE : Hid (w2.heap[eb]? = some (.cells #[.int .u32 5014, .int .u32 0, s] 81 (0, 0))) := heb
    clear hok heb G2 hb
    go_wp2_with fail
    go_ret2
    exact ⟨_, _, rfl, hb2, .inr (.inr ⟨HOK.out, rfl, eb, s, rfl, HE.out⟩)⟩

end Go.Proofs.YbulkcjpcDoor
