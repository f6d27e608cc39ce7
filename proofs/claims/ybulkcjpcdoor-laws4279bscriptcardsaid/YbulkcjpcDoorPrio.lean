/-
  The laid variables; priorityOf.
-/
import Derived.Test.YbulkcjpcDoorGroup
import Derived.Test.YbulkcjpcDoorFind
namespace Go.Proofs.YbulkcjpcDoor
open Go.RowKit
set_option maxRecDepth 100000

structure Def3 (w : World) (b : Nat) (c v : Int) (m : Bool) : Prop where
  c0 : w.cell? ⟨b, 0, none⟩ = some (.int .u32 c)
  c1 : w.cell? ⟨b, 1, none⟩ = some (.int .u32 v)
  c2 : w.cell? ⟨b, 2, none⟩ = some (.bool m)
theorem Def3.below {w w' : World} {b : Nat} {c v : Int} {m : Bool} (h : Def3 w b c v m) (hb : Below w.heap.size w w') : Def3 w' b c v m :=
  ⟨(hb.cell (World.block_lt_of_cell? w _ h.c0)).trans h.c0, (hb.cell (World.block_lt_of_cell? w _ h.c1)).trans h.c1, (hb.cell (World.block_lt_of_cell? w _ h.c2)).trans h.c2⟩

def qosDs : List (Int × Int × Bool) := [(1028, 10415, true), (516, 10415, true), (515, 10415, true), (555, 10415, false), (554, 10415, false), (1026, 10415, true), (1025, 10415, true), (2851, 10415, false), (2850, 10415, false), (1020, 10415, true), (1034, 10415, false), (1041, 10415, false), (1040, 10415, false), (2849, 10415, false), (2848, 10415, false), (2818, 10415, false)]
def prDs : List (Int × Int × Bool) := [(1046, 10415, false), (1047, 10415, false), (1048, 10415, false)]

/-- The laid variables, as the program's text lays them. -/
structure Glob (w : World) : Prop where
  q : ∃ qg qo qk, w.cell? ⟨0, 0, none⟩ = some (.slice (some ⟨qg, qo, none⟩) 16 qk) ∧ Defs w qg qo qosDs
  g1 : Def3 w 1 1028 10415 true
  g2 : Def3 w 2 515 10415 true
  g3 : Def3 w 3 1025 10415 true
  g4 : Def3 w 4 1034 10415 false
  g5 : Def3 w 5 1046 10415 false
  g6 : Def3 w 6 1048 10415 false
  g7 : Def3 w 7 1047 10415 false
theorem Glob.below {w w' : World} (h : Glob w) (hb : Below w.heap.size w w') : Glob w' := by
  obtain ⟨qg, qo, qk, h1, h2⟩ := h.q
  exact ⟨⟨qg, qo, qk, (hb.cell (World.block_lt_of_cell? w _ h1)).trans h1, h2.below hb⟩, h.g1.below hb, h.g2.below hb, h.g3.below hb, h.g4.below hb, h.g5.below hb, h.g6.below hb, h.g7.below hb⟩

def prio (d : List UInt8) : Option Int × Int :=
  if (dec d).2 = false then (none, 5014)
  else if allOk prDs (dec d).1 = false then (none, 5001)
  else match findBy 1046 10415 (dec d).1 with
    | none => (none, 5005)
    | some i => (some (u32of i.d).1, (u32of i.d).2)

def PtrIs (w : World) (v : Value) : Option Int → Prop
  | none => v = .pointer none
  | some x => ∃ b, v = .pointer (some ⟨b, 0, none⟩) ∧ w.heap[b]? = some (.cells #[.int .u32 x] 24 (0, 0))
theorem PtrIs.below {w w' : World} {v : Value} {o : Option Int} (h : PtrIs w v o) (hb : Below w.heap.size w w') : PtrIs w' v o := by
  cases o with
  | none => exact h
  | some x =>
    obtain ⟨b, h1, h2⟩ := h
    exact ⟨b, h1, (hb.block _ (lt_of_block h2)).trans h2⟩

def PtrErr (w w' : World) (e : Ending) (r : Option Int × Int) : Prop := ∃ pv er, e = .returned (.tuple #[pv, er]) ∧ Below w.heap.size w w' ∧ PtrIs w' pv r.1 ∧ ErrOr w' er r.2

theorem Defs3 {w : World} {b : Nat} (h : w.heap[b]? = some (.cells #[.int .u32 1046, .int .u32 10415, .bool false, .int .u32 1047, .int .u32 10415, .bool false, .int .u32 1048, .int .u32 10415, .bool false] 26 (0, 0))) : Defs w b 0 prDs := by
  refine ⟨fun j d hj => ?_⟩
  match j, hj with
  | 0, hj => simp [prDs] at hj; subst hj; refine ⟨?_, ?_, ?_⟩ <;> (rw [cell_of_row _ _ _ _ _ _ h]; rfl)
  | 1, hj => simp [prDs] at hj; subst hj; refine ⟨?_, ?_, ?_⟩ <;> (rw [cell_of_row _ _ _ _ _ _ h]; rfl)
  | 2, hj => simp [prDs] at hj; subst hj; refine ⟨?_, ?_, ?_⟩ <;> (rw [cell_of_row _ _ _ _ _ _ h]; rfl)
  | j + 3, hj => simp [prDs] at hj

set_option maxHeartbeats 3200000 in
theorem prio_any (c f v : Int) (p : Option Addr) (n k : Nat) (d : List UInt8) (w : World) (hd : Bytes w p n k d) (hn : n ≤ 1000000) (hg : Glob w) :
    Calls Ybad.prog 26 #[av c f v p n k] w fun e w' => PtrErr w w' e (prio d) := by
  have HB : Hid (Bytes w p n k d) := hd
  have HG : Hid (Glob w) := hg
  have hbw : Below w.heap.size w (w.alloc (.cells #[.int .u32 c, .int .u8 f, .int .u32 v, .slice p n k] 32)) := (Below.refl _ w).alloc (Nat.le_refl _) _
  have G1 := hg.below hbw
  have x0 := G1.g5.c0; have x1 := G1.g5.c1; have x2 := G1.g5.c2
  have y0 := G1.g7.c0; have y1 := G1.g7.c1; have y2 := G1.g7.c2
  have z0 := G1.g6.c0; have z1 := G1.g6.c1; have z2 := G1.g6.c2
  clear hd hg G1
  go_enter Ybad.func26, Ybad.ntmps26
  go_wp2_with fail
  clear x0 x1 x2 y0 y1 y2 z0 z1 z2
  have hb1 : ∀ o, Below w.heap.size w ((w.alloc (.cells #[.int .u32 c, .int .u8 f, .int .u32 v, .slice p n k] 32)).alloc o) := fun o => hbw.alloc (by simp) _
  refine (members_any c f v p n k d (w.heap.size + 1) 0 3 3 prDs _ (HB.out.below (hb1 _)) hn rfl (by omega) (Defs3 (heap_new2 w _ _))).mono ?_
  rintro e w2 ⟨sl, er, rfl, hb, hcase⟩
  have hb2 : Below w.heap.size w w2 := (hb1 _).trans (hb.mono (by simp; omega))
  have hs2 := hb2.size
  clear hb hb1 hbw
  rcases hcase with ⟨hok, hall, rfl, avs, hown, hfit, hlen⟩ | ⟨hok, hall, rfl, her⟩ | ⟨hok, rfl, her⟩
  · have HO : Hid (w2.ownsRow 0 32 4 sl avs.length (avs.flatMap Av.cells)) := own_base hown (Nat.zero_le _)
    have HF : Hid (All2 (Fits w2) avs (dec d).1) := hfit
    have HP : Hid (prio d = match findBy 1046 10415 (dec d).1 with | none => (none, 5005) | some i => (some (u32of i.d).1, (u32of i.d).2)) := by show prio d = _; rw [prio, if_neg (by rw [hok]; decide), if_neg (by rw [hall]; decide)]
    have G2 := HG.out.below hb2
    have x0 := G2.g5.c0; have x1 := G2.g5.c1; have x2 := G2.g5.c2
    clear hok hall hown hfit G2
    go_wp2_with fail
    refine (find_any sl avs (dec d).1 1046 10415 false w2 HO.out HF.out hlen).mono ?_
    rintro e w3 ⟨a, b, rfl, hb3, hcase⟩
    obtain ⟨ac, af, av', ap, an, ak⟩ := a
    have hb3' : Below w.heap.size w w3 := hb2.trans (hb3.mono hs2)
    have hs3 := hb3'.size
    rcases hcase with ⟨i, hfi, rfl, hfits⟩ | ⟨hfi, rfl⟩
    · have HP2 : Hid (prio d = (some (u32of i.d).1, (u32of i.d).2)) := by have := HP.out; rw [hfi] at this; exact this
      obtain ⟨-, -, -, -, -, -, hby⟩ := hfits
      have HBY : Hid (Bytes w2 ap an ak i.d) := hby
      clear hfi hby x0 x1 x2
      go_wp2_with fail
      refine (u32_any ac af av' ap an ak i.d _ (HBY.out.below ((hb3.alloc hb3.size _)))).mono ?_
      rintro e w4 ⟨er, rfl, hb4, her⟩
      have hb4' : Below w.heap.size w w4 := (hb3'.alloc hs3 _).trans (hb4.mono (by simp; omega))
      generalize hX : (u32of i.d).1 = X at *
      have HE : Hid (ErrOr w4 er (u32of i.d).2) := her
      clear her hb4 hX
      go_wp2_with fail
      refine (some_any X er w4).mono ?_
      rintro e w5 ⟨rfl, rfl⟩
      go_wp2_with fail
      go_ret2
      refine ⟨_, _, rfl, hb4'.alloc hb4'.size _, ?_, ?_⟩
      · rw [show (prio d).1 = some X by rw [HP2.out]]
        exact ⟨_, rfl, heap_alloc_new w4 _⟩
      · rw [HP2.out]
        exact HE.out.below ((Below.refl _ _).alloc (Nat.le_refl _) _)
    · have HP2 : Hid (prio d = (none, 5005)) := by have := HP.out; rw [hfi] at this; exact this
      have G3 := HG.out.below (hb3'.alloc hs3 (.cells #[.int .u32 ac, .int .u8 af, .int .u32 av', .slice ap an ak] 32))
      have x0' := G3.g5.c0; have x1' := G3.g5.c1; have x2' := G3.g5.c2
      clear hfi x0 x1 x2 G3
      go_wp2_with fail
      refine (defU32_any 1046 10415 false 0 (by omega) (by omega) _).mono ?_
      rintro e w4 ⟨g4, cap4, rfl, hn4⟩
      have hb4' : Below w.heap.size w w4 := (hb3'.alloc hs3 _).trans (hn4.below.mono (by simp; omega))
      clear hn4 x0' x1' x2'
      go_wp2_with fail
      refine (missing_any _ _ _ _ _ _ w4).mono ?_
      rintro e w5 ⟨⟨eb, s, rfl, heb⟩, hb5⟩
      have hb5' : Below w.heap.size w w5 := hb4'.trans (hb5.mono hb4'.size)
      have HEB : Hid (w5.heap[eb]? = some (.cells #[.int .u32 5005, .int .u32 0, s] 81 (0, 0))) := heb
      clear heb hb5
      go_wp2_with fail
      go_ret2
      refine ⟨_, _, rfl, hb5', ?_, ?_⟩
      · rw [HP2.out]; rfl
      · rw [HP2.out]; exact .inr ⟨by decide, eb, s, rfl, HEB.out⟩
  · have HP : Hid (prio d = (none, 5001)) := by show prio d = _; rw [prio, if_neg (by rw [hok]; decide), if_pos hall]
    obtain ⟨eb, s, rfl, heb⟩ := her
    have HE : Hid (w2.heap[eb]? = some (.cells #[.int .u32 5001, .int .u32 0, s] 81 (0, 0))) := heb
    clear hok hall heb
    go_wp2_with fail
    go_ret2
    refine ⟨_, _, rfl, hb2, ?_, ?_⟩
    · rw [HP.out]; rfl
    · rw [HP.out]; exact .inr ⟨by decide, eb, s, rfl, HE.out⟩
  · have HP : Hid (prio d = (none, 5014)) := by show prio d = _; rw [prio, if_pos hok]
    obtain ⟨eb, s, rfl, heb⟩ := her
    have HE : Hid (w2.heap[eb]? = some (.cells #[.int .u32 5014, .int .u32 0, s] 81 (0, 0))) := heb
    clear hok heb
    go_wp2_with fail
    go_ret2
    refine ⟨_, _, rfl, hb2, ?_, ?_⟩
    · rw [HP.out]; rfl
    · rw [HP.out]; exact .inr ⟨by decide, eb, s, rfl, HE.out⟩

end Go.Proofs.YbulkcjpcDoor
