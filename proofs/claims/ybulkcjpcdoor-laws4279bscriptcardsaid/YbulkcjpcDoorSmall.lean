/-
  AVP.Uint32, AVPDef.Bytes, AVPDef.Uint32, Find.
-/
import Derived.Test.YbulkcjpcDoorKnown
import Derived.Deep.MidRow
namespace Go.Proofs.YbulkcjpcDoor
open Go.RowKit
set_option maxRecDepth 100000

def val4 (d : List UInt8) : Int := at' d 0 * 16777216 + at' d 1 * 65536 + at' d 2 * 256 + at' d 3
/-- What Uint32 answers: the number, and the error's code (0: none). -/
def u32of (d : List UInt8) : Int × Int := if d.length = 4 then (val4 d, 0) else (0, 5014)
def ErrOr (w : World) (er : Value) (code : Int) : Prop := (code = 0 ∧ er = .nilIface) ∨ (code ≠ 0 ∧ ErrAt w er code)
theorem ErrOr.below {w w' : World} {er : Value} {code : Int} (h : ErrOr w er code) (hb : Below w.heap.size w w') : ErrOr w' er code := by
  rcases h with h | ⟨h, h2⟩
  · exact .inl h
  · exact .inr ⟨h, h2.below hb⟩

theorem heap_new3 (w : World) (o1 o2 o3 : Obj) : (((w.alloc o1).alloc o2).alloc o3).heap[w.heap.size + 1 + 1]? = some o3 := by simpa using heap_alloc_new ((w.alloc o1).alloc o2) o3

set_option maxHeartbeats 1600000 in
theorem u32_any (c f v : Int) (p : Option Addr) (n k : Nat) (d : List UInt8) (w : World) (hd : Bytes w p n k d) :
    Calls Ybad.prog 25 #[av c f v p n k] w fun e w' => ∃ er, e = .returned (.tuple #[.int .u32 (u32of d).1, er]) ∧ Below w.heap.size w w' ∧ ErrOr w' er (u32of d).2 := by
  have HB : Hid (Bytes w p n k d) := hd
  clear hd
  by_cases h4 : n = 4
  · subst h4
    have hl := HB.out.len
    rcases HB.out.lies with ⟨_, hk⟩ | ⟨g, o, rfl, hc⟩
    · exact absurd HB.out.cap (by omega)
    have hbw : Below w.heap.size w (w.alloc (.cells #[.int .u32 c, .int .u8 f, .int .u32 v, .slice (some ⟨g, o, none⟩) 4 k] 32)) := (Below.refl _ w).alloc (Nat.le_refl _) _
    have HC : Hid (∀ j, j < 4 → w.cell? ⟨g, o + j, none⟩ = some (.int .u8 (at' d j))) := hc
    have hu : u32of d = (val4 d, 0) := if_pos hl
    rw [hu]
    clear hc hu hl
    go_enter Ybad.func25, Ybad.ntmps25
    go_wp2_with fail
    refine (uint32_any g o 4 k _ _ _ _ _ (Nat.le_refl _) (cell_alloc _ (HC.out 0 (by omega))) (cell_alloc _ (HC.out 1 (by omega))) (cell_alloc _ (HC.out 2 (by omega))) (cell_alloc _ (HC.out 3 (by omega))) (at_bd _ _) (at_bd _ _) (at_bd _ _) (at_bd _ _)).mono ?_
    rintro e w2 ⟨rfl, hb⟩
    go_wp2_with fail
    go_ret2
    exact ⟨_, rfl, hbw.trans (hb.mono (by simp)), .inl ⟨rfl, rfl⟩⟩
  · have hl : u32of d = (0, 5014) := if_neg (by rw [HB.out.len]; exact h4)
    rw [hl]
    have h4' : ((n : Int) != 4) = true := by simp; omega
    clear hl
    go_enter Ybad.func25, Ybad.ntmps25
    go_wp2_with fail
    go_region
    go_wp2_with fail
    go_ret2
    refine ⟨_, rfl, ((((Below.refl _ w).alloc (Nat.le_refl _) _).alloc (by simp) _).alloc (by simp; omega) _).drew, .inr ⟨by decide, _, .slice (some ⟨w.heap.size + 1, 0, none⟩) 1 1, rfl, ?_⟩⟩
    exact heap_new3 w _ _ _

theorem range_of_row {w : World} {g : Nat} {cs : List Value} {t : TypeId} (h : w.heap[g]? = some (.cells cs.toArray t (0, 0))) : w.rangeAt g 0 cs := fun j u hj => by
  rw [Nat.zero_add, cell_of_row _ _ _ _ _ _ h]; simpa using hj
theorem results_cell {P : Program} {fn : Func} {p : Tmp} {ty : TypeId} (h : fn.results = #[.cell p ty]) (tmps : Array Value) (w : World) (g : Nat) (cs : List Value) (d : TypeDesc)
    (hp : tmps.getD p undef = .pointer (some ⟨g, 0, none⟩)) (hg : w.rangeAt g 0 cs) (hu : P.underlying ty = some d) (hd : d.isRow = true) (hi : (P.info? ty).map (·.size) = some cs.length) :
    (results fn tmps).run P w = .ok (.agg cs.toArray) w := by
  have hp' : tmps[p]?.getD undef = .pointer (some ⟨g, 0, none⟩) := by simpa using hp
  simp [results, h, hp', asAddr, run_loadVar_mid w g 0 ty cs d hg hu hd hi]
theorem results_cell2 {P : Program} {fn : Func} {p q : Tmp} {ty : TypeId} (h : fn.results = #[.cell p ty, .tmp q]) (tmps : Array Value) (w : World) (g : Nat) (cs : List Value) (d : TypeDesc) (u : Value)
    (hp : tmps.getD p undef = .pointer (some ⟨g, 0, none⟩)) (hq : tmps.getD q undef = u) (hg : w.rangeAt g 0 cs) (hu : P.underlying ty = some d) (hd : d.isRow = true) (hi : (P.info? ty).map (·.size) = some cs.length) :
    (results fn tmps).run P w = .ok (.tuple #[.agg cs.toArray, u]) w := by
  have hp' : tmps[p]?.getD undef = .pointer (some ⟨g, 0, none⟩) := by simpa using hp
  have hq' : tmps[q]?.getD undef = u := by simpa using hq
  simp [results, h, hp', hq', asAddr, run_loadVar_mid w g 0 ty cs d hg hu hd hi]

theorem Ybad.size32 : (Ybad.prog.info? 32).map (·.size) = some 4 := by kernel_rfl

def flagsOf (dv : Int) (dm : Bool) : Int := (if dv = 0 then 0 else 128) + (if dm then 64 else 0)

set_option maxHeartbeats 1600000 in
theorem bytes_any (dc dv : Int) (dm : Bool) (p : Option Addr) (n k : Nat) (w : World) :
    Calls Ybad.prog 9 #[df dc dv dm, .slice p n k] w fun e w' => e = .returned (av dc (flagsOf dv dm) dv p n k) ∧ Below w.heap.size w w' := by
  have hb : ∀ o1 o2, Below w.heap.size w ((w.alloc o1).alloc o2) := fun o1 o2 => ((Below.refl _ w).alloc (Nat.le_refl _) _).alloc (by simp) _
  by_cases h0 : dv = 0
  · subst h0
    cases dm
    · go_enter Ybad.func9, Ybad.ntmps9
      go_wp2_with fail
      exact bodyPost_ret (results_cell Ybad.results9 _ _ (w.heap.size + 1) [.int .u32 dc, .int .u8 0, .int .u32 0, .slice p n k] _ rfl (range_of_row (heap_new2 w _ _)) Ybad.underlying32 rfl Ybad.size32) rfl ⟨rfl, hb _ _⟩
    · go_enter Ybad.func9, Ybad.ntmps9
      go_wp2_with fail
      exact bodyPost_ret (results_cell Ybad.results9 _ _ (w.heap.size + 1) [.int .u32 dc, .int .u8 64, .int .u32 0, .slice p n k] _ rfl (range_of_row (heap_new2 w _ _)) Ybad.underlying32 rfl Ybad.size32) rfl ⟨rfl, hb _ _⟩
  · have h0' : (dv != 0) = true := by simp [h0]
    have e1 : flagsOf dv false = 128 := by simp [flagsOf, h0]
    have e2 : flagsOf dv true = 192 := by simp [flagsOf, h0]
    cases dm
    · rw [e1]
      go_enter Ybad.func9, Ybad.ntmps9
      go_wp2_with fail
      exact bodyPost_ret (results_cell Ybad.results9 _ _ (w.heap.size + 1) [.int .u32 dc, .int .u8 128, .int .u32 dv, .slice p n k] _ rfl (range_of_row (heap_new2 w _ _)) Ybad.underlying32 rfl Ybad.size32) rfl ⟨rfl, hb _ _⟩
    · rw [e2]
      go_enter Ybad.func9, Ybad.ntmps9
      go_wp2_with fail
      exact bodyPost_ret (results_cell Ybad.results9 _ _ (w.heap.size + 1) [.int .u32 dc, .int .u8 192, .int .u32 dv, .slice p n k] _ rfl (range_of_row (heap_new2 w _ _)) Ybad.underlying32 rfl Ybad.size32) rfl ⟨rfl, hb _ _⟩

end Go.Proofs.YbulkcjpcDoor
