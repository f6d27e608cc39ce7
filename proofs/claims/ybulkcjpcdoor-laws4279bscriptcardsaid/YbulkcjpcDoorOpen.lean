/-
  From a script that can be read as data to its steps in memory.
-/
import Derived.Test.YbulkcjpcDoorLaid
import Derived.Test.YbulkcjpcDoorStp
namespace Go.Proofs.YbulkcjpcDoor
open Go Go.ChangeShapes Go.WideShapes Go.ChangeAt Go.RowKit Go.Deep
set_option maxRecDepth 100000

theorem cells30 : Ybad.prog.cellsOf 30 = 3 := by kernel_rfl
theorem cells5' : Ybad.prog.cellsOf 5 = 1 := by kernel_rfl

theorem step_of_trod {H : Type} {enc : TypeId × Value → H} {w : World} {base fuel : Nat} {sp : Nat → Bool} {held : Bool} {cs : List Value} {x : DataW H × List MemPlace} (h : DataW.trod enc Ybad.prog w base sp held fuel 30 cs = some x) :
    ∃ s : St, cs = [.int .u8 s.op, .int .u8 s.k, .int .u32 s.v] ∧ StBd s := by
  obtain ⟨y0, y1, y2, n, hx, hl, h0, h1, h2⟩ := trod_struct3 Ybad.underlying30 h
  rw [cells30] at hl
  match cs, hl with
  | [a, b, c], _ =>
    simp only [cells24, cells5', List.drop_zero, List.drop_succ_cons, List.take_succ_cons, List.take_zero] at h0 h1 h2
    obtain ⟨z0, e0, rfl, w0⟩ := DataW.trod_int Ybad.underlying5 h0
    obtain ⟨z1, e1, rfl, w1⟩ := DataW.trod_int Ybad.underlying5 h1
    obtain ⟨z2, e2, rfl, w2⟩ := DataW.trod_int Ybad.underlying24 h2
    simp at e0 e1 e2
    subst e0 e1 e2
    have b0 := bounds_u8 w0
    have b1 := bounds_u8 w1
    have b2 := bounds_u32 w2
    exact ⟨⟨z0, z1, z2⟩, rfl, ⟨b0.1, by simp only; omega⟩, ⟨b1.1, by simp only; omega⟩, ⟨b2.1, by simp only; omega⟩⟩

theorem steps_of_trod {H : Type} {enc : TypeId × Value → H} {W : World} {fuel : Nat} {held : Bool} {a0 : Option Addr} {len cap : Nat} {x : DataW H × List MemPlace} (h : DataW.trod enc Ybad.prog W 0 (fun _ => true) held fuel 22 [.slice a0 len cap] = some x) :
    ∃ ss : List St, ss.length = len ∧ (∀ s, s ∈ ss → StBd s) ∧ (0 < len → ∃ g o, a0 = some ⟨g, o, none⟩ ∧ Steps W g o ss) := by
  cases fuel with
  | zero => simp [DataW.trod] at h
  | succ fuel =>
    unfold DataW.trod at h
    rw [Ybad.underlying22] at h
    match a0, h with
    | none, h =>
      have : len = 0 := by
        split at h <;> simp_all
      subst this
      exact ⟨[], rfl, by simp, fun h => by omega⟩
    | some a, h =>
      simp only [cells30] at h
      split at h
      · obtain ⟨elems, hm, _⟩ := Option.bind_eq_some_iff.1 h
        have H1 : ∀ j, j < len → ∃ s : St, StBd s ∧ W.cell? ((a.add (j * 3)).add 0) = some (.int .u8 s.op) ∧ W.cell? ((a.add (j * 3)).add 1) = some (.int .u8 s.k) ∧ W.cell? ((a.add (j * 3)).add 2) = some (.int .u32 s.v) := by
          intro j hj
          obtain ⟨b, hb, hf⟩ := Lib.mapM_at hm j j (by simp [hj])
          obtain ⟨cs', hcs', hf⟩ := Option.bind_eq_some_iff.1 hf
          obtain ⟨s, rfl, hs⟩ := step_of_trod hf
          unfold World.cells? at hcs'
          split at hcs'
          · obtain ⟨v0, hv0, q0⟩ := Lib.mapM_at hcs' 0 0 (by simp)
            obtain ⟨v1, hv1, q1⟩ := Lib.mapM_at hcs' 1 1 (by simp [List.range_succ])
            obtain ⟨v2, hv2, q2⟩ := Lib.mapM_at hcs' 2 2 (by simp [List.range_succ])
            simp at hv0 hv1 hv2
            subst hv0 hv1 hv2
            exact ⟨s, hs, q0, q1, q2⟩
          · cases hcs'
        have H2 : ∃ F : Nat → St, ∀ j, j < len → StBd (F j) ∧ W.cell? ((a.add (j * 3)).add 0) = some (.int .u8 (F j).op) ∧ W.cell? ((a.add (j * 3)).add 1) = some (.int .u8 (F j).k) ∧ W.cell? ((a.add (j * 3)).add 2) = some (.int .u32 (F j).v) := by
          classical
          refine ⟨fun j => if hj : j < len then Classical.choose (H1 j hj) else ⟨0, 0, 0⟩, fun j hj => ?_⟩
          simp only [dif_pos hj]
          exact Classical.choose_spec (H1 j hj)
        obtain ⟨F, hF⟩ := H2
        refine ⟨(List.range len).map F, by simp, fun s hs => ?_, fun hpos => ?_⟩
        · obtain ⟨j, hj, rfl⟩ := List.mem_map.1 hs
          exact (hF j (List.mem_range.1 hj)).1
        · obtain ⟨b, off, spot⟩ := a
          have hspot : spot = none := by
            have := World.cell?_spot (hF 0 hpos).2.1
            simpa [Addr.add] using this
          subst hspot
          refine ⟨b, off, rfl, ⟨fun j s hj => ?_⟩⟩
          have hjl : j < len := by
            rcases Nat.lt_or_ge j len with h | h
            · exact h
            · rw [List.getElem?_eq_none (by simpa using h)] at hj; cases hj
          have hs : F j = s := by simpa [hjl] using hj
          obtain ⟨_, q0, q1, q2⟩ := hF j hjl
          rw [hs] at q0 q1 q2
          simp only [Addr.add_lit] at q0 q1 q2
          exact ⟨q0, q1, q2⟩
      · cases h

end Go.Proofs.YbulkcjpcDoor
