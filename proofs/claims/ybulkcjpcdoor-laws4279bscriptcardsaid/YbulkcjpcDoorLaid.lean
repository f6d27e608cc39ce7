/-
  From the row's condition on the listed variables to what the walks ask.
-/
import Derived.Test.YbulkcjpcDoorParse
import Derived.ProofKit
import Derived.LaidMore
import Derived.OpenShut
import Derived.Stop.Joined
import Derived.Stop.LaidErr
import Derived.Lib.LaidTab
import Derived.Deep.Strs
namespace Go.Proofs.YbulkcjpcDoor
open Go Go.ChangeShapes Go.WideShapes Go.ChangeAt Go.RowKit Go.Deep
set_option maxRecDepth 100000

abbrev toD {H : Type} (d : Int × Int × Bool) : DataW H := .agg [.lit (.int .u32 d.1), .lit (.int .u32 d.2.1), .lit (.bool d.2.2)]
theorem cells26 : Ybad.prog.cellsOf 26 = 3 := by kernel_rfl
theorem cells24 : Ybad.prog.cellsOf 24 = 1 := by kernel_rfl
theorem cells4 : Ybad.prog.cellsOf 4 = 1 := by kernel_rfl

theorem def_of_trod {H : Type} {enc : TypeId × Value → H} {w : World} {base fuel : Nat} {sp : Nat → Bool} {held : Bool} {cs : List Value} {d : Int × Int × Bool} {p : List MemPlace} (h : DataW.trod enc Ybad.prog w base sp held fuel 26 cs = some (toD d, p)) :
    cs = [.int .u32 d.1, .int .u32 d.2.1, .bool d.2.2] := by
  obtain ⟨y0, y1, y2, n, hx, hl, h0, h1, h2⟩ := trod_struct3 Ybad.underlying26 h
  rw [cells26] at hl
  match cs, hl with
  | [a, b, c], _ =>
    simp only [cells24, cells4, List.drop_zero, List.drop_succ_cons, List.take_succ_cons, List.take_zero] at h0 h1 h2
    obtain ⟨z0, e0, rfl, _⟩ := DataW.trod_int Ybad.underlying24 h0
    obtain ⟨z1, e1, rfl, _⟩ := DataW.trod_int Ybad.underlying24 h1
    obtain ⟨z2, e2, rfl⟩ := DataW.trod_bool Ybad.underlying4 h2
    simp at e0 e1 e2
    subst e0 e1 e2
    simp at hx
    obtain ⟨⟨h1, h2, h3⟩, _⟩ := hx
    rw [h1, h2, h3]

theorem head_def {name : String} {g : Nat} {d : Int × Int × Bool} {rest : List (String × DataW Unit)} {W : World} (hg : Ybad.prog.globalNamed name = some g) (hty : (Ybad.prog.globals[g]?).map (·.type) = some 26)
    (h : laidMet Ybad.prog ((name, toD d) :: rest) W) : Def3 W g d.1 d.2.1 d.2.2 := by
  obtain ⟨ps, ⟨g', t', cs, fuel, p, q, hg', ht', hvar, hd, _, _⟩, _⟩ := h
  obtain rfl := Option.some.inj (hg.symm.trans hg')
  obtain rfl := Option.some.inj (hty.symm.trans ht')
  have hcs := def_of_trod hd
  have hc := World.var?_cell hg hvar
  have e : ∀ i : Nat, cs[i]? = cs.toList[i]? := fun i => by simp
  refine ⟨?_, ?_, ?_⟩
  · rw [hc 0, e, hcs]; rfl
  · rw [hc 1, e, hcs]; rfl
  · rw [hc 2, e, hcs]; rfl

theorem head_defs {name : String} {g : Nat} {ds : List (Int × Int × Bool)} {rest : List (String × DataW Unit)} {W : World} (hg : Ybad.prog.globalNamed name = some g) (hty : (Ybad.prog.globals[g]?).map (·.type) = some 23) (hpos : 0 < ds.length)
    (h : laidMet Ybad.prog ((name, .slice (ds.map toD) []) :: rest) W) : ∃ qg qo qk, W.cell? ⟨g, 0, none⟩ = some (.slice (some ⟨qg, qo, none⟩) ds.length qk) ∧ Defs W qg qo ds := by
  obtain ⟨ps, ⟨g', t', cs, fuel, p, q, hg', ht', hvar, hd, _, _⟩, _⟩ := h
  obtain rfl := Option.some.inj (hg.symm.trans hg')
  obtain rfl := Option.some.inj (hty.symm.trans ht')
  have hc := World.var?_cell hg hvar
  have e : ∀ i : Nat, cs[i]? = cs.toList[i]? := fun i => by simp
  cases fuel with
  | zero => simp [DataW.trod] at hd
  | succ fuel =>
    unfold DataW.trod at hd
    rw [Ybad.underlying23] at hd
    generalize hL : cs.toList = L at hd
    match L, hd with
    | [.slice (some a) len cap], hd =>
      simp only [cells26] at hd
      split at hd
      · obtain ⟨elems, hm, hd⟩ := Option.bind_eq_some_iff.1 hd
        obtain ⟨r, _, hx⟩ := Option.map_eq_some_iff.1 hd
        simp only [Prod.mk.injEq, DataW.slice.injEq] at hx
        obtain ⟨⟨hx1, _⟩, _⟩ := hx
        have hlen : elems.length = len := by simpa using Lib.mapM_length hm
        have hlen2 : len = ds.length := by
          have := congrArg List.length hx1
          simp at this
          omega
        have hcells : ∀ (j : Nat) (d : Int × Int × Bool), ds[j]? = some d → W.cell? ((a.add (j * 3)).add 0) = some (.int .u32 d.1) ∧ W.cell? ((a.add (j * 3)).add 1) = some (.int .u32 d.2.1) ∧ W.cell? ((a.add (j * 3)).add 2) = some (.bool d.2.2) := by
          intro j d hj
          have hjl : j < len := by rw [hlen2]; exact (List.getElem?_eq_some_iff.1 hj).1
          obtain ⟨b, hb, hf⟩ := Lib.mapM_at hm j j (by simp [hjl])
          obtain ⟨cs', hcs', hf⟩ := Option.bind_eq_some_iff.1 hf
          have hb1 : b.1 = toD d := by
            have h2 : (elems.map (·.1))[j]? = some b.1 := by simp [hb]
            rw [hx1, List.getElem?_map, hj] at h2
            simpa using h2.symm
          obtain ⟨b1, b2⟩ := b
          simp only at hb1
          subst hb1
          have hcc := def_of_trod hf
          subst hcc
          unfold World.cells? at hcs'
          split at hcs'
          · obtain ⟨v0, hv0, q0⟩ := Lib.mapM_at hcs' 0 0 (by simp)
            obtain ⟨v1, hv1, q1⟩ := Lib.mapM_at hcs' 1 1 (by simp [List.range_succ])
            obtain ⟨v2, hv2, q2⟩ := Lib.mapM_at hcs' 2 2 (by simp [List.range_succ])
            simp at hv0 hv1 hv2
            subst hv0 hv1 hv2
            exact ⟨q0, q1, q2⟩
          · cases hcs'
        obtain ⟨b, off, spot⟩ := a
        have hspot : spot = none := by
          obtain ⟨d0, hd0⟩ : ∃ d0, ds[0]? = some d0 := ⟨_, List.getElem?_eq_getElem hpos⟩
          have := World.cell?_spot (hcells 0 d0 hd0).1
          simpa [Addr.add] using this
        subst hspot
        refine ⟨b, off, cap, ?_, ⟨fun j d hj => ?_⟩⟩
        · rw [hc 0, e, hL, ← hlen2]; rfl
        · obtain ⟨q0, q1, q2⟩ := hcells j d hj
          simp only [Addr.add_lit] at q0 q1 q2
          exact ⟨q0, q1, q2⟩
      · cases hd
    | .slice none n k :: r, hd =>
      exfalso
      split at hd <;> simp_all

end Go.Proofs.YbulkcjpcDoor
