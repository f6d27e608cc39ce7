/-
  LawS4279BScript: the row and its tied card.
-/
import Derived.Test.YbulkcjpcDoorScript
import Derived.Test.YbulkcjpcDoorOpen
import Derived.Test.YbulkcjpcDoorTie
import Derived.Test.YbulkcjpcDoorCards
import Derived.OpenVars
import Derived.SevenTiedAt
namespace Go.Proofs.YbulkcjpcDoor.lawS4279BScript
open Go Go.ChangeShapes Go.WideShapes Go.ChangeAt Go.RowKit Go.Deep
set_option maxRecDepth 100000

theorem own : ownKnob Ybad.prog.godebug = none := by kernel_rfl
theorem laidOut : laidOutB Ybad.prog = true := by kernel_rfl

/-- The door's own heap meets the condition. -/
theorem door_met (os : Os) (args : Array Value) : laidMetH Ybad.prog Rows.lawS4279BScriptRow.laid ((World.doorLaid Ybad.prog 487 os).forCall (fun _ _ => 0) ⟨#[], args, []⟩).memory :=
  laidMetH_of_parts3 (fuel := 8) (laidMet_of_run' 8 (by kernel_rfl) (by kernel_rfl)) (by kernel_rfl) (by kernel_rfl)

/-- What the condition gives the walk. -/
theorem glob_of {W : World} (h : laidMetH Ybad.prog Rows.lawS4279BScriptRow.laid W) : Glob W := by
  rw [MakeChecks.laidMetH_plain _ _ _ (by kernel_rfl)] at h
  have m2 : Def3 W 2 515 10415 true := head_def (d := (515, 10415, true)) (by kernel_rfl) (by kernel_rfl) h
  have h := laidMet.tail h
  have m3 : Def3 W 3 1025 10415 true := head_def (d := (1025, 10415, true)) (by kernel_rfl) (by kernel_rfl) h
  have h := laidMet.tail h
  have m1 : Def3 W 1 1028 10415 true := head_def (d := (1028, 10415, true)) (by kernel_rfl) (by kernel_rfl) h
  have h := laidMet.tail h
  have m4 : Def3 W 4 1034 10415 false := head_def (d := (1034, 10415, false)) (by kernel_rfl) (by kernel_rfl) h
  have h := laidMet.tail h
  have m5 : Def3 W 5 1046 10415 false := head_def (d := (1046, 10415, false)) (by kernel_rfl) (by kernel_rfl) h
  have h := laidMet.tail h
  have m7 : Def3 W 7 1047 10415 false := head_def (d := (1047, 10415, false)) (by kernel_rfl) (by kernel_rfl) h
  have h := laidMet.tail h
  have m6 : Def3 W 6 1048 10415 false := head_def (d := (1048, 10415, false)) (by kernel_rfl) (by kernel_rfl) h
  have h := laidMet.tail h
  exact ⟨head_defs (g := 0) (ds := qosDs) (by kernel_rfl) (by kernel_rfl) (by decide) h, m1, m2, m3, m4, m5, m6, m7⟩

theorem vars_len {H : Type} {enc : TypeId × Value → H} {P : Program} {w : World} {sp : Nat → Bool} : ∀ {ns : List String} {gs : List (DataW H)} {ps : List MemPlace}, DataW.TrodVars enc P w sp ns gs ps → gs.length = ns.length
  | [], [], _, _ => rfl
  | [], _ :: _, _, h => h.elim
  | _ :: _, [], _, h => h.elim
  | _ :: _, _ :: _, _, h => by
    obtain ⟨_, _, _, _, _, _, _, _, _, _, hs, _⟩ := h
    simp [vars_len hs]

theorem lifted (os : Os) (started : os.Started) (H : Type) (enc : TypeId × Value → H) :
    ReturnsInHanded {} Ybad.checked os 3 .any (fun w args => (Rows.lawS4279BScriptSpec.pre enc Ybad.prog Ybad.f3 [] false w args ∧ laidMetH Ybad.prog Rows.lawS4279BScriptRow.laid w) ∧ sizedMet enc Ybad.prog Ybad.f3 (OpenSpec.ofChange Rows.lawS4279BScriptSpec) false w args)
      (Rows.lawS4279BScriptSpec.post enc Ybad.prog Ybad.f3 false true false false) := by
  refine returnsInHanded_of_change_and (C := Ybad.checked) (X := fun w _ => laidMetH Ybad.prog Rows.lawS4279BScriptRow.laid w) (fun _ _ _ hh h => h.of_heap hh) own started (by kernel_rfl) Ybad.func3
    (ChangeSpec.witness_shaped (enc := enc) (C := Ybad.checked) (os := os) (X := fun w _ => laidMetH Ybad.prog Rows.lawS4279BScriptRow.laid w) false (World.doorLaid Ybad.prog 487 os) #[.slice none 0 0] 8 rfl (World.shaped_of_RefB (by kernel_rfl) (by kernel_rfl)) (by kernel_rfl) (by kernel_rfl) (by kernel_rfl) (door_met os _)) ?_
  intro W base args ds gs before hval0 hW _ _ hL _
  have hval : ∀ (j : Nat) t v, Ybad.f3.params[j]? = some t → args[j]? = some v → Value.okWide Ybad.prog W .any base t v := hval0
  have hW' := hW
  obtain ⟨p, q, hA0, hV, rfl, _, _⟩ := hW
  have hA : DataW.TrodAll enc Ybad.prog W 0 (fun _ => true) true Ybad.f3.params.toList args.toList ds p := hA0
  rw [Ybad.params3] at hA hval
  obtain ⟨v0, d0, rfl, rfl, h0⟩ := trodAll_one hA
  obtain ⟨a0, len, cap, rfl⟩ := okWide_slice Ybad.underlying22 (hval 0 22 v0 rfl rfl)
  have h0k := h0
  obtain ⟨fuel, hf⟩ := h0
  clear hA0 hval0
  have hlt : ∀ x ∈ p, x.block < W.heap.size := fun x hx => hW'.lt x (by simp [hx])
  have hargs : ∀ (W' : World), Below W.heap.size W W' → DataW.Trod enc Ybad.prog W' 0 (fun b => decide (b < W.heap.size)) true 22 (.slice a0 len cap) d0 p :=
    fun W' hn => Below.trod laidOut (by kernel_rfl) (of_decide_eq_true (by kernel_rfl)) h0k hn hlt
  have hgl := vars_len hV
  have hG := glob_of hL
  obtain ⟨ss, hsl, hbd, hst⟩ := steps_of_trod hf
  have hcall : Calls Ybad.prog 3 #[.slice a0 len cap] W fun e w' => e = .returned (.bool true) ∧ Below W.heap.size W w' := by
    by_cases h3 : len ≤ 300
    · exact script_any a0 len cap ss W hsl h3 hst hbd hG
    · exact script_long a0 len cap W (by omega)
  refine hcall.mono fun e W' ⟨he, hb⟩ => ?_
  subst he
  have hvars := Below.trodVars laidOut hb (by kernel_rfl) hV
  match gs, hgl with
  | [g1, g2, g3, g4, g5, g6, g7, g8], _ => exact ⟨_, rfl, _, _, _, [], p, q, hW', trodAll_mk1 (shut_bool Ybad.underlying4 _), trodAll_mk1 (hargs _ hb), hvars, hb.frame _, fun h => by cases h⟩

theorem row_holds : Rows.LawS4279BScriptSaid :=
  OpenClaim.holds_of_wide 3 Ybad.f3 rfl rfl rfl rfl rfl rfl rfl ⟨rfl, rfl, rfl, rfl, rfl⟩ rfl rfl rfl rfl rfl (by kernel_rfl) Ybad.func3 (by kernel_rfl)
    (of_decide_eq_true (by kernel_rfl)) (by unfold Func.isWrapper; first | (rw [if_pos (by decide +kernel)]; kernel_rfl) | (rw [if_neg (by decide +kernel)]; exact ⟨rfl, rfl⟩))
    (fun os started H enc _ => lifted os started H enc)

theorem proved : Rows.LawS4279BScriptCardSaid :=
  Claim7.holds_tied_plain_at .later [] [.called, .called, .called, .called, .called, .called, .called, .widerDeep] true (true, "78a7696d3ee09790867b35f7a0b36a6f866d7ff2190f9846f2f4ee7553b18f54") true
    row_holds (fun _ h => by cases h) (by kernel_rfl) (fun _ h => by cases h) lawS4279BScript_row_tie rfl ⟨rfl, rfl⟩ (by kernel_rfl) rfl
    (fun f fn hf hfn => by
      obtain rfl : f = 3 := Option.some.inj ((show Ybad.prog.funcNamed Rows.lawS4279BScriptRow.func = some 3 by kernel_rfl).symm.trans hf) |>.symm
      obtain rfl : fn = Ybad.f3 := (Option.some.inj (Ybad.func3.symm.trans hfn)).symm
      exact ⟨by kernel_rfl, fun j t ht => by
        rw [Ybad.params3] at ht
        have hm : t ∈ [22] := by simpa using Array.mem_of_getElem? ht
        have hall : ([22].all fun u => !Ybad.prog.wantsStandIn u) = true := by kernel_rfl
        exact (show Ybad.prog.wantsStandIn t = false by simpa using List.all_eq_true.1 hall t hm)⟩)
    (by kernel_rfl)

end Go.Proofs.YbulkcjpcDoor.lawS4279BScript
