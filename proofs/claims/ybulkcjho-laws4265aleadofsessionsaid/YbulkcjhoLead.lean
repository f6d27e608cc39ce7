/-
  (*Draw).Lead under a free lock: it hands back the set's lead, and the world is as it was.
-/
import Derived.Test.YbulkcjhoRows
import Derived.Test.YbulkcjhoLocks
import Derived.WalkKit
import Derived.WalkSpells
import Derived.WalkLawsBesides
import Derived.Conc.RwLone
namespace Go.Proofs.Ybulkcjho
open Go.RowKit Go.RwLone

theorem setCell_back (w : World) (a : Addr) (v x : Value) (h : w.cell? a = some v) : (w.setCell a x).setCell a v = w := by
  have hs : a.spot = none := World.cell?_spot h
  obtain ⟨b, o, sp⟩ := a
  simp only at hs
  subst hs
  have hlt := World.block_lt_of_cell? w _ h
  simp only at hlt
  obtain ⟨hp, tp, dr, os, out⟩ := w
  simp only [World.setCell, World.mk.injEq, and_true, Option.isSome_none, Bool.false_eq_true, if_false]
  simp only at hlt
  refine Array.ext (by simp) fun i h1 h2 => ?_
  by_cases hi : b = i
  · subst hi
    simp only [Array.getElem_modify_self]
    simp only [World.cell?, Array.getElem?_eq_getElem hlt] at h
    cases hb : hp[b] with
    | cells c e f =>
      rw [hb] at h
      simp only at h
      simp only [Obj.cells.injEq, and_true]
      have h' : c[o]? = some v := by simpa using h
      refine Array.ext_getElem? fun j => ?_
      by_cases hj : o = j
      · subst hj
        have ho : o < c.size := (Array.getElem?_eq_some_iff.1 h').1
        rw [Array.getElem?_setIfInBounds_self_of_lt (by simpa using ho), h']
      · rw [Array.getElem?_setIfInBounds_ne hj, Array.getElem?_setIfInBounds_ne hj]
    | _ => rfl
  · simp only [Array.getElem_modify, hi, if_false]

theorem w1 : wrap32 (0 + 1) = 1 := by kernel_rfl
theorem w0 : wrap32 (1 + -1) = 0 := by kernel_rfl

/-- The store's lock, free. -/
structure LockFree (sb : Nat) (w : World) : Prop where
  c0 : w.cell? ⟨sb, 0, none⟩ = some (.int .i32 0)
  c2 : w.cell? ⟨sb, 2, none⟩ = some (.int .u32 0)
  c3 : w.cell? ⟨sb, 3, none⟩ = some (.int .u32 0)
  c4 : w.cell? ⟨sb, 4, none⟩ = some (.int .i32 0)
  f4 : w.frozen? ⟨sb, 4, none⟩ = false

theorem rlock0 (sb : Nat) (w : World) (h : LockFree sb w) : Calls Yba.prog 9 #[.pointer (some ⟨sb, 0, none⟩)] w fun e w' => e = .returned (.tuple #[]) ∧ w' = w.setCell ⟨sb, 4, none⟩ (.int .i32 1) :=
  (rlock_open Yba.rwRLib sb 0 0 _ _ w h.c0 h.c3 h.c4 h.f4 (by rw [w1]; decide)).mono fun _ _ hh => by rw [w1] at hh; exact hh

theorem runlock1 (sb : Nat) (w : World) (c0 : w.cell? ⟨sb, 0, none⟩ = some (.int .i32 0)) (c2 : w.cell? ⟨sb, 2, none⟩ = some (.int .u32 0)) (c4 : w.cell? ⟨sb, 4, none⟩ = some (.int .i32 1)) (f4 : w.frozen? ⟨sb, 4, none⟩ = false) :
    CallsD Yba.prog 10 #[.pointer (some ⟨sb, 0, none⟩)] .returning w fun e u' w' => u' = .returning ∧ (e = .returned (.tuple #[]) ∧ w' = w.setCell ⟨sb, 4, none⟩ (.int .i32 0)) :=
  (runlock_deferred Yba.rwRLib sb 0 1 _ _ .returning w c0 c2 c4 f4 (by rw [w0]; decide)).mono fun _ _ _ hh => by rw [w0] at hh; exact hh

set_option maxRecDepth 100000 in
set_option maxHeartbeats 800000 in
theorem lead_any (sb db tb : Nat) (ld : Addr) (w : World) (hL : LockFree sb w) (d0 : w.cell? ⟨db, 0, none⟩ = some (.pointer (some ⟨sb, 0, none⟩))) (d3 : w.cell? ⟨db, 3, none⟩ = some (.pointer (some ⟨tb, 0, none⟩)))
    (t0 : w.cell? ⟨tb, 0, none⟩ = some (.pointer (some ld))) :
    Calls Yba.prog 6 #[.pointer (some ⟨db, 0, none⟩)] w fun e w' => e = .returned (.pointer (some ld)) ∧ w' = w := by
  have e0 : (w.setCell ⟨sb, 4, none⟩ (.int .i32 1)).cell? ⟨db, 0, none⟩ = some (.pointer (some ⟨sb, 0, none⟩)) := (World.cell?_setCell_other _ _ _ _ (by simp)).trans d0
  have e3 : (w.setCell ⟨sb, 4, none⟩ (.int .i32 1)).cell? ⟨db, 3, none⟩ = some (.pointer (some ⟨tb, 0, none⟩)) := (World.cell?_setCell_other _ _ _ _ (by simp)).trans d3
  have et : (w.setCell ⟨sb, 4, none⟩ (.int .i32 1)).cell? ⟨tb, 0, none⟩ = some (.pointer (some ld)) := (World.cell?_setCell_other _ _ _ _ (by simp)).trans t0
  go_enter_defers Yba.func6, Yba.ntmps6
  go_wp2_with (go_at_call 9; refine (rlock0 sb w hL).mono ?_; rintro e w' ⟨rfl, rfl⟩)
  refine leaves_cons (f := 10) (args := #[.pointer (some ⟨sb, 0, none⟩)]) (by simp) (by simp [go_sem]) ?_
  refine (runlock1 sb _ ?_ ?_ ?_ ?_).mono ?_
  · exact (World.cell?_setCell_other _ _ _ _ (by simp)).trans hL.c0
  · exact (World.cell?_setCell_other _ _ _ _ (by simp)).trans hL.c2
  · exact World.cell?_setCell_same _ _ _ hL.c4
  · exact (World.frozen?_setCell _ _ _ _).trans hL.f4
  rintro e u' w'' ⟨rfl, rfl, rfl⟩
  exact ⟨_, results_tmp rfl _ _ _, rfl, setCell_back w _ _ _ hL.c4⟩
end Go.Proofs.Ybulkcjho
