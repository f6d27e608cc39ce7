/-
  The JSONReader in memory; skip.
-/
import Derived.Test.YbulkcjhaDoorRows
import Derived.WalkKit
import Derived.WalkSpells
import Derived.WalkLawsBesides
import Derived.Deep.QuietTactic
import Derived.BigQuiet
import Derived.Deep.LoopGhost
namespace Go.Proofs.YbulkcjhaDoor
open Go.RowKit

/-- The byte at place j, as the walk shows it. -/
def at' (bs : List UInt8) (j : Nat) : Int := ((bs.getD j 0).toNat : Int)
theorem at_bd (bs : List UInt8) (j : Nat) : 0 ≤ at' bs j ∧ at' bs j ≤ 255 := by
  have := (bs.getD j 0).toNat_lt
  unfold at'; omega

/-- The reader in block rb, over the bytes bs in row g, at place i, not failed. -/
structure Rdr (rb g cap : Nat) (bs : List UInt8) (i : Nat) (w : World) : Prop where
  hd : w.heap[rb]? = some (.cells #[.slice (some ⟨g, 0, none⟩) bs.length cap, .int .i64 i, .bool false] 29 (0, 0))
  row : ∀ j, j < bs.length → w.cell? ⟨g, j, none⟩ = some (.int .u8 (at' bs j))
  ne : g ≠ rb
  len : bs.length ≤ 64
  le : i ≤ bs.length

/-- Of what was there only block rb may have turned. -/
structure But (rb : Nat) (w w' : World) : Prop where
  os : w'.os = w.os
  tape : w'.tape = w.tape
  output : w'.output = w.output
  size : w.heap.size ≤ w'.heap.size
  block : ∀ b, b < w.heap.size → b ≠ rb → w'.heap[b]? = w.heap[b]?
theorem But.refl (rb : Nat) (w : World) : But rb w w := ⟨rfl, rfl, rfl, Nat.le_refl _, fun _ _ _ => rfl⟩
theorem But.trans {rb : Nat} {a b c : World} (h : But rb a b) (k : But rb b c) : But rb a c :=
  ⟨k.os.trans h.os, k.tape.trans h.tape, k.output.trans h.output, Nat.le_trans h.size k.size, fun i hi hn => (k.block i (Nat.lt_of_lt_of_le hi h.size) hn).trans (h.block i hi hn)⟩
theorem But.drewN {rb : Nat} {a b : World} (h : But rb a b) (n : Nat) : But rb a (b.drewN n) := ⟨h.os, h.tape, h.output, h.size, h.block⟩
theorem But.setCell {rb : Nat} {a b : World} (h : But rb a b) (o : Nat) (v : Value) : But rb a (b.setCell ⟨rb, o, none⟩ v) :=
  h.trans ⟨rfl, rfl, rfl, by simp [World.setCell], fun _ _ hn => Below.heap_setCell _ _ _ _ hn⟩
theorem But.alloc {rb : Nat} {a b : World} (h : But rb a b) (o : Obj) : But rb a (b.alloc o) :=
  h.trans ⟨rfl, rfl, rfl, by simp, fun k hk _ => Below.heap_alloc _ _ k hk⟩
theorem But.below {rb B : Nat} {w a b : World} (h : But rb a b) (hb : Below B w a) (hB : B ≤ rb) (hs : B ≤ a.heap.size) : Below B w b :=
  hb.trans ⟨h.os, h.tape, h.output, h.size, fun k hk => h.block k (by omega) (by omega)⟩

theorem Rdr.c0 {rb g cap i : Nat} {bs : List UInt8} {w : World} (h : Rdr rb g cap bs i w) : w.cell? ⟨rb, 0, none⟩ = some (.slice (some ⟨g, 0, none⟩) bs.length cap) := by rw [cell_of_row _ _ _ _ _ _ h.hd]; rfl
theorem Rdr.c1 {rb g cap i : Nat} {bs : List UInt8} {w : World} (h : Rdr rb g cap bs i w) : w.cell? ⟨rb, 1, none⟩ = some (.int .i64 i) := by rw [cell_of_row _ _ _ _ _ _ h.hd]; rfl
theorem Rdr.c2 {rb g cap i : Nat} {bs : List UInt8} {w : World} (h : Rdr rb g cap bs i w) : w.cell? ⟨rb, 2, none⟩ = some (.bool false) := by rw [cell_of_row _ _ _ _ _ _ h.hd]; rfl
theorem Rdr.free {rb g cap i : Nat} {bs : List UInt8} {w : World} (h : Rdr rb g cap bs i w) (o : Nat) : w.frozen? ⟨rb, o, none⟩ = false := frozen_of_row _ _ _ _ _ h.hd
theorem Rdr.lt {rb g cap i : Nat} {bs : List UInt8} {w : World} (h : Rdr rb g cap bs i w) : rb < w.heap.size := lt_of_block h.hd

/-- The same reader in a world whose two blocks are as they were. -/
theorem Rdr.but {rb g cap i : Nat} {bs : List UInt8} {w w' : World} (h : Rdr rb g cap bs i w) (hb : w'.heap[rb]? = w.heap[rb]?) (hg : w'.heap[g]? = w.heap[g]?) : Rdr rb g cap bs i w' :=
  ⟨hb.trans h.hd, fun j hj => (World.cell?_of_block (a := ⟨g, j, none⟩) hg).trans (h.row j hj), h.ne, h.len, h.le⟩
theorem Rdr.drewN {rb g cap i : Nat} {bs : List UInt8} {w : World} (h : Rdr rb g cap bs i w) (n : Nat) : Rdr rb g cap bs i (w.drewN n) := h.but rfl rfl
theorem Rdr.moved {rb g cap i : Nat} {bs : List UInt8} {w : World} (h : Rdr rb g cap bs i w) (k : Nat) (hk : k ≤ bs.length) (v : Int) (hv : v = (k : Int)) : Rdr rb g cap bs k (w.setCell ⟨rb, 1, none⟩ (.int .i64 v)) :=
  ⟨by subst hv; rw [heap_setCell_same _ _ _ _ _ _ h.hd]; rfl, fun j hj => (World.cell?_setCell_other _ _ _ _ (fun e => h.ne (congrArg Addr.block e).symm)).trans (h.row j hj), h.ne, h.len, hk⟩

def isWs (c : Int) : Prop := c = 32 ∨ c = 9 ∨ c = 10 ∨ c = 13

set_option maxRecDepth 100000 in
set_option maxHeartbeats 800000 in
theorem skip_any (rb g cap : Nat) (bs : List UInt8) (i j : Nat) (w : World) (h : Rdr rb g cap bs i w) (hij : i ≤ j) (hjl : j ≤ bs.length) (hws : ∀ k, i ≤ k → k < j → isWs (at' bs k)) (hst : j < bs.length → ¬ isWs (at' bs j)) :
    Calls Ybad.prog 11 #[.pointer (some ⟨rb, 0, none⟩)] w fun e w' => e = .returned (.bool (decide (j < bs.length))) ∧ Rdr rb g cap bs j w' ∧ But rb w w' := by
  have hlen := h.len
  have HW : Hid _ := hws
  have HS : Hid _ := hst
  clear hws hst
  go_enter Ybad.func11, Ybad.ntmps11
  go_wp2_with fail
  go_loopg [2] (j - i) (fun n r wr => ∃ k, i ≤ k ∧ k ≤ j ∧ n = j - k ∧ Rdr rb g cap bs k wr ∧ But rb w wr)
  case atStart => exact ⟨i, Nat.le_refl _, hij, rfl, h, But.refl _ _⟩
  case round =>
    clear h
    obtain ⟨k, hik, hkj, rfl, hr, hb⟩ := hrel
    have c0 := hr.c0
    have c1 := hr.c1
    have c2 := hr.c2
    have f1 := hr.free 1
    by_cases hkl : k < bs.length
    · have cb := hr.row k hkl
      have k0 : (0 : Int) ≤ (k : Int) := Int.natCast_nonneg _
      have k1 : (k : Int) < (bs.length : Int) := by omega
      have hbd := at_bd bs k
      by_cases hkj' : k < j
      · have hw := HW.out k hik hkj'
        rcases hw with hw | hw | hw | hw
        all_goals
          have q1 : at' bs k ≤ _ := Int.le_of_eq hw
          have q2 : _ ≤ at' bs k := Int.le_of_eq hw.symm
          clear hw
          go_wp2_with fail
          go_quiet (fail)
          go_wp2_with fail
          go_quiet (fail)
          go_wp2_with fail
          go_roundg (j - (k + 1))
          case measure => omega
          case rel => exact ⟨k + 1, by omega, by omega, rfl, (hr.drewN _).moved (k + 1) (by omega) _ (by omega), (hb.drewN _).setCell _ _⟩
      · have hkj2 : k = j := by omega
        subst hkj2
        have hn := HS.out hkl
        have n1 : (at' bs k == 32) = false := beq_eq_false_iff_ne.2 (fun e => hn (Or.inl e))
        have n2 : (at' bs k == 9) = false := beq_eq_false_iff_ne.2 (fun e => hn (Or.inr (Or.inl e)))
        have n3 : (at' bs k == 10) = false := beq_eq_false_iff_ne.2 (fun e => hn (Or.inr (Or.inr (Or.inl e))))
        have n4 : (at' bs k == 13) = false := beq_eq_false_iff_ne.2 (fun e => hn (Or.inr (Or.inr (Or.inr e))))
        clear hn
        go_wp2_with fail
        go_quiet (fail)
        go_wp2_with fail
        go_quiet (fail)
        go_wp2_with fail
        go_ret
        exact ⟨by simp [hkl], hr.drewN _, hb.drewN _⟩
    · have hkj2 : k = j := by omega
      subst hkj2
      have k1 : ¬ (k : Int) < (bs.length : Int) := by omega
      go_wp2_with fail
      go_quiet (fail)
      go_wp2_with fail
      go_ret
      exact ⟨by simp [hkl], hr.drewN _, hb.drewN _⟩
end Go.Proofs.YbulkcjhaDoor
