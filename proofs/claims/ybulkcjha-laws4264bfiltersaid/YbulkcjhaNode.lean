/-
  The leaves of the two laws: inventory.NewProduct, and the stand-in node's match.
-/
import Derived.Test.YbulkcjhaBuild
import Derived.WalkKit
import Derived.WalkSpells
import Derived.WalkLawsBesides
import Derived.Deep.RegionHeld3
import Derived.Deep.AppendLies
import Derived.Deep.RegionLaw
import Derived.Deep.CutRange
import Derived.LaidEqlPtr
namespace Go.Proofs.Ybulkcjha
open Go.RowKit

theorem Yba.info3 : (Yba.prog.info? 3).map (fun i => (i.zero, i.size, i.bytes)) = some (some (.int .i64 0), 1, 8) := by kernel_rfl

set_option maxHeartbeats 400000 in
theorem newProduct_any (s t : ByteArray) (w : World) :
    Calls Yba.prog 5 #[.string s, .string t] w fun e w' => ∃ pb, e = .returned (.pointer (some ⟨pb, 0, none⟩)) ∧ Below w.heap.size w w' := by
  have hmm := @run_makeMap Yba.prog
  go_enter Yba.func5, Yba.ntmps5
  go_wp2
  go_ret
  refine ⟨_, rfl, ?_⟩
  exact ((((Below.refl _ _).alloc (Nat.le_refl _) _).alloc (by simp) _).alloc (by simp; omega) _).alloc (by simp; omega) _

/-- Of what was there only block L and the row 'row' may have turned. -/
structure Stays (w w' : World) (L : Nat) (row : Option Nat) : Prop where
  os : w'.os = w.os
  tape : w'.tape = w.tape
  output : w'.output = w.output
  size : w.heap.size ≤ w'.heap.size
  block : ∀ b, b < w.heap.size → b ≠ L → some b ≠ row → w'.heap[b]? = w.heap[b]?

theorem Yba.info58 : ∃ j, Yba.prog.info? 58 = some j := by
  have h : (Yba.prog.info? 58).isSome = true := by kernel_rfl
  exact Option.isSome_iff_exists.1 h

theorem neq_same (pv : Option Addr) (w : World) : (binOp .neq 23 (.pointer pv) (.pointer pv)).run Yba.prog w = .ok (.bool false) w := by
  cases pv with
  | none => rw [run_neq_pointer_nil w 23 none (by simp [Program.pointee, Yba.underlying23])]; rfl
  | some a =>
    obtain ⟨j, hj⟩ := Yba.info58
    have h : ∀ d : Nat, (Op.equalIn (d + 1) 23 (.pointer (some a)) (.pointer (some a))).run Yba.prog w = .ok true w := fun d => by
      simp [Op.equalIn, run_underlying Yba.underlying23, sizeOf, typeInfo, hj, run_sameAddr_same]
    simp only [binOp]
    simp [Op.equal, Op.maxDepth, h 9999]

theorem node_rest {w w1 : World} {zb L D : Nat} {a : Bool} {ix : Nat} {pv : Option Addr} {lv nv : Value} {k n base g : Nat} {xs ys : List Value} {o : Obj}
    (hz : w.heap[zb]? = some (nodeObj a ix L D pv)) (hL : w.heap[L]? = some (.cells #[lv] 25 (0, 0))) (hown : w.ownsRow base 3 1 lv k xs)
    (hown1 : w1.ownsRow base 3 1 nv n ys) (hnv : nv.ownBlock = some g) (hgrow : (w.alloc o).drew.grownBy w1 lv.ownBlock) (hat : lv.ownBlock = some g ∨ g = w.heap.size + 1) :
    (w1.setCell ⟨L, 0, none⟩ nv).heap[L]? = some (.cells #[nv] 25 (0, 0)) ∧ (w1.setCell ⟨L, 0, none⟩ nv).heap[zb]? = some (nodeObj a ix L D pv) ∧
    (w1.setCell ⟨L, 0, none⟩ nv).ownsRow base 3 1 nv n ys ∧ Stays w (w1.setCell ⟨L, 0, none⟩ nv) L lv.ownBlock := by
  have lz := lt_of_block hz
  have lL := lt_of_block hL
  have key : ∀ b o t, t ≠ 3 → w.heap[b]? = some (.cells o t (0, 0)) → lv.ownBlock ≠ some b := by
    intro b o t ht hb h
    rcases hown.2 with ⟨h1, _⟩ | ⟨g, cap', cur, h1, _, h3, _⟩
    · rw [h1] at h; simp [Value.ownBlock] at h
    · rw [h1] at h; simp [Value.ownBlock] at h; subst h; rw [hb] at h3; simp at h3; exact ht h3.2
  have aL := key L _ _ (by decide) hL
  have az := key zb _ _ (by decide) hz
  have hzL : zb ≠ L := by rintro rfl; rw [hL] at hz; simp at hz
  have hsz : (w.alloc o).drew.heap.size = w.heap.size + 1 := by simp
  have old : ∀ b, b < w.heap.size → some b ≠ lv.ownBlock → w1.heap[b]? = w.heap[b]? := fun b hb hne => by
    rw [hgrow.block b (by omega) hne]
    exact Below.heap_alloc w o b hb
  have hL1 : w1.heap[L]? = some (.cells #[lv] 25 (0, 0)) := (old L lL (Ne.symm aL)).trans hL
  have hgL : g ≠ L := by
    rcases hat with h | h
    · intro e; subst e; exact aL h
    · omega
  refine ⟨one_setCell hL1, ?_, ownsRow_setCell_other hown1 (by rw [hnv]; simpa using hgL) _, ⟨hgrow.os, hgrow.tape, hgrow.output, ?_, ?_⟩⟩
  · rw [Below.heap_setCell _ _ _ _ (by exact hzL), old zb lz (Ne.symm az)]; exact hz
  · have := hgrow.size
    simp [World.setCell]; omega
  · intro b hb hbL hne
    rw [Below.heap_setCell _ _ _ _ (by exact hbL)]
    exact old b hb hne


set_option maxRecDepth 100000 in
set_option maxHeartbeats 1600000 in
theorem match_any (zb L D : Nat) (a : Bool) (ix : Nat) (pv ao : Option Addr) (k cap base : Nat) (xs : List Value) (w : World)
    (hz : w.heap[zb]? = some (nodeObj a ix L D pv)) (hL : w.heap[L]? = some (.cells #[.slice ao k cap] 25 (0, 0)))
    (hown : w.ownsRow base 3 1 (.slice ao k cap) k xs) (hbase : base ≤ w.heap.size) (hk : k ≤ 4096) :
    Calls Yba.prog 29 #[.pointer (some ⟨zb, 0, none⟩), .pointer pv] w fun e w' => ∃ g cap', e = .returned (.bool a) ∧
      w'.heap[L]? = some (.cells #[.slice (some ⟨g, 0, none⟩) (k + 1) cap'] 25 (0, 0)) ∧
      w'.ownsRow base 3 1 (.slice (some ⟨g, 0, none⟩) (k + 1) cap') (k + 1) (xs ++ [.int .i64 ix]) ∧ Stays w w' L (Value.slice ao k cap).ownBlock := by
  obtain ⟨i0, hi0, hz0, hz1, hz2⟩ := info_parts Yba.info3
  have z0 : w.cell? ⟨zb, 0, none⟩ = some (.bool a) := by simp [World.cell?, hz]
  have z1 : w.cell? ⟨zb, 1, none⟩ = some (.int .i64 ix) := by simp [World.cell?, hz]
  have z2 : w.cell? ⟨zb, 2, none⟩ = some (.pointer (some ⟨L, 0, none⟩)) := by simp [World.cell?, hz]
  have z3 : w.cell? ⟨zb, 3, none⟩ = some (.pointer pv) := by simp [World.cell?, hz]
  have l0 := cell_of_one hL
  have lf := free_of_one hL
  have lz := lt_of_block hz
  have lL := lt_of_block hL
  have hneq := neq_same pv
  have aL : (Value.slice ao k cap).ownBlock ≠ some L := by
    intro h
    rcases hown.2 with ⟨h1, _⟩ | ⟨g, cap', cur, h1, _, h3, _⟩
    · rw [h1] at h; simp [Value.ownBlock] at h
    · rw [h1] at h; simp [Value.ownBlock] at h; subst h; rw [hL] at h3; simp at h3
  have az : (Value.slice ao k cap).ownBlock ≠ some zb := by
    intro h
    rcases hown.2 with ⟨h1, _⟩ | ⟨g, cap', cur, h1, _, h3, _⟩
    · rw [h1] at h; simp [Value.ownBlock] at h
    · rw [h1] at h; simp [Value.ownBlock] at h; subst h; rw [hz] at h3; simp at h3
  have lfa : ∀ o, (w.alloc o).frozen? ⟨L, 0, none⟩ = false := fun o => (World.frozen?_alloc_past _ _ _ lL).trans lf
  have z2a : ∀ o, (w.alloc o).cell? ⟨zb, 2, none⟩ = some (.pointer (some ⟨L, 0, none⟩)) := fun o => (World.cell?_alloc_past _ _ _ lz).trans z2
  have l0a : ∀ o, (w.alloc o).cell? ⟨L, 0, none⟩ = some (.slice ao k cap) := fun o => (World.cell?_alloc_past _ _ _ lL).trans l0
  have HL : Hid (w.heap[L]? = some (.cells #[.slice ao k cap] 25 (0, 0))) := hL
  have HZ : Hid (w.heap[zb]? = some (nodeObj a ix L D pv)) := hz
  clear hL hz
  go_enter Yba.func29, Yba.ntmps29
  go_upto_region 1 with fail
  go_cut [4] from 5 (fun r w' => r = .bool false ∧ ∃ g cap' w1, w1.ownsRow base 3 1 (.slice (some ⟨g, 0, none⟩) (k + 1) cap') (k + 1) (xs ++ [.int .i64 ix]) ∧ (w.alloc (.cells #[.int .i64 ix] 3)).drew.grownBy w1 (Value.slice ao k cap).ownBlock ∧
      ((Value.slice ao k cap).ownBlock = some g ∨ g = w.heap.size + 1) ∧ w' = w1.setCell ⟨L, 0, none⟩ (.slice (some ⟨g, 0, none⟩) (k + 1) cap'))
  case first =>
    go_region_law ((refine step_append_lies _ (by rfl) _ _ _ (by rfl) base 3 i0 _ 1 8 Yba.underlying25 hi0 hz0 hz1 hz2 rfl (by omega) (.slice ao k cap) k xs (by rfl) ((hown.alloc _).drew) ⟨w.heap.size, 0, none⟩ 1 1 [.int .i64 ix] (by rfl) (by rfl) (World.news_of_block (cs := #[.int .i64 ix]) (t := 3) (fr := (0, 0)) (heap_alloc_new w _)) (by simp [Value.oneCell']) (by omega) (by unfold maxLen; omega) (by omega) (by simp; omega) (w.heap.size + 1) (by simp) ?_; intro g cap' w1 hown1 hgrow hat hlt; have e1 : w1.cell? ⟨zb, 2, none⟩ = some (.pointer (some ⟨L, 0, none⟩)) := (by rw [hgrow.cell_far _ (by simp; omega) (Ne.symm az)]; exact z2a _); have e2 : w1.frozen? ⟨L, 0, none⟩ = false := (by rw [hgrow.frozen_far _ (by simp; omega) (Ne.symm aL)]; exact lfa _); have e3 : w1.cell? ⟨L, 0, none⟩ = some (.slice ao k cap) := (by rw [hgrow.cell_far _ (by simp; omega) (Ne.symm aL)]; exact l0a _)))
    all_goals
      clear z2a l0a lfa z0 z1 z2 z3 l0 lf hneq
      go_wp2_with fail
      go_meet
      case rel => exact ⟨rfl, g, cap', w1, hown1, hgrow, hat, rfl⟩
  case rest =>
    obtain ⟨rfl, g, cap', w1, hown1, hgrow, hat, rfl⟩ := hcut
    obtain ⟨r1, r2, r3, r4⟩ := node_rest (nv := .slice (some ⟨g, 0, none⟩) (k + 1) cap') (g := g) HZ.out HL.out hown hown1 rfl hgrow hat
    generalize w1.setCell ⟨L, 0, none⟩ (.slice (some ⟨g, 0, none⟩) (k + 1) cap') = W at *
    have y0 : W.cell? ⟨zb, 0, none⟩ = some (.bool a) := by simp [World.cell?, r2]
    have y3 : W.cell? ⟨zb, 3, none⟩ = some (.pointer pv) := by simp [World.cell?, r2]
    clear z2a l0a lfa z0 z1 z2 z3 l0 lf hown1 hgrow hat hown
    have R1 : Hid _ := r1
    have R2 : Hid _ := r2
    clear r1 r2
    go_wp2
    go_ret
    exact ⟨g, cap', rfl, R1.out, r3, r4⟩

end Go.Proofs.Ybulkcjha
