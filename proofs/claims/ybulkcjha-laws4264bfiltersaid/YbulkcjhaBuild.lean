/-
  zzs4264bbuild: the slice of stand-in nodes.
-/
import Derived.Test.YbulkcjhaRows
import Derived.WalkKit
import Derived.WalkSpells
import Derived.WalkLawsBesides
import Derived.Deep.AppendLies
namespace Go.Proofs.Ybulkcjha
open Go.RowKit

theorem Yba.info35 : (Yba.prog.info? 35).map (fun i => (i.zero, i.size, i.bytes)) = some (some .nilIface, 1, 16) := by kernel_rfl

abbrev nodeObj (a : Bool) (ix : Nat) (L D : Nat) (pv : Option Addr) : Obj :=
  .cells #[.bool a, .int .i64 ix, .pointer (some ⟨L, 0, none⟩), .pointer pv, .pointer (some ⟨D, 0, none⟩)] 61 (0, 0)

/-- The row xs holds the nodes 0, 1, .. in order. -/
def Nodes (B : Nat) (bs : Nat → Bool) (L D : Nat) (pv : Option Addr) (w : World) (xs : List Value) : Prop :=
  ∀ i, i < xs.length → ∃ z, xs[i]? = some (.iface 59 (.pointer (some ⟨z, 0, none⟩))) ∧ B ≤ z ∧ w.heap[z]? = some (nodeObj (bs i) i L D pv)

theorem nodes_step {B : Nat} {bs : Nat → Bool} {L D : Nat} {pv : Option Addr} {wr w2 : World} {k : Nat} {xs : List Value} {o : Obj} {v : Value} (hk : xs.length = k) (hB : B ≤ wr.heap.size)
    (hown : wr.ownsRow B 35 1 v k xs) (hn : Nodes B bs L D pv wr xs) (hgrow : ((wr.alloc (nodeObj (bs k) k L D pv)).alloc o).grownBy w2 v.ownBlock) :
    Nodes B bs L D pv w2 (xs ++ [.iface 59 (.pointer (some ⟨wr.heap.size, 0, none⟩))]) := by
  have hsz : ((wr.alloc (nodeObj (bs k) k L D pv)).alloc o).heap.size = wr.heap.size + 2 := by simp
  intro i hi
  simp only [List.length_append, List.length_singleton] at hi
  by_cases h : i < xs.length
  · obtain ⟨z, h1, h2, h3⟩ := hn i h
    refine ⟨z, by rw [List.getElem?_append_left h]; exact h1, h2, ?_⟩
    have hz := lt_of_block h3
    have hne : some z ≠ v.ownBlock := by
      intro e
      rcases hown.2 with ⟨q1, _⟩ | ⟨g, cap', cur, q1, _, q3, _⟩
      · rw [q1] at e; simp [Value.ownBlock] at e
      · rw [q1] at e; simp [Value.ownBlock] at e; subst e; rw [h3] at q3; simp at q3
    rw [hgrow.block z (by omega) hne, Below.heap_alloc _ _ _ (by simp; omega), Below.heap_alloc _ _ _ hz]
    exact h3
  · have hik : i = k := by omega
    subst hik
    refine ⟨wr.heap.size, by rw [List.getElem?_append_right (by omega)]; simp [hk], hB, ?_⟩
    have hne : some wr.heap.size ≠ v.ownBlock := fun e => by have := (hown.lt _ e.symm).2; omega
    rw [hgrow.block wr.heap.size (by omega) hne, Below.heap_alloc _ _ _ (by simp)]
    exact heap_alloc_new wr _

set_option maxRecDepth 100000 in
set_option maxHeartbeats 1600000 in
theorem build_any (a0 : Option Addr) (len cap : Nat) (bs : Nat → Bool) (pv : Option Addr) (L D : Nat) (w : World) (hlen : len ≤ 1024)
    (hc : 0 < len → ∃ b off, a0 = some ⟨b, off, none⟩ ∧ b < w.heap.size ∧ ∀ j, j < len → w.cell? ⟨b, off + j, none⟩ = some (.bool (bs j))) :
    Calls Yba.prog 6 #[.slice a0 len cap, .pointer pv, .pointer (some ⟨L, 0, none⟩), .pointer (some ⟨D, 0, none⟩)] w fun e w' =>
      ∃ g xs, e = .returned (.slice (some ⟨g, 0, none⟩) len len) ∧ xs.length = len ∧ w'.ownsRow w.heap.size 35 1 (.slice (some ⟨g, 0, none⟩) len len) len xs ∧ Nodes w.heap.size bs L D pv w' xs ∧ Below w.heap.size w w' := by
  obtain ⟨i0, hi, hz0, hz1, hz2⟩ := info_parts Yba.info35
  go_enter Yba.func6, Yba.ntmps6
  go_wp2_with (at_make; refine wpList_make_own _ rfl _ _ 27 rfl w.heap.size 35 i0 .nilIface 1 Yba.underlying27 hi hz0 hz1 .i64 .i64 _ len rfl rfl rfl (by rw [hz2]; omega) (by unfold maxLen; omega) (Nat.le_refl _) ?_; intro w1 hown1 hgrow1)
  go_loopw [9, 10] (fun v i wr => ∃ (k : Nat) (xs : List Value), k ≤ len ∧ i = .int .i64 k ∧ v = .slice (some ⟨w.heap.size, 0, none⟩) k len ∧ xs.length = k ∧
      wr.ownsRow w.heap.size 35 1 (.slice (some ⟨w.heap.size, 0, none⟩) k len) k xs ∧ Nodes w.heap.size bs L D pv wr xs ∧ Below w.heap.size w wr) (fun _ i _ => len - (intOf i).toNat)
  case atStart => exact ⟨0, [], Nat.zero_le _, rfl, rfl, rfl, hown1, fun i hi => by simp at hi, (Below.refl _ _).grown hgrow1 (Nat.le_refl _) (fun k hk => by cases hk)⟩
  case round =>
    obtain ⟨k, xs, hk, rfl, rfl, hxs, hown, hnodes, hbel⟩ := hrel
    clear hown1 hgrow1
    by_cases hlt : k < len
    · obtain ⟨b, off, rfl, hb, hcell⟩ := hc (by omega)
      have hcx : wr.cell? ⟨b, off + k, none⟩ = some (.bool (bs k)) := (hbel.cell (p := ⟨b, off + k, none⟩) hb).trans (hcell k hlt)
      have hsz := hbel.size
      have HC : Hid _ := hc
      have HX : Hid (xs.length = k) := hxs
      clear hc hcell hxs
      go_wp2_with (at_builtin; refine wpList_append_fits _ rfl _ _ 27 rfl w.heap.size 35 i0 1 Yba.underlying27 hi hz1 w.heap.size k len xs rfl ((hown.alloc _).alloc _) ⟨wr.heap.size + 1, 0, none⟩ 1 1 [.iface 59 (.pointer (some ⟨wr.heap.size, 0, none⟩))] rfl rfl ?c1 ?c2 (by omega) ?_)
      case c1 => exact World.news_of_block (cs := #[.iface 59 (.pointer (some ⟨wr.heap.size, 0, none⟩))]) (t := 35) (fr := (0, 0)) (by rw [show wr.heap.size + 1 = (wr.alloc (nodeObj (bs k) k L D pv)).heap.size by simp]; exact heap_alloc_new _ _)
      case c2 => simp [Value.oneCell']
      intro w2 hown2 hgrow2
      have hn2 := nodes_step HX.out (by omega) hown hnodes hgrow2
      have hb2 : Below w.heap.size w w2 := ((hbel.alloc hsz _).alloc (by simp; omega) _).grown hgrow2 (by simp; omega) (fun j hj => by cases hj; omega)
      clear hgrow2 hown hnodes hcx
      go_wp2
      go_roundw
      case rel => exact ⟨k + 1, _, by omega, by go_num, rfl, by have := HX.out; simp; exact this, hown2, hn2, hb2⟩
      case measure => simp [intOf]; omega
    · have hkl : k = len := by omega
      subst hkl
      clear hc
      have HX : Hid (xs.length = k) := hxs
      clear hxs
      go_wp2
      go_ret
      exact ⟨_, xs, rfl, HX.out, hown, hnodes, hbel⟩
end Go.Proofs.Ybulkcjha
