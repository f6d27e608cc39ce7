/-
  A buffer of bytes that the call owns: AppendUint32, put24.
-/
import Derived.Test.YbulkcjpcDoorBase
import Derived.Deep.AppendLies
namespace Go.Proofs.YbulkcjpcDoor
open Go.RowKit
set_option maxRecDepth 100000

/-! ## A buffer of bytes that the call owns -/

/-- Below B nothing turns; from B on only blocks of bytes do. -/
structure Fr (B : Nat) (w w' : World) : Prop where
  below : Below B w w'
  rest : ∀ (k : Nat) (cs : Array Value) (t : TypeId) (m : Nat × Nat), t ≠ 5 → w.heap[k]? = some (Obj.cells cs t m) → w'.heap[k]? = some (Obj.cells cs t m)
theorem Fr.refl (B : Nat) (w : World) : Fr B w w := ⟨Below.refl _ _, fun _ _ _ _ _ h => h⟩
theorem Fr.trans {B : Nat} {a b c : World} (h : Fr B a b) (k : Fr B b c) : Fr B a c := ⟨h.below.trans k.below, fun i cs t m ht hi => k.rest i cs t m ht (h.rest i cs t m ht hi)⟩
theorem Fr.of_below {B : Nat} {w w' : World} (h : Below w.heap.size w w') (hB : B ≤ w.heap.size) : Fr B w w' := ⟨h.mono hB, fun k _ _ _ _ hk => (h.block k (lt_of_block hk)).trans hk⟩
theorem Fr.alloc {B : Nat} {w w' : World} (h : Fr B w w') (hB : B ≤ w'.heap.size) (o : Obj) : Fr B w (w'.alloc o) :=
  h.trans (Fr.of_below ((Below.refl _ _).alloc (Nat.le_refl _) _) hB)
theorem Fr.drewN {B : Nat} {w w' : World} (h : Fr B w w') (n : Nat) : Fr B w (w'.drewN n) := ⟨below_drewN h.below n, h.rest⟩
theorem Fr.grown {B : Nat} {w w' : World} {size n : Nat} {sv : Value} {xs : List Value} (hown : w.ownsRow B 5 size sv n xs) (hg : w.grownBy w' sv.ownBlock) (hB : B ≤ w.heap.size) : Fr B w w' := by
  refine ⟨(Below.refl B w).grown hg hB (fun k hk => (hown.lt k hk).1), fun k cs t m ht hk => ?_⟩
  refine (hg.block k (lt_of_block hk) (fun e => ?_)).trans hk
  rcases hown.2 with ⟨rfl, _⟩ | ⟨g, cap, cur, rfl, _, hgg, _⟩
  · simp [Value.ownBlock] at e
  · simp [Value.ownBlock] at e
    subst e
    rw [hgg] at hk
    simp at hk
    exact ht hk.2.1.symm

theorem Ybad.info5 : (Ybad.prog.info? 5).map (fun i => (i.zero, i.size, i.bytes)) = some (some (.int .u8 0), 1, 1) := by kernel_rfl
theorem Ybad.info32 : (Ybad.prog.info? 32).map (fun i => (i.zero, i.size, i.bytes)) = some (some (.agg #[.int .u32 0, .int .u8 0, .int .u32 0, .slice none 0 0]), 4, 40) := by kernel_rfl

def be4 (x : Int) : List Value := [.int .u8 (x / 16777216), .int .u8 (x / 65536 % 256), .int .u8 (x / 256 % 256), .int .u8 (x % 256)]

set_option maxHeartbeats 800000 in
theorem append32_any (B n : Nat) (x : Int) (hx0 : 0 ≤ x) (hx1 : x < 4294967296) (sv : Value) (xs : List Value) (w : World) (hown : w.ownsRow B 5 1 sv n xs) (hBw : B ≤ w.heap.size) (hlim : n ≤ 100000000000) :
    Calls Ybad.prog 20 #[.agg #[], sv, .int .u32 x] w fun e w' => ∃ v', e = .returned v' ∧ w'.ownsRow B 5 1 v' (n + 4) (xs ++ be4 x) ∧ Fr B w w' := by
  obtain ⟨i0, hi, hz0, hz1, hz2⟩ := info_parts Ybad.info5
  have HO : Hid (w.ownsRow B 5 1 sv n xs) := hown
  clear hown
  go_enter Ybad.func20, Ybad.ntmps20
  go_wp2_with (at_builtin; refine wpList_append_own _ rfl _ _ 27 rfl B 5 i0 (.int .u8 0) 1 1 Ybad.underlying27 hi hz0 hz1 hz2 rfl (by decide) _ _ _ rfl ((HO.out.alloc _).alloc _) ⟨w.heap.size + 1, 0, none⟩ 4 4 (be4 x) rfl rfl ?c1 ?c2 ?c3 ?c4 ?c5 ?_)
  case c1 => exact World.news_of_block (cs := (be4 x).toArray) (t := 5) (fr := (0, 0)) (by simpa [be4] using heap_alloc_new (w.alloc (.cells #[] 68)) _)
  case c2 => simp [be4, Value.oneCell']
  case c3 => unfold maxLen; omega
  case c4 => omega
  case c5 => simp; omega
  intro v' w2 hown2 hgrow _
  have h1 : Fr B w w2 := (((Fr.refl B w).alloc hBw _).alloc (by simp; omega) _).trans (Fr.grown ((HO.out.alloc _).alloc _) hgrow (by simp; omega))
  go_wp2_with fail
  go_ret
  exact ⟨_, rfl, hown2, h1⟩

theorem put24_any (g o n k : Nat) (x : Int) (w : World) (u0 u1 u2 : Value) (hn : 3 ≤ n)
    (c0 : w.cell? ⟨g, o, none⟩ = some u0) (c1 : w.cell? ⟨g, o + 1, none⟩ = some u1) (c2 : w.cell? ⟨g, o + 2, none⟩ = some u2)
    (f0 : w.frozen? ⟨g, o, none⟩ = false) (f1 : w.frozen? ⟨g, o + 1, none⟩ = false) (f2 : w.frozen? ⟨g, o + 2, none⟩ = false) :
    Calls Ybad.prog 36 #[.slice (some ⟨g, o, none⟩) n k, .int .u32 x] w fun e w' => e = .returned (.tuple #[]) ∧
      w' = ((w.setCell ⟨g, o, none⟩ (.int .u8 (x / 65536 % 256))).setCell ⟨g, o + 1, none⟩ (.int .u8 (x / 256 % 256))).setCell ⟨g, o + 2, none⟩ (.int .u8 (x % 256)) := by
  have l0 : 0 < n := by omega
  have l1 : (1 : Int) < (n : Int) := by omega
  have l2 : (2 : Int) < (n : Int) := by omega
  go_enter Ybad.func36, Ybad.ntmps36
  go_wp2_with fail
  go_end0
  exact ⟨rfl, rfl⟩

end Go.Proofs.YbulkcjpcDoor
