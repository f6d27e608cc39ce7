/-
  AVPs in memory; the small functions: pad, Is, some, size, MissingAVP, code.
-/
import Derived.Test.YbulkcjpcDoorRows
import Derived.WalkKit
import Derived.WalkSpells
import Derived.WalkLawsBesides
import Derived.Deep.QuietTactic
import Derived.BigQuiet
import Derived.Lib.EndianBits
import Derived.Laws.BitsLemmas
import Derived.Lib.QuoteBits
namespace Go.Proofs.YbulkcjpcDoor
open Go.RowKit

/-- An AVP's value: Code, Flags, Vendor, Data. -/
structure Av where
  c : Int
  f : Int
  v : Int
  p : Option Addr
  n : Nat
  k : Nat
def Av.cells (a : Av) : List Value := [.int .u32 a.c, .int .u8 a.f, .int .u32 a.v, .slice a.p a.n a.k]
abbrev av (c f v : Int) (p : Option Addr) (n k : Nat) : Value := .agg #[.int .u32 c, .int .u8 f, .int .u32 v, .slice p n k]
abbrev Av.val (a : Av) : Value := av a.c a.f a.v a.p a.n a.k
abbrev df (c v : Int) (m : Bool) : Value := .agg #[.int .u32 c, .int .u32 v, .bool m]

set_option maxRecDepth 100000

theorem is_any (c f v : Int) (p : Option Addr) (n k : Nat) (dc dv : Int) (dm : Bool) (w : World) :
    Calls Ybad.prog 23 #[df dc dv dm, av c f v p n k] w fun e w' => e = .returned (.bool (decide (c = dc) && decide (v = dv))) ∧ Below w.heap.size w w' := by
  have hb : Below w.heap.size w ((w.alloc (.cells #[.int .u32 dc, .int .u32 dv, .bool dm] 26)).alloc (.cells #[.int .u32 c, .int .u8 f, .int .u32 v, .slice p n k] 32)) :=
    ((Below.refl _ w).alloc (Nat.le_refl _) _).alloc (by simp) _
  have HB : Hid _ := hb
  clear hb
  by_cases h1 : c = dc
  · go_enter Ybad.func23, Ybad.ntmps23
    go_wp2_with fail
    go_ret
    subst h1
    exact ⟨by simp [BEq.beq], HB.out⟩
  · go_enter Ybad.func23, Ybad.ntmps23
    go_wp2_with fail
    go_ret
    exact ⟨by simp [h1], HB.out⟩

theorem some_any (x : Int) (er : Value) (w : World) :
    Calls Ybad.prog 24 #[.int .u32 x, er] w fun e w' => e = .returned (.tuple #[.pointer (some ⟨w.heap.size, 0, none⟩), er]) ∧ w' = w.alloc (.cells #[.int .u32 x] 24) := by
  go_enter Ybad.func24, Ybad.ntmps24
  go_wp2_with fail
  go_ret2
  exact ⟨rfl, rfl⟩

theorem andNot_three (i : Nat) (h : i < 9223372036854775807) : bits .andNot .i64 (i : Int) 3 = ((i / 4 * 4 : Nat) : Int) := by
  show IntKind.i64.wrap ((BitVec.ofInt 64 (i : Int) &&& ~~~BitVec.ofInt 64 ((3 : Nat) : Int)).toNat : Int) = _
  rw [BitVec.toNat_and, BitVec.toNat_not, ofInt_u64 i (by omega), ofInt_u64 3 (by omega)]
  have e : 2 ^ 64 - 1 - 3 = 18446744073709551612 := by decide
  rw [e, nat_hi64_2, Nat.mod_eq_of_lt (by omega)]
  exact Lib.wrap_i64_small _ (by omega)

theorem pad_any (n : Nat) (h : n < 4294967296) (w : World) :
    Calls Ybad.prog 38 #[.int .i64 n] w fun e w' => e = .returned (.int .i64 ((n + 3) / 4 * 4 : Nat)) ∧ w' = w := by
  go_enter Ybad.func38, Ybad.ntmps38
  go_wp2_with fail
  go_ret
  have e : bits .andNot .i64 ((n : Int) + 3) 3 = ((n + 3) / 4 * 4 : Nat) := by
    have := andNot_three (n + 3) (by omega)
    rw [← this]; rfl
  exact ⟨by simp [e], rfl⟩

theorem size_any (c f v : Int) (p : Option Addr) (n k : Nat) (hn : n < 4294967296) (b : Bool) (hb : (bits .and .u8 f 128 != 0) = b) (w : World) :
    Calls Ybad.prog 37 #[av c f v p n k] w fun e w' => e = .returned (.int .i64 ((if b then 12 else 8) + n : Nat)) ∧ w' = w.alloc (.cells #[.int .u32 c, .int .u8 f, .int .u32 v, .slice p n k] 32) := by
  cases b <;>
  · go_enter Ybad.func37, Ybad.ntmps37
    go_wp2_with fail
    go_ret
    exact ⟨by simp <;> go_num, rfl⟩

theorem missing_any (c f v : Int) (p : Option Addr) (n k : Nat) (w : World) :
    Calls Ybad.prog 30 #[av c f v p n k] w fun e w' => (∃ eb s, e = .returned (.iface 78 (.pointer (some ⟨eb, 0, none⟩))) ∧ w'.heap[eb]? = some (.cells #[.int .u32 5005, .int .u32 0, s] 81 (0, 0))) ∧ Below w.heap.size w w' := by
  go_enter Ybad.func30, Ybad.ntmps30
  go_wp2_with fail
  go_ret
  exact ⟨⟨_, _, rfl, by simpa using heap_alloc_new ((w.alloc (.cells #[.int .u32 c, .int .u8 f, .int .u32 v, .slice p n k] 32)).alloc (.cells #[.int .u32 c, .int .u8 f, .int .u32 v, .slice p n k] 32)) _⟩, (((Below.refl _ w).alloc (Nat.le_refl _) _).alloc (by simp) _).alloc (by simp; omega) _⟩

@[local go_sem] theorem as_nil (w : World) : (Instr.typeAssert .nilIface 40 78 true).run Ybad.prog w = .ok (.tuple #[.pointer none, .bool false]) w := by kernel_rfl
@[local go_sem] theorem as_err (v : Value) (w : World) : (Instr.typeAssert (.iface 78 v) 40 78 true).run Ybad.prog w = .ok (.tuple #[v, .bool true]) w := by kernel_rfl

theorem code_nil (w : World) :
    Calls Ybad.prog 11 #[.nilIface] w fun e w' => e = .returned (.tuple #[.int .u32 0, .bool false]) ∧ w' = w := by
  go_enter Ybad.func11, Ybad.ntmps11
  go_wp2_with fail
  go_ret2
  exact ⟨rfl, rfl⟩

theorem code_err (eb : Nat) (c : Int) (x y : Value) (w : World) (h : w.heap[eb]? = some (.cells #[.int .u32 c, x, y] 81 (0, 0))) :
    Calls Ybad.prog 11 #[.iface 78 (.pointer (some ⟨eb, 0, none⟩))] w fun e w' => e = .returned (.tuple #[.int .u32 c, .bool true]) ∧ w' = w := by
  have c0 : w.cell? ⟨eb, 0, none⟩ = some (.int .u32 c) := by rw [cell_of_row _ _ _ _ _ _ h]; rfl
  go_enter Ybad.func11, Ybad.ntmps11
  go_wp2_with fail
  go_ret2
  exact ⟨rfl, rfl⟩


theorem u32_join16 (x y : Int) (hx₀ : 0 ≤ x) (hx : x % 65536 = 0) (hx₁ : x < 4294967296) (h₀ : 0 ≤ y) (h₁ : y < 65536) : bits .or .u32 x y = x + y :=
  bits_join .u32 32 (by decide) wraps_u32 16 x y hx₀ hx hx₁ h₀ h₁ (by omega)
theorem u32_join8 (x y : Int) (hx₀ : 0 ≤ x) (hx : x % 256 = 0) (hx₁ : x < 4294967296) (h₀ : 0 ≤ y) (h₁ : y < 256) : bits .or .u32 x y = x + y :=
  bits_join .u32 32 (by decide) wraps_u32 8 x y hx₀ hx hx₁ h₀ h₁ (by omega)
theorem cell_alloc {w : World} {a : Addr} {v : Value} (o : Obj) (h : w.cell? a = some v) : (w.alloc o).cell? a = some v :=
  (World.cell?_of_block (Below.heap_alloc w o _ (World.block_lt_of_cell? w _ h))).trans h
theorem below_drewN {B : Nat} {a b : World} (h : Below B a b) (n : Nat) : Below B a (b.drewN n) := ⟨h.os, h.tape, h.output, h.size, h.block⟩

theorem get24_any (g o n k : Nat) (b0 b1 b2 : Int) (w : World) (hn : 3 ≤ n) (c0 : w.cell? ⟨g, o, none⟩ = some (.int .u8 b0)) (c1 : w.cell? ⟨g, o + 1, none⟩ = some (.int .u8 b1)) (c2 : w.cell? ⟨g, o + 2, none⟩ = some (.int .u8 b2))
    (h0 : 0 ≤ b0 ∧ b0 < 256) (h1 : 0 ≤ b1 ∧ b1 < 256) (h2 : 0 ≤ b2 ∧ b2 < 256) :
    Calls Ybad.prog 43 #[.slice (some ⟨g, o, none⟩) n k] w fun e w' => e = .returned (.int .u32 (b0 * 65536 + b1 * 256 + b2)) ∧ Below w.heap.size w w' := by
  have l0 : 0 < n := by omega
  have l1 : (1 : Int) < (n : Int) := by omega
  have l2 : (2 : Int) < (n : Int) := by omega
  go_enter Ybad.func43, Ybad.ntmps43
  go_wp2_with fail
  go_quiet (fail)
  go_wp2_with fail
  go_ret
  refine ⟨?_, below_drewN (Below.refl _ _) _⟩
  simp (disch := omega) only [u32_join16, u32_join8]
  rfl

theorem uint32_any (g o n k : Nat) (b0 b1 b2 b3 : Int) (w : World) (hn : 4 ≤ n) (c0 : w.cell? ⟨g, o, none⟩ = some (.int .u8 b0)) (c1 : w.cell? ⟨g, o + 1, none⟩ = some (.int .u8 b1)) (c2 : w.cell? ⟨g, o + 2, none⟩ = some (.int .u8 b2)) (c3 : w.cell? ⟨g, o + 3, none⟩ = some (.int .u8 b3))
    (h0 : 0 ≤ b0 ∧ b0 < 256) (h1 : 0 ≤ b1 ∧ b1 < 256) (h2 : 0 ≤ b2 ∧ b2 < 256) (h3 : 0 ≤ b3 ∧ b3 < 256) :
    Calls Ybad.prog 42 #[.agg #[], .slice (some ⟨g, o, none⟩) n k] w fun e w' => e = .returned (.int .u32 (b0 * 16777216 + b1 * 65536 + b2 * 256 + b3)) ∧ Below w.heap.size w w' := by
  have l0 : 0 < n := by omega
  have l1 : (1 : Int) < (n : Int) := by omega
  have l2 : (2 : Int) < (n : Int) := by omega
  have l3 : (3 : Int) < (n : Int) := by omega
  have d0 := cell_alloc (.cells #[] 68) c0
  have d1 := cell_alloc (.cells #[] 68) c1
  have d2 := cell_alloc (.cells #[] 68) c2
  have d3 := cell_alloc (.cells #[] 68) c3
  go_enter Ybad.func42, Ybad.ntmps42
  go_wp2_with fail
  go_quiet (fail)
  go_wp2_with fail
  go_ret
  refine ⟨?_, below_drewN ((Below.refl _ w).alloc (Nat.le_refl _) _) _⟩
  simp (disch := omega) only [u32_or8, u32_or16, u32_or24]
  show Ending.returned (.int .u32 (b3 + b2 * 256 + b1 * 65536 + b0 * 16777216)) = _
  congr 2
  omega

end Go.Proofs.YbulkcjpcDoor
