/-
  AVPs in plain words; slices of bytes.
-/
import Derived.Test.YbulkcjpcDoorBuf
import Derived.Laws.CopyOwn
import Derived.Deep.LoopGhost
import Derived.Deep.RegionWith
import Derived.Deep.CutRange
namespace Go.Proofs.YbulkcjpcDoor
open Go.RowKit
set_option maxRecDepth 100000

/-- The byte at place j, 0 behind the end. -/
def at' (bs : List UInt8) (j : Nat) : Int := ((bs.getD j 0).toNat : Int)
theorem at_bd (bs : List UInt8) (j : Nat) : 0 ≤ at' bs j ∧ at' bs j < 256 := by
  have := (bs.getD j 0).toNat_lt
  unfold at'; omega

/-- A slice of bytes that reads bs. -/
structure Bytes (w : World) (p : Option Addr) (n k : Nat) (bs : List UInt8) : Prop where
  len : bs.length = n
  cap : n ≤ k
  big : k ≤ 9223372036854775807
  lies : (p = none ∧ k = 0) ∨ ∃ g o, p = some ⟨g, o, none⟩ ∧ ∀ j, j < n → w.cell? ⟨g, o + j, none⟩ = some (.int .u8 (at' bs j))

theorem Bytes.below {w w' : World} {p : Option Addr} {n k : Nat} {bs : List UInt8} (h : Bytes w p n k bs) (hb : Below w.heap.size w w') : Bytes w' p n k bs := by
  refine ⟨h.len, h.cap, h.big, ?_⟩
  rcases h.lies with hn | ⟨g, o, rfl, hc⟩
  · exact .inl hn
  · exact .inr ⟨g, o, rfl, fun j hj => (hb.cell (World.block_lt_of_cell? w _ (hc j hj))).trans (hc j hj)⟩

/-- An AVP in plain words. -/
structure It where
  c : Int
  f : Int
  v : Int
  d : List UInt8

def code (bs : List UInt8) : Int := at' bs 0 * 16777216 + at' bs 1 * 65536 + at' bs 2 * 256 + at' bs 3
def vend (bs : List UInt8) : Int := at' bs 8 * 16777216 + at' bs 9 * 65536 + at' bs 10 * 256 + at' bs 11
def lenOf (bs : List UInt8) : Nat := (bs.getD 5 0).toNat * 65536 + (bs.getD 6 0).toNat * 256 + (bs.getD 7 0).toNat
def vb (f : Int) : Bool := bits .and .u8 f 128 != 0
def hdr (bs : List UInt8) : Nat := if vb (at' bs 4) then 12 else 8
def itOf (bs : List UInt8) : It := ⟨code bs, at' bs 4, if vb (at' bs 4) then vend bs else 0, (bs.take (lenOf bs)).drop (hdr bs)⟩
def padded (n : Nat) : Nat := (n + 3) / 4 * 4

def dec (bs : List UInt8) : List It × Bool :=
  if _h : bs = [] then ([], true)
  else if _h2 : lenOf bs < hdr bs ∨ bs.length < lenOf bs then ([], false)
  else (itOf bs :: (dec (bs.drop (min (padded (lenOf bs)) bs.length))).1, (dec (bs.drop (min (padded (lenOf bs)) bs.length))).2)
termination_by bs.length
decreasing_by
  all_goals
    have h0 : 0 < bs.length := List.length_pos_iff.2 _h
    have : 8 ≤ hdr bs := by unfold hdr; split <;> omega
    simp only [List.length_drop, padded]
    omega

inductive All2 (R : Av → It → Prop) : List Av → List It → Prop
  | nil : All2 R [] []
  | cons {a i avs its} : R a i → All2 R avs its → All2 R (a :: avs) (i :: its)
theorem All2.snoc {R : Av → It → Prop} {avs : List Av} {its : List It} (h : All2 R avs its) {a : Av} {i : It} (hr : R a i) : All2 R (avs ++ [a]) (its ++ [i]) := by
  induction h with
  | nil => exact .cons hr .nil
  | cons h1 _ ih => exact .cons h1 ih

def Fits (w : World) (a : Av) (i : It) : Prop := a.c = i.c ∧ a.f = i.f ∧ a.v = i.v ∧ (0 ≤ a.c ∧ a.c < 4294967296) ∧ (0 ≤ a.f ∧ a.f < 256) ∧ (0 ≤ a.v ∧ a.v < 4294967296) ∧ Bytes w a.p a.n a.k i.d

/-- What decodeAVPs hands back beside the AVPs. -/
def ErrIs (w : World) (er : Value) (ok : Bool) : Prop :=
  (ok = true ∧ er = .nilIface) ∨
  (ok = false ∧ ∃ eb sb c f v, er = .iface 78 (.pointer (some ⟨eb, 0, none⟩)) ∧ w.heap[eb]? = some (.cells #[.int .u32 5014, .int .u32 0, .slice (some ⟨sb, 0, none⟩) 1 1] 81 (0, 0)) ∧
    w.heap[sb]? = some (.cells #[.int .u32 c, .int .u8 f, .int .u32 v, .slice none 0 0] 32 (0, 0)) ∧ (0 ≤ c ∧ c < 4294967296) ∧ (0 ≤ f ∧ f < 256) ∧ (0 ≤ v ∧ v < 4294967296))

/-- The header's twelve cells. -/
def hdL (rs : List UInt8) : List Value := (List.range 12).map fun j => .int .u8 (at' rs j)
def cpL (rs : List UInt8) : List Value := (List.range (min rs.length 12)).map fun j => .int .u8 (at' rs j)
theorem cpL_len (rs : List UInt8) : (cpL rs).length = min rs.length 12 := by simp [cpL]
theorem cpL_get (rs : List UInt8) (j : Nat) (u : Value) (h : (cpL rs)[j]? = some u) : j < rs.length ∧ u = .int .u8 (at' rs j) := by
  simp only [cpL, List.getElem?_map, Option.map_eq_some_iff] at h
  obtain ⟨x, hx, rfl⟩ := h
  have hj : j < min rs.length 12 := by
    rcases Nat.lt_or_ge j (min rs.length 12) with h | h
    · exact h
    · rw [List.getElem?_eq_none (by simpa using h)] at hx; cases hx
  rw [List.getElem?_range hj] at hx
  simp only [Option.some.injEq] at hx
  subst hx
  exact ⟨by omega, rfl⟩
theorem hd_splice (rs : List UInt8) : splice (List.replicate 12 (.int .u8 0)) 0 (cpL rs) = hdL rs := by
  have hl := cpL_len rs
  apply List.ext_getElem?
  intro j
  rcases Nat.lt_or_ge j 12 with h | h
  · rw [show (hdL rs)[j]? = some (.int .u8 (at' rs j)) by simp [hdL, h]]
    simp only [splice, List.take_zero, List.nil_append]
    rcases Nat.lt_or_ge j (min rs.length 12) with h2 | h2
    · rw [List.getElem?_append_left (by omega)]
      simp [cpL, h2]
    · rw [List.getElem?_append_right (by omega), List.getElem?_drop, List.getElem?_replicate]
      rw [if_pos (by omega)]
      have : at' rs j = 0 := by simp [at', List.getD, List.getElem?_eq_none (show rs.length ≤ j by omega)]
      rw [this]
  · rw [List.getElem?_eq_none (by simp [splice, hl]; omega), List.getElem?_eq_none (by simp [hdL]; omega)]

theorem hd_cell {w : World} {s : Nat} {rs : List UInt8} (h : w.heap[s]? = some (.cells (hdL rs).toArray 103 (0, 0))) (j : Nat) (hj : j < 12) : w.cell? ⟨s, j, none⟩ = some (.int .u8 (at' rs j)) := by
  rw [cell_of_row _ _ _ _ _ _ h]
  simp [hdL, hj]

def zav : Obj := .cells #[.int .u32 0, .int .u8 0, .int .u32 0, .slice none 0 0] 32
theorem new_kept {w2 w3 : World} {s : Nat} {u : Value} (hs : s < w2.heap.size) (h4 : w2.cell? ⟨s, 4, none⟩ = some u)
    (h : Below (w2.alloc (.cells #[.int .u32 0, .int .u8 0, .int .u32 0, .slice none 0 0] 32)).drew.heap.size (w2.alloc (.cells #[.int .u32 0, .int .u8 0, .int .u32 0, .slice none 0 0] 32)).drew w3) :
    Below w2.heap.size w2 w3 ∧ w3.heap[w2.heap.size]? = some (.cells #[.int .u32 0, .int .u8 0, .int .u32 0, .slice none 0 0] 32 (0, 0)) ∧ w3.cell? ⟨s, 4, none⟩ = some u ∧
    w3.cell? ⟨w2.heap.size, 0, none⟩ = some (.int .u32 0) ∧ w3.cell? ⟨w2.heap.size, 1, none⟩ = some (.int .u8 0) ∧ w3.cell? ⟨w2.heap.size, 2, none⟩ = some (.int .u32 0) ∧ w3.cell? ⟨w2.heap.size, 3, none⟩ = some (.slice none 0 0) ∧
    w3.frozen? ⟨w2.heap.size, 0, none⟩ = false ∧ w3.frozen? ⟨w2.heap.size, 1, none⟩ = false ∧ w3.frozen? ⟨w2.heap.size, 2, none⟩ = false ∧ w3.frozen? ⟨w2.heap.size, 3, none⟩ = false := by
  have hb : Below w2.heap.size w2 w3 := ((Below.refl _ w2).alloc (Nat.le_refl _) _).trans (Below.mono (B := (w2.alloc (.cells #[.int .u32 0, .int .u8 0, .int .u32 0, .slice none 0 0] 32)).heap.size) ⟨h.os, h.tape, h.output, h.size, h.block⟩ (by simp))
  have hn : w3.heap[w2.heap.size]? = some (.cells #[.int .u32 0, .int .u8 0, .int .u32 0, .slice none 0 0] 32 (0, 0)) := (h.block _ (by simp [World.drew])).trans (heap_alloc_new w2 _)
  refine ⟨hb, hn, (hb.cell hs).trans h4, ?_, ?_, ?_, ?_, frozen_of_row _ _ _ _ _ hn, frozen_of_row _ _ _ _ _ hn, frozen_of_row _ _ _ _ _ hn, frozen_of_row _ _ _ _ _ hn⟩ <;>
  · rw [cell_of_row _ _ _ _ _ _ hn]; rfl

theorem set4 {w : World} {a : Nat} {t : TypeId} {u0 u1 u2 u3 x0 x1 x2 x3 : Value} (h : w.heap[a]? = some (.cells #[u0, u1, u2, u3] t (0, 0))) :
    ((((w.setCell ⟨a, 0, none⟩ x0).setCell ⟨a, 1, none⟩ x1).setCell ⟨a, 2, none⟩ x2).setCell ⟨a, 3, none⟩ x3).heap[a]? = some (.cells #[x0, x1, x2, x3] t (0, 0)) := by
  have h1 := heap_setCell_same w a 0 _ _ x0 h
  have h2 := heap_setCell_same _ a 1 _ _ x1 h1
  have h3 := heap_setCell_same _ a 2 _ _ x2 h2
  have h4 := heap_setCell_same _ a 3 _ _ x3 h3
  simpa using h4
theorem below_set4 {w w' : World} {x0 x1 x2 x3 : Value} (h : Below w.heap.size w w') :
    Below w.heap.size w ((((w'.setCell ⟨w.heap.size, 0, none⟩ x0).setCell ⟨w.heap.size, 1, none⟩ x1).setCell ⟨w.heap.size, 2, none⟩ x2).setCell ⟨w.heap.size, 3, none⟩ x3) :=
  (((h.setCell (Nat.le_refl _) _).setCell (Nat.le_refl _) _).setCell (Nat.le_refl _) _).setCell (Nat.le_refl _) _
theorem lenOf_eq (rs : List UInt8) : ((lenOf rs : Nat) : Int) = at' rs 5 * 65536 + at' rs 6 * 256 + at' rs 7 := by simp [lenOf, at']
theorem lenOf_lt (rs : List UInt8) : lenOf rs < 16777216 := by
  have h1 := (rs.getD 5 0).toNat_lt
  have h2 := (rs.getD 6 0).toNat_lt
  have h3 := (rs.getD 7 0).toNat_lt
  unfold lenOf; omega

theorem heap_new2 (w : World) (o1 o2 : Obj) : ((w.alloc o1).alloc o2).heap[w.heap.size + 1]? = some o2 := by simpa using heap_alloc_new (w.alloc o1) o2
theorem at_drop (rs : List UInt8) (m j : Nat) : at' (rs.drop m) j = at' rs (m + j) := by simp [at', List.getD]
theorem at_take (rs : List UInt8) (m j : Nat) (h : j < m) : at' (rs.take m) j = at' rs j := by simp [at', List.getD, h]
theorem at_cut (rs : List UInt8) (a b j : Nat) (h : a + j < b) : at' ((rs.take b).drop a) j = at' rs (a + j) := by rw [at_drop, at_take _ _ _ h]
theorem flat_snoc (avs : List Av) (a : Av) : avs.flatMap Av.cells ++ a.cells = (avs ++ [a]).flatMap Av.cells := by simp

theorem code_bd (rs : List UInt8) : 0 ≤ code rs ∧ code rs < 4294967296 := by
  have h0 := at_bd rs 0; have h1 := at_bd rs 1; have h2 := at_bd rs 2; have h3 := at_bd rs 3
  unfold code; omega
theorem v_bd (rs : List UInt8) : 0 ≤ (itOf rs).v ∧ (itOf rs).v < 4294967296 := by
  have h0 := at_bd rs 8; have h1 := at_bd rs 9; have h2 := at_bd rs 10; have h3 := at_bd rs 11
  simp only [itOf, vend]; split <;> omega

end Go.Proofs.YbulkcjpcDoor
