/-
  The table, and answerText.
-/
import Derived.Test.YbulkcjkuRows
import Derived.WalkKit
import Derived.WalkSpells
import Derived.WalkLawsBesides
import Derived.Deep.MidRow
import Derived.Lib.EndianMore
namespace Go.Proofs.Ybulkcjku
open Go.RowKit

def code (i : Nat) : Int := ([200, 400, 404, 405, 413, 431, 501, 503, 505] : List Int).getD i 0
def reas (i : Nat) : ByteArray := ([⟨#[79, 75]⟩, ⟨#[66, 97, 100, 32, 82, 101, 113, 117, 101, 115, 116]⟩, ⟨#[78, 111, 116, 32, 70, 111, 117, 110, 100]⟩, ⟨#[77, 101, 116, 104, 111, 100, 32, 78, 111, 116, 32, 65, 108, 108, 111, 119, 101, 100]⟩, ⟨#[67, 111, 110, 116, 101, 110, 116, 32, 84, 111, 111, 32, 76, 97, 114, 103, 101]⟩, ⟨#[82, 101, 113, 117, 101, 115, 116, 32, 72, 101, 97, 100, 101, 114, 32, 70, 105, 101, 108, 100, 115, 32, 84, 111, 111, 32, 76, 97, 114, 103, 101]⟩, ⟨#[78, 111, 116, 32, 73, 109, 112, 108, 101, 109, 101, 110, 116, 101, 100]⟩, ⟨#[83, 101, 114, 118, 105, 99, 101, 32, 85, 110, 97, 118, 97, 105, 108, 97, 98, 108, 101]⟩, ⟨#[72, 84, 84, 80, 32, 86, 101, 114, 115, 105, 111, 110, 32, 78, 111, 116, 32, 83, 117, 112, 112, 111, 114, 116, 101, 100]⟩] : List ByteArray).getD i ⟨#[]⟩
def body (i : Nat) : ByteArray := ([⟨#[111, 107, 10]⟩, ⟨#[98, 97, 100, 32, 114, 101, 113, 117, 101, 115, 116, 10]⟩, ⟨#[52, 48, 52, 32, 112, 97, 103, 101, 32, 110, 111, 116, 32, 102, 111, 117, 110, 100, 10]⟩, ⟨#[109, 101, 116, 104, 111, 100, 32, 110, 111, 116, 32, 97, 108, 108, 111, 119, 101, 100, 10]⟩, ⟨#[99, 111, 110, 116, 101, 110, 116, 32, 116, 111, 111, 32, 108, 97, 114, 103, 101, 10]⟩, ⟨#[114, 101, 113, 117, 101, 115, 116, 32, 104, 101, 97, 100, 101, 114, 32, 102, 105, 101, 108, 100, 115, 32, 116, 111, 111, 32, 108, 97, 114, 103, 101, 10]⟩, ⟨#[110, 111, 116, 32, 105, 109, 112, 108, 101, 109, 101, 110, 116, 101, 100, 10]⟩, ⟨#[117, 110, 97, 118, 97, 105, 108, 97, 98, 108, 101, 10]⟩, ⟨#[72, 84, 84, 80, 32, 118, 101, 114, 115, 105, 111, 110, 32, 110, 111, 116, 32, 115, 117, 112, 112, 111, 114, 116, 101, 100, 10]⟩] : List ByteArray).getD i ⟨#[]⟩
/-- The table's 27 cells. -/
def tabA : Array Value := #[.int .i64 200, .string ⟨#[79, 75]⟩, .string ⟨#[111, 107, 10]⟩, .int .i64 400, .string ⟨#[66, 97, 100, 32, 82, 101, 113, 117, 101, 115, 116]⟩, .string ⟨#[98, 97, 100, 32, 114, 101, 113, 117, 101, 115, 116, 10]⟩, .int .i64 404, .string ⟨#[78, 111, 116, 32, 70, 111, 117, 110, 100]⟩, .string ⟨#[52, 48, 52, 32, 112, 97, 103, 101, 32, 110, 111, 116, 32, 102, 111, 117, 110, 100, 10]⟩, .int .i64 405, .string ⟨#[77, 101, 116, 104, 111, 100, 32, 78, 111, 116, 32, 65, 108, 108, 111, 119, 101, 100]⟩, .string ⟨#[109, 101, 116, 104, 111, 100, 32, 110, 111, 116, 32, 97, 108, 108, 111, 119, 101, 100, 10]⟩, .int .i64 413, .string ⟨#[67, 111, 110, 116, 101, 110, 116, 32, 84, 111, 111, 32, 76, 97, 114, 103, 101]⟩, .string ⟨#[99, 111, 110, 116, 101, 110, 116, 32, 116, 111, 111, 32, 108, 97, 114, 103, 101, 10]⟩, .int .i64 431, .string ⟨#[82, 101, 113, 117, 101, 115, 116, 32, 72, 101, 97, 100, 101, 114, 32, 70, 105, 101, 108, 100, 115, 32, 84, 111, 111, 32, 76, 97, 114, 103, 101]⟩, .string ⟨#[114, 101, 113, 117, 101, 115, 116, 32, 104, 101, 97, 100, 101, 114, 32, 102, 105, 101, 108, 100, 115, 32, 116, 111, 111, 32, 108, 97, 114, 103, 101, 10]⟩, .int .i64 501, .string ⟨#[78, 111, 116, 32, 73, 109, 112, 108, 101, 109, 101, 110, 116, 101, 100]⟩, .string ⟨#[110, 111, 116, 32, 105, 109, 112, 108, 101, 109, 101, 110, 116, 101, 100, 10]⟩, .int .i64 503, .string ⟨#[83, 101, 114, 118, 105, 99, 101, 32, 85, 110, 97, 118, 97, 105, 108, 97, 98, 108, 101]⟩, .string ⟨#[117, 110, 97, 118, 97, 105, 108, 97, 98, 108, 101, 10]⟩, .int .i64 505, .string ⟨#[72, 84, 84, 80, 32, 86, 101, 114, 115, 105, 111, 110, 32, 78, 111, 116, 32, 83, 117, 112, 112, 111, 114, 116, 101, 100]⟩, .string ⟨#[72, 84, 84, 80, 32, 118, 101, 114, 115, 105, 111, 110, 32, 110, 111, 116, 32, 115, 117, 112, 112, 111, 114, 116, 101, 100, 10]⟩]

theorem tab_size : tabA.size = 27 := rfl
theorem tab_code (i : Nat) (h : i < 9) : tabA.toList[i * 3]? = some (.int .i64 (code i)) := by
  match i, h with
  | 0, _ => rfl | 1, _ => rfl | 2, _ => rfl | 3, _ => rfl | 4, _ => rfl | 5, _ => rfl | 6, _ => rfl | 7, _ => rfl | 8, _ => rfl
theorem tab_reas (i : Nat) (h : i < 9) : tabA.toList[i * 3 + 1]? = some (.string (reas i)) := by
  match i, h with
  | 0, _ => rfl | 1, _ => rfl | 2, _ => rfl | 3, _ => rfl | 4, _ => rfl | 5, _ => rfl | 6, _ => rfl | 7, _ => rfl | 8, _ => rfl
theorem tab_body (i : Nat) (h : i < 9) : tabA.toList[i * 3 + 2]? = some (.string (body i)) := by
  match i, h with
  | 0, _ => rfl | 1, _ => rfl | 2, _ => rfl | 3, _ => rfl | 4, _ => rfl | 5, _ => rfl | 6, _ => rfl | 7, _ => rfl | 8, _ => rfl

/-- What the first k rows of the table say of a status: the last row that fits. -/
def rTo (st : Int) : Nat → ByteArray
  | 0 => ⟨#[]⟩
  | k + 1 => if code k = st then reas k else rTo st k
def bTo (st : Int) : Nat → ByteArray
  | 0 => ⟨#[]⟩
  | k + 1 => if code k = st then body k else bTo st k

theorem there_new (w : World) (Z : Array Value) (t : TypeId) (n : Nat) (h : n ≤ Z.size) : (w.alloc (.cells Z t)).there w.heap.size 0 n := fun j hj => by
  have hb := heap_alloc_new w (.cells Z t)
  rw [cell_of_row _ _ _ _ _ _ hb, frozen_of_row _ _ _ _ _ hb]
  exact ⟨by rw [Array.getElem?_eq_getElem (by omega)]; rfl, rfl⟩

theorem results_cell_mid {P : Program} {fn : Func} {p : Tmp} {ty : TypeId} (h : fn.results = #[.cell p ty]) (tmps : Array Value) (w : World) (g : Nat) (cs : List Value) (d : TypeDesc)
    (hp : tmps.getD p undef = .pointer (some ⟨g, 0, none⟩)) (hg : w.rangeAt g 0 cs) (hu : P.underlying ty = some d) (hd : d.isRow = true) (hi : (P.info? ty).map (·.size) = some cs.length) :
    (results fn tmps).run P w = .ok (.agg cs.toArray) w := by
  have hp' : tmps[p]?.getD undef = .pointer (some ⟨g, 0, none⟩) := by simpa using hp
  simp [results, h, hp', asAddr, run_loadVar_mid w g 0 ty cs d hg hu hd hi]

theorem tab_one : tabA.all (·.oneCell') = true := by decide +kernel
theorem Yba.info24 : (Yba.prog.info? 24).map (·.size) = some tabA.size := by kernel_rfl

set_option maxRecDepth 100000 in
set_option maxHeartbeats 400000 in
theorem table_any (w : World) : Calls Yba.prog 5 #[] w fun e w' => e = .returned (.agg tabA) ∧ Below w.heap.size w w' := by
  go_enter Yba.func5, Yba.ntmps5
  go_wp2_with (refine wpList_store_mid rfl 24 _ _ rfl w.heap.size 0 _ rfl rfl ?h1 ?h2 ?h3 ?_)
  case h1 => exact there_new w _ _ _ (by decide)
  case h2 => kernel_rfl
  case h3 => decide +kernel
  refine bodyPost_ret (results_cell_mid Yba.results5 _ _ w.heap.size _ _ rfl (World.rangeAt_setCells_same _ _ _ _ (there_new w _ _ _ (by decide))) Yba.underlying24 rfl (by kernel_rfl)) rfl ⟨?_, ?_⟩
  · kernel_rfl
  · exact (Below.refl _ _).alloc (Nat.le_refl _) _ |>.trans (Lib.below_setCells_w (Nat.le_refl _) _ _ _)
end Go.Proofs.Ybulkcjku
