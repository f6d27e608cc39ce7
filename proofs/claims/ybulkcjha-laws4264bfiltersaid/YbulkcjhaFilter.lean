/-
  LawS4264BFilter: the walk.
-/
import Derived.Test.YbulkcjhaFirst
namespace Go.Proofs.Ybulkcjha
open Go.RowKit

theorem method_any {n : String} {t : TypeId} (h : Yba.prog.underlying 34 = some (.interface #[(n, t)])) (a : Option Addr) (l c : Nat) (w : World) :
    (method 218 27 (.slice a l c) n).run Yba.prog w = .ok (7, .slice a l c) w := by
  rw [Yba.underlying34] at h
  cases h
  kernel_rfl

set_option maxHeartbeats 400000 in
theorem match_nil (fb : Nat) (pv : Option Addr) (w : World) (hc : w.cell? ⟨fb, 0, none⟩ = some .nilIface) :
    Calls Yba.prog 8 #[.pointer (some ⟨fb, 0, none⟩), .pointer pv] w fun e w' => e = .returned (.bool true) ∧ w' = w := by
  go_enter Yba.func8, Yba.ntmps8
  go_wp2_with fail
  go_ret
  exact ⟨rfl, rfl⟩

set_option maxRecDepth 100000 in
set_option maxHeartbeats 400000 in
theorem match_root (fb g len m B B' L D : Nat) (bs : Nat → Bool) (pv : Option Addr) (xs : List Value) (w : World) (hlen : len ≤ 1024) (hm : m ≤ len) (hfalse : ∀ j, j < m → bs j = false) (htrue : m < len → bs m = true)
    (hxs : xs.length = len) (hown : w.ownsRow B' 35 1 (.slice (some ⟨g, 0, none⟩) len len) len xs) (hn : Nodes B' bs L D pv w xs)
    (hL : w.heap[L]? = some (.cells #[.slice none 0 0] 25 (0, 0))) (hBL : B ≤ L) (hf : w.heap[fb]? = some (.cells #[.iface 27 (.slice (some ⟨g, 0, none⟩) len len)] 37 (0, 0))) :
    Calls Yba.prog 8 #[.pointer (some ⟨fb, 0, none⟩), .pointer pv] w fun e w' => e = .returned (.bool (decide (m < len))) ∧ KeptT L w w' ∧ Below B w w' := by
  have hmeth := method_any Yba.underlying34
  have hc := cell_of_one hf
  have HXS : Hid _ := hxs
  have HL : Hid _ := hL
  have HF : Hid _ := hfalse
  have HT : Hid _ := htrue
  clear hxs hL hfalse htrue hf
  go_enter Yba.func8, Yba.ntmps8
  go_wp2_with fail
  refine (anyMatch_any g len m B B' L D bs pv xs w hlen hm HF.out HT.out HXS.out hown hn HL.out hBL).mono ?_
  rintro e w3 ⟨ao, cap3, rfl, hL3, hown3, hkt, hb3⟩
  clear hL3 hown3 hown hn hc hmeth
  go_wp2_with fail
  go_ret
  exact ⟨rfl, hkt, hb3⟩

set_option maxHeartbeats 400000 in
theorem filter_long (a0 : Option Addr) (len cap : Nat) (w : World) (hlen : 1024 < len) :
    Calls Yba.prog 4 #[.slice a0 len cap] w fun e w' => e = .returned (.bool true) ∧ Below w.heap.size w w' := by
  go_enter Yba.func4, Yba.ntmps4
  go_wp2
  go_ret
  exact ⟨rfl, Below.refl _ _⟩

/-- Has one of the first k answered true? -/
def anyTo (bs : Nat → Bool) (k : Nat) : Bool := (List.range k).any bs
theorem anyTo_succ (bs : Nat → Bool) (k : Nat) : anyTo bs (k + 1) = (anyTo bs k || bs k) := by simp [anyTo, List.range_succ]
theorem anyTo_first (bs : Nat → Bool) (m len : Nat) (hm : m ≤ len) (hF : ∀ j, j < m → bs j = false) (hT : m < len → bs m = true) : anyTo bs len = decide (m < len) := by
  by_cases h : m < len
  · simp only [h, decide_true, anyTo, List.any_eq_true]
    exact ⟨m, List.mem_range.2 h, hT h⟩
  · have : m = len := by omega
    subst this
    simp only [Nat.lt_irrefl, decide_false, anyTo, List.any_eq_false]
    intro x hx
    simp [hF x (List.mem_range.1 hx)]

set_option maxRecDepth 100000 in
set_option maxHeartbeats 1600000 in
theorem filter_short (a0 : Option Addr) (len cap : Nat) (bs : Nat → Bool) (w : World) (hlen : len ≤ 1024) (hA0 : Ans w.heap.size a0 len bs w) :
    Calls Yba.prog 4 #[.slice a0 len cap] w fun e w' => e = .returned (.bool true) ∧ Below w.heap.size w w' := by
  obtain ⟨m, hm, hF0, hT0⟩ := first_true bs len
  have hA : Hid (Ans w.heap.size a0 len bs w) := hA0
  have hF : Hid _ := hF0
  have hT : Hid _ := hT0
  have hAny : Hid (anyTo bs len = decide (m < len)) := anyTo_first bs m len hm hF0 hT0
  clear hA0 hF0 hT0
  go_enter Yba.func4, Yba.ntmps4
  go_wp2_with fail
  refine (newProduct_any _ _ w).mono ?_
  rintro e w1 ⟨pb, rfl, hb0⟩
  go_wp2_with fail
  have hbX : Below w.heap.size w ((w1.alloc (.cells #[.slice none 0 0] 25)).alloc (.cells #[.bool false] 4)) := (hb0.alloc hb0.size _).alloc (Nat.le_trans hb0.size (by simp)) _
  have hs0 := hb0.size
  refine (build_any a0 len cap bs (some ⟨pb, 0, none⟩) w1.heap.size (w1.heap.size + 1) _ hlen (fun h => ?hans)).mono ?_
  case hans =>
    obtain ⟨b, off, h1, h2, h3⟩ := (hA.out.below hbX) h
    exact ⟨b, off, h1, Nat.lt_of_lt_of_le h2 hbX.size, h3⟩
  rintro e w2 ⟨g, xs, rfl, hxs, hown2, hn2, hb2⟩
  obtain ⟨t1, t2⟩ := two_blocks w1 (.cells #[.slice none 0 0] 25) (.cells #[.bool false] 4)
  have hL2 := (hb2.block w1.heap.size (by simp; omega)).trans t1
  have hD2 := (hb2.block (w1.heap.size + 1) (by simp)).trans t2
  have hbW : Below w.heap.size w w2 := hbX.trans (hb2.mono hbX.size)
  have HXS : Hid _ := hxs
  have HL2 : Hid _ := hL2
  have HD2 : Hid _ := hD2
  clear hb2 t1 t2 hxs hL2 hD2
  go_wp2_with fail
  have hsz2 : w1.heap.size < w2.heap.size := lt_of_block HL2.out
  have hn2' : Nodes ((w1.alloc (Obj.cells #[Value.slice none 0 0] 25)).alloc (Obj.cells #[Value.bool false] 4)).heap.size bs w1.heap.size (w1.heap.size + 1) (some ⟨pb, 0, none⟩)
      (w2.alloc (.cells #[.iface 27 (.slice (some ⟨g, 0, none⟩) len len)] 37)) xs := fun i hi => by
    obtain ⟨z, h1, h2, h3⟩ := hn2 i hi
    exact ⟨z, h1, h2, by rw [Below.heap_alloc _ _ _ (lt_of_block h3)]; exact h3⟩
  have hL2' : (w2.alloc (.cells #[.iface 27 (.slice (some ⟨g, 0, none⟩) len len)] 37)).heap[w1.heap.size]? = some (.cells #[.slice none 0 0] 25 (0, 0)) := by
    rw [Below.heap_alloc _ _ _ hsz2]; exact HL2.out
  have hD2' : (w2.alloc (.cells #[.iface 27 (.slice (some ⟨g, 0, none⟩) len len)] 37)).heap[w1.heap.size + 1]? = some (.cells #[.bool false] 4 (0, 0)) := by
    rw [Below.heap_alloc _ _ _ (lt_of_block HD2.out)]; exact HD2.out
  have hbV : Below w.heap.size w (w2.alloc (.cells #[.iface 27 (.slice (some ⟨g, 0, none⟩) len len)] 37)) := hbW.alloc (Nat.le_trans hs0 (Nat.le_of_lt hsz2)) _
  refine (match_root w2.heap.size g len m w.heap.size _ w1.heap.size (w1.heap.size + 1) bs (some ⟨pb, 0, none⟩) xs _ hlen hm hF.out hT.out HXS.out (hown2.alloc _) hn2' hL2' hs0 (heap_alloc_new _ _)).mono ?_
  rintro e w3 ⟨rfl, hkt, hb3⟩
  have cD : w3.cell? ⟨w1.heap.size + 1, 0, none⟩ = some (.bool false) := cell_of_one (hkt _ _ _ (by decide) (by omega) hD2')
  have hb4 : Below w.heap.size w w3 := hbV.trans hb3
  have hA3 : Hid (Ans w.heap.size a0 len bs w3) := hA.out.below hb4
  have hl3 : w1.heap.size + 1 < w3.heap.size := lt_of_block (hkt _ _ _ (by decide) (by omega) hD2')
  clear hbX hb0 hA HXS HL2 HD2 hown2 hn2 hkt hb3 hbW hs0 hn2' hL2' hD2' hbV hF hT
  rw [← hAny.out]
  go_wp2_with fail
  go_loop [9, 10] (fun wa i => ∃ k : Nat, k ≤ len ∧ i = .int .i64 k ∧ wa = .bool (anyTo bs k)) (fun _ i => len - (intOf i).toNat)
  case atStart => exact ⟨0, Nat.zero_le _, rfl, rfl⟩
  case round =>
    obtain ⟨k, hk, rfl, rfl⟩ := hrel
    by_cases hkl : k < len
    · obtain ⟨b, off, rfl, hbw, hc3⟩ := hA3.out (by omega)
      have hck := hc3 k hkl
      clear hc3
      cases hbk : bs k with
      | true =>
        rw [hbk] at hck
        have hs : Hid (anyTo bs (k + 1) = true) := by rw [Hid, anyTo_succ, hbk]; simp
        clear hbk
        go_wp2_with fail
        go_round
        case rel => exact ⟨k + 1, by omega, by go_num, by rw [hs.out]⟩
        case measure => simp [intOf]; omega
      | false =>
        rw [hbk] at hck
        have hs : Hid (anyTo bs (k + 1) = anyTo bs k) := by rw [Hid, anyTo_succ, hbk]; simp
        clear hbk
        go_wp2_with fail
        go_round
        case rel => exact ⟨k + 1, by omega, by go_num, by rw [hs.out]⟩
        case measure => simp [intOf]; omega
    · have hkl' : k = len := by omega
      subst hkl'
      generalize anyTo bs k = q at *
      have hq : (q != q) = false := by cases q <;> rfl
      go_wp2_with fail
      refine (match_nil w3.heap.size _ _ (by exact cell_of_one (heap_alloc_new _ _))).mono ?_
      rintro e w4 ⟨rfl, rfl⟩
      go_wp2_with fail
      go_ret
      exact ⟨rfl, hb4.alloc hb4.size _⟩

theorem filter_walk (a0 : Option Addr) (len cap : Nat) (bs : Nat → Bool) (w : World) (hA : Ans w.heap.size a0 len bs w) :
    Calls Yba.prog 4 #[.slice a0 len cap] w fun e w' => e = .returned (.bool true) ∧ Below w.heap.size w w' := by
  by_cases hlen : len ≤ 1024
  · exact filter_short a0 len cap bs w hlen hA
  · exact filter_long a0 len cap w (by omega)

end Go.Proofs.Ybulkcjha
