/-
  LawS4264CRoundTrip: the walk.
-/
import Derived.Test.YbulkcjhaDoorInt
import Derived.Test.YbulkcjhaDoorEnd

import Derived.Deep.AppendLies
namespace Go.Proofs.YbulkcjhaDoor
open Go.RowKit

theorem Ybad.info5 : (Ybad.prog.info? 5).map (fun i => (i.zero, i.size, i.bytes)) = some (some (.int .u8 0), 1, 1) := by kernel_rfl

/-- The cells of a list of bytes. -/
def cellsOf' (l : List UInt8) : List Value := l.map fun c => .int .u8 (c.toNat : Int)
theorem byteCells_eq (l : List UInt8) : Lib.byteCells l = cellsOf' l := rfl

theorem cells_snoc (l : List UInt8) (c : UInt8) : cellsOf' l ++ [.int .u8 (c.toNat : Int)] = cellsOf' (l ++ [c]) := by simp [cellsOf']

/-- The reader that the law makes over its buffer. -/
theorem reader_of {w : World} {B g cap n : Nat} {l : List UInt8} (hown : w.ownsRow B 5 1 (.slice (some ⟨g, 0, none⟩) n cap) n (cellsOf' l)) (hn : n = l.length) (hl : l.length ≤ 64) (h0 : 0 < n) :
    Rdr w.heap.size g cap l 0 (w.alloc (.cells #[.slice (some ⟨g, 0, none⟩) n cap, .int .i64 0, .bool false] 29)) ∧ n ≤ cap := by
  subst hn
  obtain ⟨_, hcase⟩ := hown
  have hown' : w.ownsRow B 5 1 (.slice (some ⟨g, 0, none⟩) l.length cap) l.length (cellsOf' l) := ⟨‹_›, hcase⟩
  rcases hcase with ⟨q1, _⟩ | ⟨g', cap', cur, q1, _, q3, q4, _⟩
  · simp at q1
  · simp only [Value.slice.injEq, Option.some.injEq, Addr.mk.injEq] at q1
    obtain ⟨⟨rfl, _⟩, _, rfl⟩ := q1
    have lg := lt_of_block q3
    refine ⟨⟨heap_alloc_new w _, fun j hj => ?_, by omega, hl, Nat.zero_le _⟩, by omega⟩
    rw [World.cell?_of_block (w := w) (a := ⟨g, j, none⟩) (Below.heap_alloc w _ g lg), hown'.cellAt j (by simp; omega)]
    simp [cellsOf', at', List.getD, hj]

set_option maxRecDepth 100000 in
set_option maxHeartbeats 1600000 in
theorem law_walk (v a1 a2 : Int) (h0 : -9223372036854775808 ≤ v) (h1 : v ≤ 9223372036854775807) (g10 : 0 ≤ a1) (g11 : a1 ≤ 255) (g20 : 0 ≤ a2) (g21 : a2 ≤ 255) (w : World)
    (htab : Lib.TabIs Ybad.prog w "internal/strconv.uint64pow10" .u64 Lib.pow10Tab) :
    Calls Ybad.prog 3 #[.int .i64 v, .int .u8 a1, .int .u8 a2] w fun e w' => e = .returned (.bool true) ∧ Below w.heap.size w w' := by
  obtain ⟨i0, hi, hz0, hz1, hz2⟩ := info_parts Ybad.info5
  have HT : Hid (Lib.TabBelow Ybad.prog w.heap.size w "internal/strconv.uint64pow10" .u64 Lib.pow10Tab) := Lib.tabBelow_of_tabIs htab
  clear htab
  obtain ⟨pre, hpre⟩ : ∃ pre : Nat, a1 % 4 = (pre : Int) := Int.eq_ofNat_of_zero_le (by omega)
  obtain ⟨post, hpost⟩ : ∃ post : Nat, a2 % 4 = (post : Int) := Int.eq_ofNat_of_zero_le (by omega)
  have hp4 : pre < 4 := by omega
  have hq4 : post < 4 := by omega
  have HP : Hid _ := hpre
  have HQ : Hid _ := hpost
  have HI : Hid _ := Lib.itoa_length_le v h0 h1
  clear hpre hpost
  go_enter Ybad.func3, Ybad.ntmps3
  go_wp2_with (at_make; refine wpList_make_own _ rfl _ _ 22 rfl w.heap.size 5 i0 (.int .u8 0) 1 Ybad.underlying22 hi hz0 hz1 .i64 .i64 _ 32 rfl rfl rfl (by rw [hz2]; omega) (by unfold maxLen; omega) (Nat.le_refl _) ?_; intro w1 hown1 hgrow1)
  have hb1 : Below w.heap.size w w1 := (Below.refl _ _).grown hgrow1 (Nat.le_refl _) (fun k hk => by cases hk)
  clear hgrow1
  go_loopw [7, 8] (fun sv i wr => ∃ k : Nat, k ≤ pre ∧ i = .int .i64 k ∧ wr.ownsRow w.heap.size 5 1 sv k (cellsOf' (List.replicate k 32)) ∧ Below w.heap.size w wr) (fun _ i _ => pre - (intOf i).toNat)
  case atStart => exact ⟨0, Nat.zero_le _, rfl, hown1, hb1⟩
  case round =>
    clear hown1 hb1
    obtain ⟨k, hk, rfl, hown, hb⟩ := hrel
    have hsz := hb.size
    by_cases hlt : k < pre
    · have hlt' : (k : Int) < a1 % 4 := by have := HP.out; omega
      go_wp2_with (at_builtin; refine wpList_append_own _ rfl _ _ 22 rfl w.heap.size 5 i0 (.int .u8 0) 1 1 Ybad.underlying22 hi hz0 hz1 hz2 rfl (by decide) _ _ _ rfl (hown.alloc _) ⟨wr.heap.size, 0, none⟩ 1 1 [.int .u8 32] rfl rfl ?c1 ?c2 ?c3 ?c4 ?c5 ?_)
      case c1 => exact World.news_of_block (cs := #[.int .u8 32]) (t := 5) (fr := (0, 0)) (heap_alloc_new wr _)
      case c2 => simp [Value.oneCell']
      case c3 => unfold maxLen; omega
      case c4 => omega
      case c5 => simp; omega
      intro sv' w2 hown2 hgrow2 _
      have hb2 : Below w.heap.size w w2 := (hb.alloc hsz _).grown hgrow2 (by simp; omega) (fun j hj => (hown.lt j hj).1)
      rw [show (Value.int .u8 32 : Value) = .int .u8 (((32 : UInt8).toNat : Nat) : Int) from rfl, cells_snoc] at hown2
      clear hgrow2 hown hb
      go_wp2_with fail
      go_roundw
      case rel => exact ⟨k + 1, by omega, by go_num, by rw [List.replicate_succ']; exact hown2, hb2⟩
      case measure => simp [intOf]; omega
    · have hlt' : ¬ (k : Int) < a1 % 4 := by have := HP.out; omega
      have hkp : k = pre := by omega
      subst hkp
      go_wp2_with fail
      refine (Ybad.strconv_AppendInt_10 w.heap.size k v h0 h1 _ _ wr hown hsz (by omega) (HT.out.on hb)).mono ?_
      rintro e w2 ⟨sv2, rfl, hown2, hb2', _⟩
      have hb2 := hb.trans hb2'
      rw [byteCells_eq, show cellsOf' (List.replicate k 32) ++ cellsOf' (Lib.itoa v) = cellsOf' (List.replicate k 32 ++ Lib.itoa v) by simp [cellsOf']] at hown2
      clear hown hb hb2' hlt hlt' hk hsz
      go_wp2_with fail
      go_loopw [7, 9] (fun sv i wr => ∃ j : Nat, j ≤ post ∧ i = .int .i64 j ∧ wr.ownsRow w.heap.size 5 1 sv (k + (Lib.itoa v).length + j) (cellsOf' (List.replicate k 32 ++ Lib.itoa v ++ List.replicate j 10)) ∧ Below w.heap.size w wr) (fun _ i _ => post - (intOf i).toNat)
      case atStart => exact ⟨0, Nat.zero_le _, rfl, by simpa using hown2, hb2⟩
      case round =>
        clear hown2 hb2
        obtain ⟨j, hj, rfl, hown, hb⟩ := hrel
        have hsz := hb.size
        have hil := HI.out
        by_cases hlt : j < post
        · have hlt' : (j : Int) < a2 % 4 := by have := HQ.out; omega
          generalize hN : k + (Lib.itoa v).length + j = N at hown
          generalize hL : List.replicate k 32 ++ Lib.itoa v ++ List.replicate j 10 = L at hown
          have HN : Hid _ := hN
          have HL : Hid _ := hL
          have hN64 : N ≤ 64 := by omega
          clear hN hL hil
          go_wp2_with (at_builtin; refine wpList_append_own _ rfl _ _ 22 rfl w.heap.size 5 i0 (.int .u8 0) 1 1 Ybad.underlying22 hi hz0 hz1 hz2 rfl (by decide) _ _ _ rfl (hown.alloc _) ⟨wr.heap.size, 0, none⟩ 1 1 [.int .u8 10] rfl rfl ?c1 ?c2 ?c3 ?c4 ?c5 ?_)
          case c1 => exact World.news_of_block (cs := #[.int .u8 10]) (t := 5) (fr := (0, 0)) (heap_alloc_new wr _)
          case c2 => simp [Value.oneCell']
          case c3 => unfold maxLen; omega
          case c4 => omega
          case c5 => simp; omega
          intro sv' w2 hown2 hgrow2 _
          have hb2 : Below w.heap.size w w2 := (hb.alloc hsz _).grown hgrow2 (by simp; omega) (fun q hq => (hown.lt q hq).1)
          rw [show (Value.int .u8 10 : Value) = .int .u8 (((10 : UInt8).toNat : Nat) : Int) from rfl, cells_snoc] at hown2
          clear hgrow2 hown hb
          go_wp2_with fail
          go_roundw
          case rel => exact ⟨j + 1, by omega, by go_num, by rw [← HL.out, ← HN.out] at hown2; rw [List.replicate_succ', ← List.append_assoc]; exact hown2, hb2⟩
          case measure => simp [intOf]; omega
        · have hlt' : ¬ (j : Int) < a2 % 4 := by have := HQ.out; omega
          have hjp : j = post := by omega
          subst hjp
          have hil0 : 0 < (Lib.itoa v).length := by
            by_cases hv : v < 0
            · unfold Lib.itoa; rw [if_pos hv]; simp
            · unfold Lib.itoa; rw [if_neg hv]; exact List.length_pos_iff.2 (dec_ne _)
          have hsv : ∃ g cap, u7 = .slice (some ⟨g, 0, none⟩) (k + (Lib.itoa v).length + j) cap := by
            obtain ⟨g, c, e1, _, _⟩ := hown.form (by omega)
            exact ⟨g, c, e1⟩
          obtain ⟨g, cap, hu⟩ := hsv
          rw [hu] at hown ⊢
          have htl := text_length v k j
          obtain ⟨hr, hcap⟩ := reader_of (l := text v k j) hown (by omega) (by omega) (by omega)
          have hb3 : Below w.heap.size w (wr.alloc (.cells #[.slice (some ⟨g, 0, none⟩) (k + (Lib.itoa v).length + j) cap, .int .i64 0, .bool false] 29)) := hb.alloc hsz _
          have HR : Hid _ := hr
          have HC : Hid _ := hcap
          have HTL : Hid _ := htl
          clear hr hcap hown hil htl hil0 hu
          generalize hn : k + (Lib.itoa v).length + j = n
          rw [hn] at HR hb3
          have HNN : Hid _ := hn
          clear hn
          go_wp2_with fail
          go_in
          go_wp2_with fail
          refine (int_any wr.heap.size g cap v k j _ HR.out (by have := HC.out; have := HTL.out; omega) h0 h1).mono ?_
          rintro e w4 ⟨nb, rfl, hcn, hr4, hb4⟩
          have c2 := hr4.c2
          have hb5 := hb4.below hb3 hsz (by simp; omega)
          have HR4 : Hid (Rdr wr.heap.size g cap (text v k j) (k + (Lib.itoa v).length) w4) := hr4
          clear hr4 hb4 hb3
          have hvv : (v != v) = false := by simp
          go_wp2_with fail
          refine (end_any wr.heap.size g cap (text v k j) _ w4 HR4.out (fun q hq1 hq2 => Or.inr (Or.inr (Or.inl (text_post v k j q hq1 hq2))))).mono ?_
          rintro e w5 ⟨rfl, hb6⟩
          go_wp2_with fail
          go_ret
          exact ⟨rfl, hb6.below hb5 hsz (by have := hb5.size; omega)⟩
end Go.Proofs.YbulkcjhaDoor
