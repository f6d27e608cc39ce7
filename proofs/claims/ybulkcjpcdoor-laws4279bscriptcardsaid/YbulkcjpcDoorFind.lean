/-
  AVPDef.Uint32, Find.
-/
import Derived.Test.YbulkcjpcDoorSmall
import Derived.Deep.RegionWith
namespace Go.Proofs.YbulkcjpcDoor
open Go.RowKit
set_option maxRecDepth 100000

theorem bytes_of_own {w : World} {B g cap n : Nat} {bs : List UInt8} (h : w.ownsRow B 5 1 (.slice (some ⟨g, 0, none⟩) n cap) n (cellsOf bs)) : Bytes w (some ⟨g, 0, none⟩) n cap bs := by
  have hl : bs.length = n := by have := h.1; simpa [cellsOf] using this
  rcases h.2 with ⟨h1, _⟩ | ⟨g', cap', cur, h1, h2, h3, h4, h5, h6, h7⟩
  · cases h1
  · cases h1
    refine ⟨hl, h4, by unfold maxLen at h5; omega, .inr ⟨g, 0, rfl, fun j hj => ?_⟩⟩
    have := h.cells (g := g) rfl j (.int .u8 (at' bs j)) (by
      simp only [cellsOf, List.getElem?_map]
      rw [List.getElem?_eq_getElem (by omega)]
      simp [at', List.getD, List.getElem?_eq_getElem (show j < bs.length by omega)])
    rwa [show (⟨g, 0, none⟩ : Addr).add j = ⟨g, 0 + j, none⟩ by unfold Addr.add; split <;> simp_all] at this

theorem Bytes.setCell {w : World} {p : Option Addr} {n k : Nat} {bs : List UInt8} (h : Bytes w p n k bs) (a : Addr) (u : Value) (hne : ∀ q : Addr, p = some q → q.block ≠ a.block) : Bytes (w.setCell a u) p n k bs := by
  refine ⟨h.len, h.cap, h.big, ?_⟩
  rcases h.lies with hn | ⟨g, o, rfl, hc⟩
  · exact .inl hn
  · exact .inr ⟨g, o, rfl, fun j hj => (World.cell?_setCell_other _ _ _ _ (fun e => hne _ rfl (by rw [e]))).trans (hc j hj)⟩
theorem two_kept {w w2 : World} {dc dv : Int} {dm : Bool} (h : Below ((w.alloc (.cells #[.int .u32 dc, .int .u32 dv, .bool dm] 26)).alloc (.cells #[.int .u32 0, .int .u8 0, .int .u32 0, .slice none 0 0] 32)).heap.size ((w.alloc (.cells #[.int .u32 dc, .int .u32 dv, .bool dm] 26)).alloc (.cells #[.int .u32 0, .int .u8 0, .int .u32 0, .slice none 0 0] 32)) w2) :
    Below w.heap.size w w2 ∧ w2.heap[w.heap.size]? = some (.cells #[.int .u32 dc, .int .u32 dv, .bool dm] 26 (0, 0)) ∧ w2.heap[w.heap.size + 1]? = some (.cells #[.int .u32 0, .int .u8 0, .int .u32 0, .slice none 0 0] 32 (0, 0)) ∧
    w2.cell? ⟨w.heap.size, 0, none⟩ = some (.int .u32 dc) ∧ w2.cell? ⟨w.heap.size, 1, none⟩ = some (.int .u32 dv) ∧ w2.cell? ⟨w.heap.size, 2, none⟩ = some (.bool dm) := by
  have hD : w2.heap[w.heap.size]? = some (.cells #[.int .u32 dc, .int .u32 dv, .bool dm] 26 (0, 0)) := (h.block _ (by simp; omega)).trans ((Below.heap_alloc _ _ _ (by simp)).trans (heap_alloc_new w _))
  refine ⟨(((Below.refl _ w).alloc (Nat.le_refl _) _).alloc (by simp) _).trans (h.mono (by simp; omega)), hD, (h.block _ (by simp)).trans (heap_new2 w _ _), ?_, ?_, ?_⟩ <;>
  · rw [cell_of_row _ _ _ _ _ _ hD]; rfl
theorem four_kept {w2 w3 : World} {s : Nat} (h : w2.heap[s]? = some (.cells #[.int .u32 0, .int .u8 0, .int .u32 0, .slice none 0 0] 32 (0, 0))) (hb : Below w2.heap.size w2 w3) :
    w3.cell? ⟨s, 0, none⟩ = some (.int .u32 0) ∧ w3.cell? ⟨s, 1, none⟩ = some (.int .u8 0) ∧ w3.cell? ⟨s, 2, none⟩ = some (.int .u32 0) ∧ w3.cell? ⟨s, 3, none⟩ = some (.slice none 0 0) ∧
    w3.frozen? ⟨s, 0, none⟩ = false ∧ w3.frozen? ⟨s, 1, none⟩ = false ∧ w3.frozen? ⟨s, 2, none⟩ = false ∧ w3.frozen? ⟨s, 3, none⟩ = false ∧ w3.heap[s]? = some (.cells #[.int .u32 0, .int .u8 0, .int .u32 0, .slice none 0 0] 32 (0, 0)) := by
  have hn := (hb.block _ (lt_of_block h)).trans h
  refine ⟨?_, ?_, ?_, ?_, frozen_of_row _ _ _ _ _ hn, frozen_of_row _ _ _ _ _ hn, frozen_of_row _ _ _ _ _ hn, frozen_of_row _ _ _ _ _ hn, hn⟩ <;>
  · rw [cell_of_row _ _ _ _ _ _ hn]; rfl

/-- What a call leaves that owns four new bytes and turns nothing of w. -/
structure New4 (w w' : World) (g cap : Nat) (x : Int) : Prop where
  by4 : Bytes w' (some ⟨g, 0, none⟩) 4 cap (be4B x)
  ge : w.heap.size ≤ g
  below : Below w.heap.size w w'

set_option maxHeartbeats 4000000 in
theorem defU32_any (dc dv : Int) (dm : Bool) (x : Int) (hx0 : 0 ≤ x) (hx1 : x < 4294967296) (w : World) :
    Calls Ybad.prog 7 #[df dc dv dm, .int .u32 x] w fun e w' => ∃ g cap, e = .returned (av dc (flagsOf dv dm) dv (some ⟨g, 0, none⟩) 4 cap) ∧ New4 w w' g cap x := by
  have hB : ∀ o1 o2, Below w.heap.size w ((w.alloc o1).alloc o2) := fun o1 o2 => ((Below.refl _ w).alloc (Nat.le_refl _) _).alloc (by simp) _
  have HC20 : Hid (Calls Ybad.prog 20 #[.agg #[], .slice none 0 0, .int .u32 x] ((w.alloc (.cells #[.int .u32 dc, .int .u32 dv, .bool dm] 26)).alloc (.cells #[.int .u32 0, .int .u8 0, .int .u32 0, .slice none 0 0] 32)).drew
      fun e w2 => ∃ g cap, e = .returned (.slice (some ⟨g, 0, none⟩) 4 cap) ∧ New4 ((w.alloc (.cells #[.int .u32 dc, .int .u32 dv, .bool dm] 26)).alloc (.cells #[.int .u32 0, .int .u8 0, .int .u32 0, .slice none 0 0] 32)) w2 g cap x) :=
    (append32_any (w.heap.size + 2) 0 x hx0 hx1 (.slice none 0 0) [] _ (World.ownsRow_nil _ _ _ _) (by simp [World.drew]) (by omega)).mono fun e w2 ⟨v', h1, h2, h3⟩ => by
      obtain ⟨g, cap, cur, rfl, _, hge, _⟩ := own_some h2 (by omega)
      have hbo := bytes_of_own (bs := be4B x) (by rw [cells_be4 x hx0 hx1]; simpa using h2)
      refine ⟨g, cap, h1, hbo, by simp; omega, ?_⟩
      have hb := h3.below
      exact ⟨hb.os, hb.tape, hb.output, hb.size, fun q hq => hb.block q (by simpa using hq)⟩
  have HC9 : Hid (∀ (g cap : Nat) (W : World), Calls Ybad.prog 9 #[df dc dv dm, .slice (some ⟨g, 0, none⟩) 4 cap] W fun e w' => e = .returned (av dc (flagsOf dv dm) dv (some ⟨g, 0, none⟩) 4 cap) ∧ Below W.heap.size W w') := fun g cap W => bytes_any dc dv dm (some ⟨g, 0, none⟩) 4 cap W
  go_enter Ybad.func7, Ybad.ntmps7
  go_wp2_with fail
  go_region_with ((first | (go_at_call 20; refine HC20.out.mono ?_; rintro e w2 ⟨g, cap, rfl, hn4⟩; obtain ⟨hb2, hD, hR, e0, e1, e2⟩ := two_kept hn4.below) | (go_at_call 9; refine (HC9.out _ _ _).mono ?_; rintro e w3 ⟨rfl, hb3⟩; obtain ⟨g0, g1, g2, g3, q0, q1, q2, q3, hR3⟩ := four_kept hR hb3)))
  all_goals
    go_wp2_with fail
    refine bodyPost_ret (results_cell Ybad.results7 _ _ (w.heap.size + 1) [.int .u32 dc, .int .u8 (flagsOf dv dm), .int .u32 dv, .slice (some ⟨g, 0, none⟩) 4 cap] _ rfl (range_of_row (set4 hR3)) Ybad.underlying32 rfl Ybad.size32) rfl ?_
    have hge : w.heap.size + 1 + 1 ≤ g := by have := hn4.ge; simpa using this
    refine ⟨g, cap, rfl, ?_, by omega, ?_⟩
    · have hne : ∀ q : Addr, (some ⟨g, 0, none⟩ : Option Addr) = some q → q.block ≠ w.heap.size + 1 := fun q hq => by cases hq; simp; omega
      exact ((((hn4.by4.below hb3).setCell _ _ hne).setCell _ _ hne).setCell _ _ hne).setCell _ _ hne
    · have hb4 : Below w.heap.size w w3 := hb2.trans (hb3.mono hb2.size)
      exact (((hb4.setCell (Nat.le_succ _) _).setCell (Nat.le_succ _) _).setCell (Nat.le_succ _) _).setCell (Nat.le_succ _) _

def findBy (c v : Int) (its : List It) : Option It := its.find? fun i => decide (i.c = c) && decide (i.v = v)

theorem findBy_snoc (c v : Int) (its : List It) (j : Nat) (i : It) (h : its[j]? = some i) (hn : findBy c v (its.take j) = none) : findBy c v (its.take (j + 1)) = if (decide (i.c = c) && decide (i.v = v)) then some i else none := by
  rw [List.take_add_one, h]
  simp only [findBy] at hn ⊢
  rw [List.find?_append, hn]
  simp
theorem findBy_take (c v : Int) (its : List It) (j : Nat) (i : It) (h : findBy c v (its.take j) = some i) : findBy c v its = some i := by
  rw [← List.take_append_drop j its]
  simp only [findBy] at h ⊢
  rw [List.find?_append, h]
  rfl
def FindRes (w w' : World) (e : Ending) (dc dv : Int) (its : List It) : Prop := ∃ (a : Av) (b : Bool), e = .returned (.tuple #[a.val, .bool b]) ∧ Below w.heap.size w w' ∧ ((∃ i, findBy dc dv its = some i ∧ b = true ∧ Fits w a i) ∨ (findBy dc dv its = none ∧ b = false))

set_option maxHeartbeats 1600000 in
theorem find_any (sl : Value) (avs : List Av) (its : List It) (dc dv : Int) (dm : Bool) (w : World) (hsl : w.ownsRow 0 32 4 sl avs.length (avs.flatMap Av.cells)) (hfit : All2 (Fits w) avs its) (hmm : avs.length ≤ 1000000) :
    Calls Ybad.prog 31 #[sl, df dc dv dm] w fun e w' => FindRes w w' e dc dv its := by
  obtain ⟨p, q, k, hsv, hq⟩ : ∃ p q k, sl = .slice p q k ∧ q = avs.length := by
    rcases hsl.2 with ⟨h, h2⟩ | ⟨g, cap, cur, h, _⟩
    · exact ⟨_, _, _, h, h2.symm⟩
    · exact ⟨_, _, _, h, rfl⟩
  subst hsv hq
  have HIL : Hid (avs.length = its.length) := hfit.length
  have HS : Hid (w.ownsRow 0 32 4 (.slice p avs.length k) avs.length (avs.flatMap Av.cells)) := hsl
  have HF : Hid (All2 (Fits w) avs its) := hfit
  clear hsl hfit
  go_enter Ybad.func31, Ybad.ntmps31
  go_wp2_with fail
  go_loopw [10] (fun i wr => ∃ j : Nat, i = .int .i64 j ∧ j ≤ avs.length ∧ findBy dc dv (its.take j) = none ∧ wr.heap[w.heap.size]? = some (.cells #[.int .u32 dc, .int .u32 dv, .bool dm] 26 (0, 0)) ∧ wr.heap[w.heap.size + 1]? = some (.cells #[.int .u32 0, .int .u8 0, .int .u32 0, .slice none 0 0] 32 (0, 0)) ∧ Below w.heap.size w wr) (fun i _ => avs.length - (intOf i).toNat)
  case atStart => exact ⟨0, rfl, Nat.zero_le _, rfl, (Below.heap_alloc _ _ _ (by simp)).trans (heap_alloc_new w _), heap_new2 w _ _, ((Below.refl _ w).alloc (Nat.le_refl _) _).alloc (by simp) _⟩
  case round =>
    obtain ⟨j, rfl, hj, hnone, hD, hR, hb⟩ := hrel
    have HN : Hid (findBy dc dv (its.take j) = none) := hnone
    have e0 : wr.cell? ⟨w.heap.size, 0, none⟩ = some (.int .u32 dc) := by rw [cell_of_row _ _ _ _ _ _ hD]; rfl
    have e1 : wr.cell? ⟨w.heap.size, 1, none⟩ = some (.int .u32 dv) := by rw [cell_of_row _ _ _ _ _ _ hD]; rfl
    have e2 : wr.cell? ⟨w.heap.size, 2, none⟩ = some (.bool dm) := by rw [cell_of_row _ _ _ _ _ _ hD]; rfl
    have r0 : wr.cell? ⟨w.heap.size + 1, 0, none⟩ = some (.int .u32 0) := by rw [cell_of_row _ _ _ _ _ _ hR]; rfl
    have r1 : wr.cell? ⟨w.heap.size + 1, 1, none⟩ = some (.int .u8 0) := by rw [cell_of_row _ _ _ _ _ _ hR]; rfl
    have r2 : wr.cell? ⟨w.heap.size + 1, 2, none⟩ = some (.int .u32 0) := by rw [cell_of_row _ _ _ _ _ _ hR]; rfl
    have r3 : wr.cell? ⟨w.heap.size + 1, 3, none⟩ = some (.slice none 0 0) := by rw [cell_of_row _ _ _ _ _ _ hR]; rfl
    have rf : ∀ q, wr.frozen? ⟨w.heap.size + 1, q, none⟩ = false := fun q => frozen_of_row _ _ _ _ _ hR
    have rf0 := rf 0
    have rf1 := rf 1
    have rf2 := rf 2
    have rf3 := rf 3
    have hs1 : w.heap.size + 1 < wr.heap.size := lt_of_block hR
    have HD : Hid (wr.heap[w.heap.size]? = some (.cells #[.int .u32 dc, .int .u32 dv, .bool dm] 26 (0, 0))) := hD
    have HR : Hid (wr.heap[w.heap.size + 1]? = some (.cells #[.int .u32 0, .int .u8 0, .int .u32 0, .slice none 0 0] 32 (0, 0))) := hR
    clear hnone hD hR rf
    by_cases hlt : j < avs.length
    · have hlt' : (j : Int) < (avs.length : Int) := by omega
      obtain ⟨a, i, ha, hii, hf⟩ := HF.out.get j hlt
      obtain ⟨ag, hp⟩ : ∃ ag, p = some ⟨ag, 0, none⟩ := by
        rcases HS.out.2 with ⟨h, h2⟩ | ⟨g, cap, cur, h, _⟩
        · omega
        · cases h; exact ⟨g, rfl⟩
      subst hp
      obtain ⟨c0, c1, c2, c3⟩ := row_cell HS.out j a ha
      have d0 := (hb.cell (World.block_lt_of_cell? w _ c0)).trans c0
      have d1 := (hb.cell (World.block_lt_of_cell? w _ c1)).trans c1
      have d2 := (hb.cell (World.block_lt_of_cell? w _ c2)).trans c2
      have d3 := (hb.cell (World.block_lt_of_cell? w _ c3)).trans c3
      have HFI : Hid (Fits w a i) := hf
      obtain ⟨ac, af, av', ap, an, ak⟩ := a
      obtain ⟨hc, hff, hvv, -, -, -, -⟩ := hf
      simp only at hc hff hvv d0 d1 d2 d3
      have HC : Hid (ac = i.c ∧ af = i.f ∧ av' = i.v) := ⟨hc, hff, hvv⟩
      have HI : Hid (its[j]? = some i) := hii
      have e0a : ∀ o, (wr.alloc o).cell? ⟨w.heap.size, 0, none⟩ = some (.int .u32 dc) := fun o => cell_alloc o e0
      have e1a : ∀ o, (wr.alloc o).cell? ⟨w.heap.size, 1, none⟩ = some (.int .u32 dv) := fun o => cell_alloc o e1
      have e2a : ∀ o, (wr.alloc o).cell? ⟨w.heap.size, 2, none⟩ = some (.bool dm) := fun o => cell_alloc o e2
      clear c0 c1 c2 c3 ha hii hc hff hvv
      go_wp2_with fail
      refine (is_any ac af av' ap an ak dc dv dm _).mono ?_
      rintro e w2 ⟨rfl, hb2⟩
      have hbr : Below wr.heap.size wr w2 := ((Below.refl _ wr).alloc (Nat.le_refl _) _).trans (hb2.mono (by simp))
      have T2 := (hb2.block wr.heap.size (by simp)).trans (heap_alloc_new wr _)
      have t0 : w2.cell? ⟨wr.heap.size, 0, none⟩ = some (.int .u32 ac) := by rw [cell_of_row _ _ _ _ _ _ T2]; rfl
      have t1 : w2.cell? ⟨wr.heap.size, 1, none⟩ = some (.int .u8 af) := by rw [cell_of_row _ _ _ _ _ _ T2]; rfl
      have t2 : w2.cell? ⟨wr.heap.size, 2, none⟩ = some (.int .u32 av') := by rw [cell_of_row _ _ _ _ _ _ T2]; rfl
      have t3 : w2.cell? ⟨wr.heap.size, 3, none⟩ = some (.slice ap an ak) := by rw [cell_of_row _ _ _ _ _ _ T2]; rfl
      have hR2 := (hbr.block _ hs1).trans HR.out
      have hD2 := (hbr.block _ (by omega)).trans HD.out
      have s0 : w2.cell? ⟨w.heap.size + 1, 0, none⟩ = some (.int .u32 0) := by rw [cell_of_row _ _ _ _ _ _ hR2]; rfl
      have s1 : w2.cell? ⟨w.heap.size + 1, 1, none⟩ = some (.int .u8 0) := by rw [cell_of_row _ _ _ _ _ _ hR2]; rfl
      have s2 : w2.cell? ⟨w.heap.size + 1, 2, none⟩ = some (.int .u32 0) := by rw [cell_of_row _ _ _ _ _ _ hR2]; rfl
      have s3 : w2.cell? ⟨w.heap.size + 1, 3, none⟩ = some (.slice none 0 0) := by rw [cell_of_row _ _ _ _ _ _ hR2]; rfl
      have q0 : w2.frozen? ⟨w.heap.size + 1, 0, none⟩ = false := frozen_of_row _ _ _ _ _ hR2
      have q1 : w2.frozen? ⟨w.heap.size + 1, 1, none⟩ = false := frozen_of_row _ _ _ _ _ hR2
      have q2 : w2.frozen? ⟨w.heap.size + 1, 2, none⟩ = false := frozen_of_row _ _ _ _ _ hR2
      have q3 : w2.frozen? ⟨w.heap.size + 1, 3, none⟩ = false := frozen_of_row _ _ _ _ _ hR2
      have HR2 : Hid (w2.heap[w.heap.size + 1]? = some (.cells #[.int .u32 0, .int .u8 0, .int .u32 0, .slice none 0 0] 32 (0, 0))) := hR2
      have HD2 : Hid (w2.heap[w.heap.size]? = some (.cells #[.int .u32 dc, .int .u32 dv, .bool dm] 26 (0, 0))) := hD2
      have hb' : Below w.heap.size w w2 := hb.trans (hbr.mono hb.size)
      clear d0 d1 d2 d3 e0a e1a e2a e0 e1 e2 r0 r1 r2 r3 rf0 rf1 rf2 rf3 hb2 hbr T2 hR2 hD2 hb
      cases hh : (decide (ac = dc) && decide (av' = dv)) with
      | true =>
        go_wp2_with fail
        refine bodyPost_ret (results_cell2 Ybad.results31 _ _ (w.heap.size + 1) [.int .u32 ac, .int .u8 af, .int .u32 av', .slice ap an ak] _ _ rfl rfl (range_of_row (set4 HR2.out)) Ybad.underlying32 rfl Ybad.size32) rfl ?_
        refine ⟨⟨ac, af, av', ap, an, ak⟩, true, rfl, ?_, .inl ⟨i, ?_, rfl, HFI.out⟩⟩
        · exact (((hb'.setCell (Nat.le_succ _) _).setCell (Nat.le_succ _) _).setCell (Nat.le_succ _) _).setCell (Nat.le_succ _) _
        · have h1 := findBy_snoc dc dv its j i HI.out HN.out
          obtain ⟨rfl, rfl, rfl⟩ := HC.out
          rw [hh] at h1
          exact findBy_take _ _ _ _ _ h1
      | false =>
        go_wp2_with fail
        go_roundw
        case rel =>
          refine ⟨j + 1, by go_num, by omega, ?_, HD2.out, HR2.out, hb'⟩
          have h1 := findBy_snoc dc dv its j i HI.out HN.out
          obtain ⟨rfl, rfl, rfl⟩ := HC.out
          rw [hh] at h1
          exact h1
        case measure => simp [intOf]; omega
    · have hlt' : ¬ (j : Int) < (avs.length : Int) := by omega
      go_wp2_with fail
      refine bodyPost_ret (results_cell2 Ybad.results31 _ _ (w.heap.size + 1) [.int .u32 0, .int .u8 0, .int .u32 0, .slice none 0 0] _ _ rfl rfl (range_of_row (set4 HR.out)) Ybad.underlying32 rfl Ybad.size32) rfl ?_
      refine ⟨⟨0, 0, 0, none, 0, 0⟩, false, rfl, ?_, .inr ⟨?_, rfl⟩⟩
      · exact (((hb.setCell (Nat.le_succ _) _).setCell (Nat.le_succ _) _).setCell (Nat.le_succ _) _).setCell (Nat.le_succ _) _
      · have : its.take j = its := List.take_of_length_le (by rw [← HIL.out]; omega)
        have h2 := HN.out
        rwa [this] at h2

end Go.Proofs.YbulkcjpcDoor
