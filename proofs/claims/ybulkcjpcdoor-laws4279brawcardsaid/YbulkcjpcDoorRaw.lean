/-
  LawS4279BRaw: the walk.
-/
import Derived.Test.YbulkcjpcDoorParse
namespace Go.Proofs.YbulkcjpcDoor
open Go.RowKit
set_option maxRecDepth 100000

theorem parse_nil : parse [] = (none, none, none, none, 0) := by
  have h : dec [] = ([], true) := by rw [dec]; rfl
  rw [parse, h]; rfl
theorem parse_fail (bs : List UInt8) (h : (dec bs).2 = false) : parse bs = (none, none, none, none, 5014) := by rw [parse, if_pos h]
theorem splice_all {α : Type} (L cs : List α) (h : L.length = cs.length) : splice L 0 cs = cs := by
  simp [splice, List.drop_eq_nil_of_le (show L.length ≤ cs.length by omega)]

theorem raw_long (p : Option Addr) (n k : Nat) (w : World) (hn : 4096 < n) :
    Calls Ybad.prog 4 #[.slice p n k] w fun e w' => e = .returned (.bool true) ∧ Below w.heap.size w w' := by
  have hn' : (4096 : Int) < (n : Int) := by omega
  go_enter Ybad.func4, Ybad.ntmps4
  go_wp2_with fail
  go_ret
  exact ⟨rfl, Below.refl _ _⟩

set_option maxHeartbeats 8000000 in
theorem raw_any (p : Option Addr) (n k : Nat) (raw : List UInt8) (w : World) (hl : raw.length = n) (hn : n ≤ 4096) (hr : 0 < n → Bytes w p n k raw) (hg : Glob w) :
    Calls Ybad.prog 4 #[.slice p n k] w fun e w' => e = .returned (.bool true) ∧ Below w.heap.size w w' := by
  obtain ⟨i0, hi, hz0, hz1, hz2⟩ := info_parts Ybad.info5
  have HR : Hid (0 < n → Bytes w p n k raw) := hr
  have HG : Hid (Glob w) := hg
  have HL : Hid (raw.length = n) := hl
  have hn' : ¬ (4096 : Int) < (n : Int) := by omega
  clear hr hg hl
  go_enter Ybad.func4, Ybad.ntmps4
  go_wp2_with (at_make; refine wpList_make_full _ rfl _ _ 27 rfl w.heap.size 5 i0 (.int .u8 0) 1 Ybad.underlying27 hi hz0 hz1 .i64 .i64 _ _ n rfl rfl rfl rfl (by rw [hz2]; omega) (by unfold maxLen; omega) (Nat.le_refl _) ?_)
  intro w1 hown1 hgrow1
  have hb1 : Below w.heap.size w w1 := (Below.refl _ _).grown hgrow1 (Nat.le_refl _) (fun k hk => by cases hk)
  obtain ⟨cur, hcur, hcs⟩ : ∃ cur : List Value, w1.heap[w.heap.size]? = some (.cells cur.toArray 5 (0, 0)) ∧ cur.length = n := by
    rcases hown1.2 with ⟨h, _⟩ | ⟨g, cap, cur, h, _, h3, _, _, h6, _⟩
    · cases h
    · cases h
      exact ⟨cur.toList, by simpa using h3, by simpa using h6⟩
  have HCUR : Hid (w1.heap[w.heap.size]? = some (.cells cur.toArray 5 (0, 0))) := hcur
  have hs1 : w.heap.size < w1.heap.size := lt_of_block hcur
  clear hown1 hgrow1 hcur
  go_wp2_with (refine wpList_copy_splice rfl (.tmp 18) (.tmp 19) 27 27 rfl 5 Ybad.underlying27 (by kernel_rfl) _ _ _ _ _ _ rfl rfl w.heap.size 0 cur 5 HCUR.out (cellsOf raw) ?c1 ?c2 ?c3 ?c4 w.heap.size w hb1 (Nat.le_refl _) ?_)
  case c1 => have := HL.out; simp [cellsOf, this]
  case c2 =>
    intro h0
    have hl := HL.out
    have h0' : 0 < n := by simpa [cellsOf, hl] using h0
    rcases (HR.out h0').lies with ⟨_, hk⟩ | ⟨g, o, rfl, hc⟩
    · exact absurd (HR.out h0').cap (by omega)
    · refine ⟨⟨g, o, none⟩, rfl, fun j u hj => ?_⟩
      obtain ⟨h1, rfl⟩ := cellsOf_get _ _ _ hj
      have hh := hc j (by omega)
      rw [Addr.add_lit]
      exact (hb1.cell (World.block_lt_of_cell? w _ hh)).trans hh
  case c3 => have := HL.out; simp [cellsOf, this, hcs]
  case c4 => intro u hu; simp only [cellsOf, List.mem_map] at hu; obtain ⟨_, _, rfl⟩ := hu; rfl
  intro w2 HG2 hb2
  have HD2 : Hid (w2.heap[w.heap.size]? = some (.cells (cellsOf raw).toArray 5 (0, 0))) := by
    have h1 := HG2.out
    rw [splice_all _ _ (by have := HL.out; simp [cellsOf, this, hcs])] at h1
    exact h1
  clear HG2 HCUR hb1 hs1 hcs
  have hs2 : w.heap.size < w2.heap.size := lt_of_block HD2.out
  have HBD : Hid (Bytes w2 (some ⟨w.heap.size, 0, none⟩) n n raw) := by
    have hl := HL.out
    refine ⟨hl, Nat.le_refl _, by omega, .inr ⟨w.heap.size, 0, rfl, fun j hj => ?_⟩⟩
    rw [Nat.zero_add, cell_of_row _ _ _ _ _ _ HD2.out]
    simp [cellsOf, at', List.getD, List.getElem?_eq_getElem (show j < raw.length by omega)]
  go_wp2_with fail
  have hbA : Below w2.heap.size w2 (w2.alloc (.cells #[.int .u32 0, .int .u8 0, .int .u32 0, .slice (some ⟨w.heap.size, 0, none⟩) n n] 32)) := (Below.refl _ _).alloc (Nat.le_refl _) _
  refine (parse_any 0 0 0 (some ⟨w.heap.size, 0, none⟩) n n raw _ (HBD.out.below hbA) (by omega) (HG.out.below (hb2.alloc (by omega) _))).mono ?_
  rintro e w3 ⟨p0, p1, p2, p3, er, rfl, hb3, i0, i1, i2, i3, her⟩
  have hb3' : Below w.heap.size w w3 := (hb2.alloc (by omega) _).trans (hb3.mono (by simp; omega))
  have hbA3 : Below w2.heap.size w2 w3 := hbA.trans (hb3.mono (by simp))
  have A3 := (hb3.block w2.heap.size (by simp)).trans (heap_alloc_new w2 _)
  have HB3 : Hid (Bytes w3 (some ⟨w.heap.size, 0, none⟩) n n raw) := HBD.out.below hbA3
  have HA3 : Hid (w3.heap[w2.heap.size]? = some (.cells #[.int .u32 0, .int .u8 0, .int .u32 0, .slice (some ⟨w.heap.size, 0, none⟩) n n] 32 (0, 0))) := A3
  have HI : Hid (PtrIs w3 (.pointer p0) (parse raw).1 ∧ PtrIs w3 (.pointer p1) (parse raw).2.1 ∧ PtrIs w3 (.pointer p2) (parse raw).2.2.1 ∧ PtrIs w3 (.pointer p3) (parse raw).2.2.2.1 ∧ ErrOr w3 er (parse raw).2.2.2.2) := ⟨i0, i1, i2, i3, her⟩
  clear hbA hb2 HD2 HBD hs2 hb3 hbA3 A3 i0 i1 i2 i3 her
  have hs3 := hb3'.size
  go_wp2_with fail
  generalize hW : w3.alloc (.cells #[.pointer p0, .pointer p1, .pointer p2, .pointer p3] 38) = W at *
  have hbW : Below w3.heap.size w3 W := by rw [← hW]; exact (Below.refl _ _).alloc (Nat.le_refl _) _
  have hQ : W.heap[w3.heap.size]? = some (.cells #[.pointer p0, .pointer p1, .pointer p2, .pointer p3] 38 (0, 0)) := by rw [← hW]; exact heap_alloc_new w3 _
  have HQ : Hid (W.heap[w3.heap.size]? = some (.cells #[.pointer p0, .pointer p1, .pointer p2, .pointer p3] 38 (0, 0))) := hQ
  clear hQ hW
  go_loopw [7] (fun i wr => ∃ j : Nat, i = .int .i64 j ∧ j ≤ n ∧ Below W.heap.size W wr) (fun i _ => n - (intOf i).toNat)
  case atStart => exact ⟨0, rfl, Nat.zero_le _, Below.refl _ _⟩
  case round =>
    obtain ⟨j, rfl, hj, hbr⟩ := hrel
    have hb3r : Below w3.heap.size w3 wr := hbW.trans (hbr.mono hbW.size)
    have hbwr : Below w.heap.size w wr := hb3'.trans (hb3r.mono hs3)
    have HBr : Hid (Bytes wr (some ⟨w.heap.size, 0, none⟩) n n raw) := HB3.out.below hb3r
    by_cases hlt : j < n
    · have hlt' : (j : Int) < (n : Int) := by omega
      have hj0 : (0 : Int) ≤ (j : Int) := Int.natCast_nonneg _
      have hR := HR.out (by omega)
      rcases hR.lies with ⟨_, hk⟩ | ⟨g, o, rfl, hc⟩
      · exact absurd hR.cap (by omega)
      have hc2 := hc j hlt
      have e1 : wr.cell? ⟨g, o + j, none⟩ = some (.int .u8 (at' raw j)) := (hbwr.cell (World.block_lt_of_cell? w _ hc2)).trans hc2
      have e2 : wr.cell? ⟨w.heap.size, j, none⟩ = some (.int .u8 (at' raw j)) := by
        rcases HBr.out.lies with ⟨h, _⟩ | ⟨g', o', h, hc'⟩
        · cases h
        · cases h
          have := hc' j hlt
          rwa [Nat.zero_add] at this
      have hbe : (at' raw j != at' raw j) = false := by simp
      generalize at' raw j = X at *
      clear hc hc2 hR
      go_wp2_with fail
      go_quiet (fail)
      go_wp2_with fail
      go_roundw
      case rel => exact ⟨j + 1, by go_num, by omega, below_drewN hbr _⟩
      case measure => simp [intOf]; omega
    · have hlt' : ¬ (j : Int) < (n : Int) := by omega
      have hQr := (hbr.block _ (lt_of_block HQ.out)).trans HQ.out
      have q0 : wr.cell? ⟨w3.heap.size, 0, none⟩ = some (.pointer p0) := by rw [cell_of_row _ _ _ _ _ _ hQr]; rfl
      have q1 : wr.cell? ⟨w3.heap.size, 1, none⟩ = some (.pointer p1) := by rw [cell_of_row _ _ _ _ _ _ hQr]; rfl
      have q2 : wr.cell? ⟨w3.heap.size, 2, none⟩ = some (.pointer p2) := by rw [cell_of_row _ _ _ _ _ _ hQr]; rfl
      have q3 : wr.cell? ⟨w3.heap.size, 3, none⟩ = some (.pointer p3) := by rw [cell_of_row _ _ _ _ _ _ hQr]; rfl
      have HQr : Hid (wr.heap[w3.heap.size]? = some (.cells #[.pointer p0, .pointer p1, .pointer p2, .pointer p3] 38 (0, 0))) := hQr
      clear hQr
      by_cases h0 : n = 0
      · have hraw : raw = [] := List.eq_nil_of_length_eq_zero (by rw [HL.out]; exact h0)
        have hI := HI.out
        rw [hraw, parse_nil] at hI
        obtain ⟨i0, i1, i2, i3, her⟩ := hI
        cases i0; cases i1; cases i2; cases i3
        have her' : er = .nilIface := by
          rcases her with ⟨_, h⟩ | ⟨h, _⟩
          · exact h
          · exact absurd rfl h
        subst her' h0
        clear her
        go_wp2_with fail
        go_ret
        exact ⟨rfl, hbwr⟩
      · have h0' : ((n : Int) == 0) = false := by simp; omega
        have hAr := (hb3r.block _ (lt_of_block HA3.out)).trans HA3.out
        have a0 : wr.cell? ⟨w2.heap.size, 0, none⟩ = some (.int .u32 0) := by rw [cell_of_row _ _ _ _ _ _ hAr]; rfl
        have a1 : wr.cell? ⟨w2.heap.size, 1, none⟩ = some (.int .u8 0) := by rw [cell_of_row _ _ _ _ _ _ hAr]; rfl
        have a2 : wr.cell? ⟨w2.heap.size, 2, none⟩ = some (.int .u32 0) := by rw [cell_of_row _ _ _ _ _ _ hAr]; rfl
        have a3 : wr.cell? ⟨w2.heap.size, 3, none⟩ = some (.slice (some ⟨w.heap.size, 0, none⟩) n n) := by rw [cell_of_row _ _ _ _ _ _ hAr]; rfl
        clear hAr
        go_wp2_with fail
        refine (group_any 0 0 0 (some ⟨w.heap.size, 0, none⟩) n n raw wr HBr.out (by omega)).mono ?_
        rintro e w4 ⟨sl, ger, rfl, hb4, hcase⟩
        have hb4' : Below w.heap.size w w4 := hbwr.trans (hb4.mono hbwr.size)
        rcases hcase with ⟨hok, rfl, avs, hown, hall⟩ | ⟨hok, rfl, geb, gs, rfl, hgeb⟩
        · clear hown hall
          go_wp2_with fail
          go_ret
          exact ⟨rfl, hb4'⟩
        · have hI := HI.out
          rw [parse_fail raw hok] at hI
          obtain ⟨i0, i1, i2, i3, her⟩ := hI
          cases i0; cases i1; cases i2; cases i3
          obtain ⟨eb, s, rfl, heb⟩ : ErrAt w3 er 5014 := by
            rcases her with ⟨h, _⟩ | ⟨_, h⟩
            · exact absurd h (by decide)
            · exact h
          have hQ4 := (hb4.block _ (lt_of_block HQr.out)).trans HQr.out
          have t0 : w4.cell? ⟨w3.heap.size, 0, none⟩ = some (.pointer none) := by rw [cell_of_row _ _ _ _ _ _ hQ4]; rfl
          have t1 : w4.cell? ⟨w3.heap.size, 1, none⟩ = some (.pointer none) := by rw [cell_of_row _ _ _ _ _ _ hQ4]; rfl
          have t2 : w4.cell? ⟨w3.heap.size, 2, none⟩ = some (.pointer none) := by rw [cell_of_row _ _ _ _ _ _ hQ4]; rfl
          have t3 : w4.cell? ⟨w3.heap.size, 3, none⟩ = some (.pointer none) := by rw [cell_of_row _ _ _ _ _ _ hQ4]; rfl
          have hE4 := (hb4.block _ (Nat.lt_of_lt_of_le (lt_of_block heb) hb3r.size)).trans ((hb3r.block _ (lt_of_block heb)).trans heb)
          have HE4 : Hid (w4.heap[eb]? = some (.cells #[.int .u32 5014, .int .u32 0, s] 81 (0, 0))) := hE4
          clear hQ4 hE4 her heb hgeb hok
          go_wp2_with fail
          refine (code_err eb 5014 (.int .u32 0) s w4 HE4.out).mono ?_
          rintro e w5 ⟨rfl, rfl⟩
          go_wp2_with fail
          go_ret
          exact ⟨rfl, hb4'⟩

end Go.Proofs.YbulkcjpcDoor
