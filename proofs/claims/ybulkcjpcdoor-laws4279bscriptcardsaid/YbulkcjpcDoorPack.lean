/-
  AVPDef.Group.
-/
import Derived.Test.YbulkcjpcDoorFind
namespace Go.Proofs.YbulkcjpcDoor
open Go.RowKit
set_option maxRecDepth 100000

/-- What a call leaves that hands back new bytes and turns nothing of w. -/
structure NewB (w w' : World) (p : Option Addr) (n k : Nat) (bs : List UInt8) : Prop where
  byt : Bytes w' p n k bs
  ge : ∀ a : Addr, p = some a → w.heap.size ≤ a.block
  below : Below w.heap.size w w'

theorem bytes_of_own' {w : World} {B n : Nat} {v : Value} {bs : List UInt8} (h : w.ownsRow B 5 1 v n (cellsOf bs)) : ∃ p k, v = .slice p n k ∧ Bytes w p n k bs ∧ ∀ a : Addr, p = some a → B ≤ a.block := by
  rcases h.2 with ⟨h1, h2⟩ | ⟨g', cap', cur, h1, h2, h3, h4, h5, h6, h7⟩
  · subst h1 h2
    have hl : bs.length = 0 := by have := h.1; simpa [cellsOf] using this
    exact ⟨none, 0, rfl, ⟨hl, Nat.le_refl _, by omega, .inl ⟨rfl, rfl⟩⟩, fun a ha => by cases ha⟩
  · subst h1
    exact ⟨_, _, rfl, bytes_of_own h, fun a ha => by cases ha; exact h2⟩

theorem fits_below {w w' : World} {a : Av} {i : It} (h : Fits w a i) (hb : Below w.heap.size w w') : Fits w' a i :=
  ⟨h.1, h.2.1, h.2.2.1, h.2.2.2.1, h.2.2.2.2.1, h.2.2.2.2.2.1, h.2.2.2.2.2.2.below hb⟩
theorem all2_mono {R S : Av → It → Prop} (hRS : ∀ a i, R a i → S a i) {avs : List Av} {its : List It} (h : All2 R avs its) : All2 S avs its := by
  induction h with
  | nil => exact .nil
  | cons h1 _ ih => exact .cons (hRS _ _ h1) ih

set_option maxHeartbeats 4000000 in
theorem pack_any (dc dv : Int) (dm : Bool) (sl : Value) (avs : List Av) (its : List It) (w : World) (hsl : w.ownsRow 0 32 4 sl avs.length (avs.flatMap Av.cells)) (hfit : All2 (Fits w) avs its) (hm : avs.length ≤ 1000000) (hd : ∀ i, i ∈ its → i.d.length ≤ 50000) :
    Calls Ybad.prog 8 #[df dc dv dm, sl] w fun e w' => ∃ p k, e = .returned (av dc (flagsOf dv dm) dv p (enc its).length k) ∧ NewB w w' p (enc its).length k (enc its) := by
  have hB : Below w.heap.size w ((w.alloc (.cells #[.int .u32 dc, .int .u32 dv, .bool dm] 26)).alloc (.cells #[.int .u32 0, .int .u8 0, .int .u32 0, .slice none 0 0] 32)) := ((Below.refl _ w).alloc (Nat.le_refl _) _).alloc (by simp) _
  have HC21 : Hid (Calls Ybad.prog 21 #[.slice none 0 0, sl] ((w.alloc (.cells #[.int .u32 dc, .int .u32 dv, .bool dm] 26)).alloc (.cells #[.int .u32 0, .int .u8 0, .int .u32 0, .slice none 0 0] 32)).drew
      fun e w2 => ∃ p k, e = .returned (.slice p (enc its).length k) ∧ NewB ((w.alloc (.cells #[.int .u32 dc, .int .u32 dv, .bool dm] 26)).alloc (.cells #[.int .u32 0, .int .u8 0, .int .u32 0, .slice none 0 0] 32)) w2 p (enc its).length k (enc its)) :=
    (enc_any sl avs its _ (own_below hsl hB).drew (all2_mono (fun a i h => fits_below h hB.drew) hfit) hm hd).mono fun e w2 ⟨v', h1, h2, h3⟩ => by
      obtain ⟨p, k, rfl, h4, h5⟩ := bytes_of_own' h2
      exact ⟨p, k, h1, h4, h5, ⟨h3.os, h3.tape, h3.output, h3.size, h3.block⟩⟩
  have HC9 : Hid (∀ (p : Option Addr) (n k : Nat) (W : World), Calls Ybad.prog 9 #[df dc dv dm, .slice p n k] W fun e w' => e = .returned (av dc (flagsOf dv dm) dv p n k) ∧ Below W.heap.size W w') := fun p n k W => bytes_any dc dv dm p n k W
  clear hsl hfit hd hB
  generalize enc its = bs at *
  generalize hL : bs.length = L at *
  go_enter Ybad.func8, Ybad.ntmps8
  go_wp2_with fail
  go_region_with ((first | (go_at_call 21; refine HC21.out.mono ?_; rintro e w2 ⟨p, k, rfl, hn4⟩; obtain ⟨hb2, hD, hR, e0, e1, e2⟩ := two_kept hn4.below) | (go_at_call 9; refine (HC9.out _ _ _ _).mono ?_; rintro e w3 ⟨rfl, hb3⟩; obtain ⟨g0, g1, g2, g3, q0, q1, q2, q3, hR3⟩ := four_kept hR hb3)))
  all_goals
    go_wp2_with fail
    refine bodyPost_ret (results_cell Ybad.results8 _ _ (w.heap.size + 1) [.int .u32 dc, .int .u8 (flagsOf dv dm), .int .u32 dv, .slice p L k] _ rfl (range_of_row (set4 hR3)) Ybad.underlying32 rfl Ybad.size32) rfl ?_
    have hge : ∀ a : Addr, p = some a → w.heap.size + 1 + 1 ≤ a.block := fun a ha => by have := hn4.ge a ha; simpa using this
    refine ⟨p, k, rfl, ?_, fun a ha => by have := hge a ha; omega, ?_⟩
    · have hne : ∀ q : Addr, p = some q → q.block ≠ w.heap.size + 1 := fun q hq => by have := hge q hq; omega
      exact ((((hn4.byt.below hb3).setCell _ _ hne).setCell _ _ hne).setCell _ _ hne).setCell _ _ hne
    · have hb4 : Below w.heap.size w w3 := hb2.trans (hb3.mono hb2.size)
      exact (((hb4.setCell (Nat.le_succ _) _).setCell (Nat.le_succ _) _).setCell (Nat.le_succ _) _).setCell (Nat.le_succ _) _

theorem ptr_any (p : Option Addr) (o : Option Int) (b : Bool) (x : Int) (w : World) (h : (o = none ∧ p = none ∧ b = false) ∨ (o = some x ∧ b = true ∧ ∃ pb, p = some ⟨pb, 0, none⟩ ∧ w.heap[pb]? = some (.cells #[.int .u32 x] 24 (0, 0)))) :
    Calls Ybad.prog 12 #[.pointer p, .bool b, .int .u32 x] w fun e w' => e = .returned (.bool true) ∧ w' = w := by
  rcases h with ⟨_, rfl, rfl⟩ | ⟨_, rfl, pb, rfl, hp⟩
  · go_enter Ybad.func12, Ybad.ntmps12
    go_wp2_with fail
    go_ret
    exact ⟨rfl, rfl⟩
  · have c0 : w.cell? ⟨pb, 0, none⟩ = some (.int .u32 x) := by rw [cell_of_row _ _ _ _ _ _ hp]; rfl
    have hx : (x == x) = true := by simp
    clear hp
    go_enter Ybad.func12, Ybad.ntmps12
    go_wp2_with fail
    go_ret
    exact ⟨rfl, rfl⟩

end Go.Proofs.YbulkcjpcDoor
