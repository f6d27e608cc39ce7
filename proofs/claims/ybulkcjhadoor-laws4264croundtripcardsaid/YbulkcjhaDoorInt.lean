/-
  (*JSONReader).Int.
-/
import Derived.Test.YbulkcjhaDoorNum
import Derived.Test.YbulkcjhaDoorShelf
import Derived.Test.YbulkcjhaDoorPlain
namespace Go.Proofs.YbulkcjhaDoor
open Go.RowKit

theorem But.bytesWorld {rb : Nat} {a b : World} (h : But rb a b) {w' : World} (hw : w' = b ∨ ∃ t, w' = Lib.bytesWorld b 5 t) : But rb a w' ∧ Below b.heap.size b w' := by
  rcases hw with rfl | ⟨t, rfl⟩
  · exact ⟨h, Below.refl _ _⟩
  · have := Lib.bytesWorld_below b 5 t
    exact ⟨h.trans ⟨this.os, this.tape, this.output, this.size, fun k hk _ => this.block k hk⟩, this⟩

/-- The text that the law builds. -/
def text (v : Int) (pre post : Nat) : List UInt8 := List.replicate pre 32 ++ Lib.itoa v ++ List.replicate post 10

theorem text_length (v : Int) (pre post : Nat) : (text v pre post).length = pre + (Lib.itoa v).length + post := by simp [text]; omega
theorem text_pre (v : Int) (pre post k : Nat) (h : k < pre) : at' (text v pre post) k = 32 := by
  have e : (text v pre post)[k]? = some 32 := by
    rw [text, List.append_assoc, List.getElem?_append_left (by simpa using h)]; simp [h]
  simp [at', List.getD, e]
theorem text_mid (v : Int) (pre post k : Nat) (h : k < (Lib.itoa v).length) : at' (text v pre post) (pre + k) = ((Lib.itoa v)[k].toNat : Int) := by
  have e : (text v pre post)[pre + k]? = some (Lib.itoa v)[k] := by
    rw [text, List.append_assoc, List.getElem?_append_right (by simp), List.getElem?_append_left (by simpa using h)]; simp [h]
  simp [at', List.getD, e]
theorem text_post (v : Int) (pre post k : Nat) (h1 : pre + (Lib.itoa v).length ≤ k) (h2 : k < (text v pre post).length) : at' (text v pre post) k = 10 := by
  have hl := text_length v pre post
  have e : (text v pre post)[k]? = some 10 := by
    rw [text, List.getElem?_append_right (by simpa using h1)]
    simp only [List.length_append, List.length_replicate]
    rw [List.getElem?_replicate, if_pos (by omega)]
  simp [at', List.getD, e]
theorem text_cut (v : Int) (pre post : Nat) : cut (text v pre post) pre (pre + (Lib.itoa v).length) = Lib.itoa v := by
  simp [cut, text]

theorem number_text (rb g cap : Nat) (v : Int) (pre post : Nat) (w : World) (h : Rdr rb g cap (text v pre post) 0 w) (hcap : (text v pre post).length ≤ cap) :
    Calls Ybad.prog 10 #[.pointer (some ⟨rb, 0, none⟩)] w fun e w' => e = .returned (.string ⟨(Lib.itoa v).toArray⟩) ∧ Rdr rb g cap (text v pre post) (pre + (Lib.itoa v).length) w' ∧ But rb w w' := by
  have hl := text_length v pre post
  have hws : ∀ k, 0 ≤ k → k < pre → isWs (at' (text v pre post) k) := fun k _ hk => Or.inl (text_pre v pre post k hk)
  have hst : pre + (Lib.itoa v).length < (text v pre post).length → at' (text v pre post) (pre + (Lib.itoa v).length) = 10 := fun hh => text_post v pre post _ (Nat.le_refl _) hh
  by_cases hv : v < 0
  · obtain ⟨u, rfl⟩ : ∃ u : Nat, v = -(u : Int) := ⟨v.natAbs, by omega⟩
    have hi : Lib.itoa (-(u : Int)) = 45 :: Lib.decDigits u := Lib.itoa_neg u (by omega)
    have hil : (Lib.itoa (-(u : Int))).length = (Lib.decDigits u).length + 1 := by rw [hi]; rfl
    have hdl : 0 < (Lib.decDigits u).length := List.length_pos_iff.2 (dec_ne u)
    have h45 : at' (text (-(u : Int)) pre post) pre = 45 := by
      have := text_mid (-(u : Int)) pre post 0 (by omega)
      simp only [Nat.add_zero] at this
      rw [this]; simp [hi]
    have hdig : ∀ j, j < (Lib.decDigits u).length → ∃ c, c ∈ Lib.decDigits u ∧ (Lib.decDigits u)[j]? = some c ∧ at' (text (-(u : Int)) pre post) (pre + 1 + j) = (c.toNat : Int) := fun j hj => by
      have := text_mid (-(u : Int)) pre post (1 + j) (by omega)
      refine ⟨(Lib.decDigits u)[j], List.getElem_mem hj, List.getElem?_eq_getElem hj, ?_⟩
      rw [Nat.add_assoc, this]
      simp [hi, Nat.add_comm 1 j]
    refine (number_neg rb g cap _ 0 pre (pre + (Lib.itoa (-(u : Int))).length) w h hcap (Nat.zero_le _) (by omega) hws (by rw [h45]; unfold isWs; omega) h45 (by omega) (by omega) (fun k hk1 hk2 => ?_) (fun hz => ?_) hst).mono ?_
    · obtain ⟨c, h1, _, h3⟩ := hdig (k - (pre + 1)) (by omega)
      rw [show pre + 1 + (k - (pre + 1)) = k by omega] at h3
      have := dec_digits u c h1
      omega
    · obtain ⟨c, h1, h2, h3⟩ := hdig 0 hdl
      simp only [Nat.add_zero] at h3
      cases hd : Lib.decDigits u with
      | nil => exact absurd hd (dec_ne u)
      | cons c' r =>
        rw [hd] at h2
        simp at h2
        subst h2
        exact absurd (show c'.toNat = 48 by omega) (dec_head u (by omega) c' r hd)
    · rintro e w' ⟨rfl, h2, h3⟩
      exact ⟨by rw [text_cut], h2, h3⟩
  · obtain ⟨u, rfl⟩ : ∃ u : Nat, v = (u : Int) := ⟨v.toNat, by omega⟩
    have hi : Lib.itoa (u : Int) = Lib.decDigits u := Lib.itoa_nonneg u
    have hil : (Lib.itoa (u : Int)).length = (Lib.decDigits u).length := by rw [hi]
    have hdl : 0 < (Lib.decDigits u).length := List.length_pos_iff.2 (dec_ne u)
    have hdig : ∀ j, j < (Lib.decDigits u).length → ∃ c, c ∈ Lib.decDigits u ∧ (Lib.decDigits u)[j]? = some c ∧ at' (text (u : Int) pre post) (pre + j) = (c.toNat : Int) := fun j hj => by
      have := text_mid (u : Int) pre post j (by omega)
      refine ⟨(Lib.decDigits u)[j], List.getElem_mem hj, List.getElem?_eq_getElem hj, ?_⟩
      rw [this]
      simp [hi]
    have hp : 48 ≤ at' (text (u : Int) pre post) pre ∧ at' (text (u : Int) pre post) pre ≤ 57 := by
      obtain ⟨c, h1, _, h3⟩ := hdig 0 hdl
      simp only [Nat.add_zero] at h3
      have := dec_digits u c h1
      omega
    refine (number_pos rb g cap _ 0 pre (pre + (Lib.itoa (u : Int)).length) w h hcap (Nat.zero_le _) (by omega) hws (by unfold isWs; omega) (by omega) (by omega) (by omega) (fun k hk1 hk2 => ?_) (fun hz => ?_) hst).mono ?_
    · obtain ⟨c, h1, _, h3⟩ := hdig (k - pre) (by omega)
      rw [show pre + (k - pre) = k by omega] at h3
      have := dec_digits u c h1
      omega
    · by_cases hu : u = 0
      · subst hu
        rw [hil, dec_zero]
        simp
      · obtain ⟨c, h1, h2, h3⟩ := hdig 0 hdl
        simp only [Nat.add_zero] at h3
        cases hd : Lib.decDigits u with
        | nil => exact absurd hd (dec_ne u)
        | cons c' r =>
          rw [hd] at h2
          simp at h2
          subst h2
          exact absurd (show c'.toNat = 48 by omega) (dec_head u hu c' r hd)
    · rintro e w' ⟨rfl, h2, h3⟩
      exact ⟨by rw [text_cut], h2, h3⟩

set_option maxRecDepth 100000 in
set_option maxHeartbeats 800000 in
theorem int_any (rb g cap : Nat) (v : Int) (pre post : Nat) (w : World) (h : Rdr rb g cap (text v pre post) 0 w) (hcap : (text v pre post).length ≤ cap) (h0 : -9223372036854775808 ≤ v) (h1 : v ≤ 9223372036854775807) :
    Calls Ybad.prog 6 #[.pointer (some ⟨rb, 0, none⟩)] w fun e w' => ∃ nb, e = .returned (.pointer (some ⟨nb, 0, none⟩)) ∧ w'.cell? ⟨nb, 0, none⟩ = some (.int .i64 v) ∧
      Rdr rb g cap (text v pre post) (pre + (Lib.itoa v).length) w' ∧ But rb w w' := by
  have hil := Lib.itoa_length_le v h0 h1
  have lrb := h.lt
  have HR : Hid _ := h
  have HI : Hid _ := hil
  clear h hil
  go_enter Ybad.func6, Ybad.ntmps6
  go_wp2_with fail
  refine (number_text rb g cap v pre post w HR.out hcap).mono ?_
  rintro e w1 ⟨rfl, hr1, hb1⟩
  go_wp2_with fail
  refine (Ybad.strconv_ParseInt_10_at64_ok ⟨(Lib.itoa v).toArray⟩ (by have := HI.out; simp [ByteArray.size]; omega) v (by simpa using parse_itoa v h0 h1) w1).mono ?_
  rintro e w2 ⟨rfl, hw2⟩
  obtain ⟨hb2, hbl⟩ := hb1.bytesWorld hw2
  have hil := HI.out
  have hlen := hr1.len
  have hr2 : Rdr rb g cap (text v pre post) (pre + (Lib.itoa v).length) w2 := by
    have lg : g < w1.heap.size ∨ (text v pre post).length = 0 := by
      by_cases hz : (text v pre post).length = 0
      · exact Or.inr hz
      · exact Or.inl (World.block_lt_of_cell? w1 _ (hr1.row 0 (by omega)))
    rcases lg with lg | lz
    · exact hr1.but (hbl.block rb hr1.lt) (hbl.block g lg)
    · exact ⟨(hbl.block rb hr1.lt).trans hr1.hd, fun j hj => by omega, hr1.ne, hr1.len, hr1.le⟩
  clear hw2 hbl hr1 hb1 hil hlen
  go_wp2_with fail
  go_ret
  refine ⟨_, rfl, ?_, ?_, hb2.alloc _⟩
  · rw [cell_of_row _ _ _ _ _ _ (heap_alloc_new w2 _)]; rfl
  · have lg : g < w2.heap.size ∨ (text v pre post).length = 0 := by
      by_cases hz : (text v pre post).length = 0
      · exact Or.inr hz
      · exact Or.inl (World.block_lt_of_cell? w2 _ (hr2.row 0 (by omega)))
    rcases lg with lg | lz
    · exact hr2.but (Below.heap_alloc _ _ _ hr2.lt) (Below.heap_alloc _ _ _ lg)
    · exact ⟨(Below.heap_alloc _ _ _ hr2.lt).trans hr2.hd, fun j hj => by omega, hr2.ne, hr2.len, hr2.le⟩

end Go.Proofs.YbulkcjhaDoor
