/-
  (anyOf).match over the stand-in nodes.
-/
import Derived.Test.YbulkcjhaNode
namespace Go.Proofs.Ybulkcjha
open Go.RowKit

theorem method_match {n : String} {t : TypeId} (h : Yba.prog.underlying 34 = some (.interface #[(n, t)])) (a : Addr) (w : World) :
    (method 218 59 (.pointer (some a)) n).run Yba.prog w = .ok (29, .pointer (some a)) w := by
  rw [Yba.underlying34] at h
  cases h
  kernel_rfl

/-- The numbers 0 .. n-1, as cells. -/
def idxs (n : Nat) : List Value := (List.range n).map fun i => .int .i64 (i : Nat)
theorem idxs_succ (n : Nat) : idxs (n + 1) = idxs n ++ [.int .i64 (n : Nat)] := by simp [idxs, List.range_succ]
theorem idxs_at (n i : Nat) (h : i < n) : (idxs n)[i]? = some (.int .i64 (i : Nat)) := by simp [idxs, h]

/-- Every block of w but L whose element type is not int's is as it was. -/
def KeptT (L : Nat) (w w' : World) : Prop := ∀ b o t, t ≠ 3 → b ≠ L → w.heap[b]? = some (.cells o t (0, 0)) → w'.heap[b]? = some (.cells o t (0, 0))

theorem keptT_step {L : Nat} {w wr w' : World} {lv : Value} {base k : Nat} {xs : List Value} (hk : KeptT L w wr) (hown : wr.ownsRow base 3 1 lv k xs) (hs : Stays wr w' L lv.ownBlock) : KeptT L w w' := by
  intro b o t ht hb h
  have h1 := hk b o t ht hb h
  have hne : some b ≠ lv.ownBlock := by
    intro e
    rcases hown.2 with ⟨q1, _⟩ | ⟨g, cap', cur, q1, _, q3, _⟩
    · rw [q1] at e; simp [Value.ownBlock] at e
    · rw [q1] at e; simp [Value.ownBlock] at e; subst e; rw [h1] at q3; simp at q3; exact ht q3.2
  rw [hs.block b (lt_of_block h1) hb hne]; exact h1

theorem below_step {L B : Nat} {w wr w' : World} {lv : Value} {k : Nat} {xs : List Value} (hb : Below B w wr) (hB : B ≤ wr.heap.size) (hL : B ≤ L) (hown : wr.ownsRow B 3 1 lv k xs) (hs : Stays wr w' L lv.ownBlock) : Below B w w' :=
  hb.trans ⟨hs.os, hs.tape, hs.output, hs.size, fun b hb' => hs.block b (by omega) (by omega) (fun e => by have := (hown.lt b e.symm).1; omega)⟩

set_option maxRecDepth 100000 in
set_option maxHeartbeats 1600000 in
theorem anyMatch_any (g len m B B' L D : Nat) (bs : Nat → Bool) (pv : Option Addr) (xs : List Value) (w : World) (hlen : len ≤ 1024) (hm : m ≤ len) (hfalse : ∀ j, j < m → bs j = false) (htrue : m < len → bs m = true)
    (hxs : xs.length = len) (hown : w.ownsRow B' 35 1 (.slice (some ⟨g, 0, none⟩) len len) len xs) (hn : Nodes B' bs L D pv w xs)
    (hL : w.heap[L]? = some (.cells #[.slice none 0 0] 25 (0, 0))) (hBL : B ≤ L) :
    Calls Yba.prog 7 #[.slice (some ⟨g, 0, none⟩) len len, .pointer pv] w fun e w' => ∃ ao cap, e = .returned (.bool (decide (m < len))) ∧
      w'.heap[L]? = some (.cells #[.slice ao (min (m + 1) len) cap] 25 (0, 0)) ∧ w'.ownsRow B 3 1 (.slice ao (min (m + 1) len) cap) (min (m + 1) len) (idxs (min (m + 1) len)) ∧ KeptT L w w' ∧ Below B w w' := by
  have hmeth := method_match Yba.underlying34
  have hgb : ∃ cur, w.heap[g]? = some (.cells cur 35 (0, 0)) := by
    rcases hown.2 with ⟨q1, _⟩ | ⟨g', cap', cur, q1, _, q3, _⟩
    · simp at q1
    · simp at q1; obtain ⟨rfl, _⟩ := q1; exact ⟨cur, q3⟩
  obtain ⟨cur, hcur⟩ := hgb
  have hgL : g ≠ L := by rintro rfl; rw [hL] at hcur; simp at hcur
  have lL := lt_of_block hL
  have key : ∀ wr, KeptT L w wr → ∀ k, k < len → ∃ z, wr.cell? ⟨g, k, none⟩ = some (.iface 59 (.pointer (some ⟨z, 0, none⟩))) ∧ wr.heap[z]? = some (nodeObj (bs k) k L D pv) := by
    intro wr hkt k hk
    obtain ⟨z, h1, h2, h3⟩ := hn k (by omega)
    have hzL : z ≠ L := by rintro rfl; rw [hL] at h3; simp at h3
    refine ⟨z, ?_, hkt z _ 61 (by decide) hzL h3⟩
    have e1 := hkt g cur 35 (by decide) hgL hcur
    rw [World.cell?_of_block (w := w) (a := ⟨g, k, none⟩) (by rw [e1, hcur]), hown.cellAt k (by omega)]
    exact h1
  have KEY : Hid _ := key
  have HT : Hid _ := htrue
  have HF : Hid _ := hfalse
  clear key hown hn hcur hxs htrue hfalse
  go_enter Yba.func7, Yba.ntmps7
  go_wp2_with fail
  go_loopw [9] (fun i wr => ∃ (k cap : Nat) (ao : Option Addr), k ≤ m ∧ i = .int .i64 k ∧ wr.heap[L]? = some (.cells #[.slice ao k cap] 25 (0, 0)) ∧ wr.ownsRow B 3 1 (.slice ao k cap) k (idxs k) ∧ KeptT L w wr ∧ Below B w wr)
    (fun i _ => len - (intOf i).toNat)
  case atStart => exact ⟨0, 0, none, Nat.zero_le _, rfl, hL, World.ownsRow_nil _ _ _ _, fun b o t _ _ h => h, Below.refl _ _⟩
  case round =>
    obtain ⟨k, cap, ao, hk, rfl, hLr, hownr, hkt, hbel⟩ := hrel
    clear hL
    have hsz := hbel.size
    have HLR : Hid _ := hLr
    clear hLr
    by_cases hlt : k < len
    · obtain ⟨z, hz1, hz2⟩ := KEY.out wr hkt k hlt
      have HZ : Hid _ := hz2
      clear hz2
      go_wp2_with fail
      refine (match_any z L D (bs k) k pv ao k cap B (idxs k) wr HZ.out HLR.out hownr (by omega) (by omega)).mono ?_
      rintro e w' ⟨g', cap', rfl, h1, h2, h3⟩
      have hb' := below_step hbel (by omega) hBL hownr h3
      have hkt' := keptT_step hkt hownr h3
      have H1 : Hid _ := h1
      rw [← idxs_succ] at h2
      clear h1 h3 hz1 hownr hbel hkt HLR HZ
      by_cases hkm : k < m
      · have hf := HF.out k hkm
        rw [hf]
        go_wp2_with fail
        go_roundw
        case rel => exact ⟨k + 1, cap', some ⟨g', 0, none⟩, by omega, by go_num, H1.out, h2, hkt', hb'⟩
        case measure => simp [intOf]; omega
      · have hkm' : k = m := by omega
        subst hkm'
        have ht := HT.out hlt
        rw [ht]
        go_wp2_with fail
        go_ret
        have hmin : min (k + 1) len = k + 1 := by omega
        rw [hmin]
        exact ⟨_, _, by simp [hlt], H1.out, h2, hkt', hb'⟩
    · have hkl : k = len := by omega
      subst hkl
      have hmk : m = k := by omega
      subst hmk
      go_wp2_with fail
      go_ret
      have hmin : min (m + 1) m = m := by omega
      rw [hmin]
      exact ⟨_, _, by simp, HLR.out, hownr, hkt, hbel⟩
end Go.Proofs.Ybulkcjha
