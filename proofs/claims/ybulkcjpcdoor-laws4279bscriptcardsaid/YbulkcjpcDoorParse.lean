/-
  parseQoS.
-/
import Derived.Test.YbulkcjpcDoorPrio
namespace Go.Proofs.YbulkcjpcDoor
open Go.RowKit
set_option maxRecDepth 100000

def isD (k : Int) (i : It) : Bool := decide (i.c = k) && decide (i.v = 10415)
abbrev Q5 : Type := Option Int × Option Int × Option Int × Option Int × Int
def qrun : List It → Option Int → Option Int → Option Int → Option Int → Q5
  | [], a, b, c, d => (a, b, c, d, 0)
  | i :: r, a, b, c, d =>
    if isD 1028 i then (if (u32of i.d).2 = 0 then qrun r (some (u32of i.d).1) b c d else (some (u32of i.d).1, b, c, d, (u32of i.d).2))
    else if isD 515 i then (if (u32of i.d).2 = 0 then qrun r a (some (u32of i.d).1) c d else (a, some (u32of i.d).1, c, d, (u32of i.d).2))
    else if isD 1025 i then (if (u32of i.d).2 = 0 then qrun r a b (some (u32of i.d).1) d else (a, b, some (u32of i.d).1, d, (u32of i.d).2))
    else if isD 1034 i then (if (prio i.d).2 = 0 then qrun r a b c (prio i.d).1 else (a, b, c, (prio i.d).1, (prio i.d).2))
    else qrun r a b c d
def parse (bs : List UInt8) : Q5 :=
  if (dec bs).2 = false then (none, none, none, none, 5014)
  else if allOk qosDs (dec bs).1 = false then (none, none, none, none, 5001)
  else qrun (dec bs).1 none none none none

/-- Of what was there only block qb may have turned. -/
structure But (qb : Nat) (w w' : World) : Prop where
  os : w'.os = w.os
  tape : w'.tape = w.tape
  output : w'.output = w.output
  size : w.heap.size ≤ w'.heap.size
  block : ∀ b, b < w.heap.size → b ≠ qb → w'.heap[b]? = w.heap[b]?
theorem But.refl (qb : Nat) (w : World) : But qb w w := ⟨rfl, rfl, rfl, Nat.le_refl _, fun _ _ _ => rfl⟩
theorem But.step {qb : Nat} {a b c : World} (h : But qb a b) (k : Below b.heap.size b c) : But qb a c :=
  ⟨k.os.trans h.os, k.tape.trans h.tape, k.output.trans h.output, Nat.le_trans h.size k.size, fun i hi hn => (k.block i (Nat.lt_of_lt_of_le hi h.size)).trans (h.block i hi hn)⟩
theorem But.setCell {qb : Nat} {a b : World} (h : But qb a b) (o : Nat) (u : Value) : But qb a (b.setCell ⟨qb, o, none⟩ u) :=
  ⟨h.os, h.tape, h.output, by simp [World.setCell]; exact h.size, fun i hi hn => (Below.heap_setCell _ _ _ _ hn).trans (h.block i hi hn)⟩
theorem But.below {qb B : Nat} {w a b : World} (h : But qb a b) (hb : Below B w a) (hB : B ≤ qb) (hs : B ≤ a.heap.size) : Below B w b :=
  hb.trans ⟨h.os, h.tape, h.output, h.size, fun k hk => h.block k (by omega) (by omega)⟩

abbrev zq : Obj := .cells #[.pointer none, .pointer none, .pointer none, .pointer none] 38
structure QS (qb : Nat) (wM wr : World) (p0 p1 p2 p3 : Option Addr) (a b c d : Option Int) : Prop where
  hq : wr.heap[qb]? = some (.cells #[.pointer p0, .pointer p1, .pointer p2, .pointer p3] 38 (0, 0))
  i0 : PtrIs wr (.pointer p0) a
  i1 : PtrIs wr (.pointer p1) b
  i2 : PtrIs wr (.pointer p2) c
  i3 : PtrIs wr (.pointer p3) d
  but : But qb wM wr
theorem QS.step {qb : Nat} {wM wr w' : World} {p0 p1 p2 p3 : Option Addr} {a b c d : Option Int} (h : QS qb wM wr p0 p1 p2 p3 a b c d) (k : Below wr.heap.size wr w') : QS qb wM w' p0 p1 p2 p3 a b c d :=
  ⟨(k.block _ (lt_of_block h.hq)).trans h.hq, h.i0.below k, h.i1.below k, h.i2.below k, h.i3.below k, h.but.step k⟩
theorem PtrIs.set {w : World} {v : Value} {o : Option Int} {qb : Nat} {cs : Array Value} (h : PtrIs w v o) (hq : w.heap[qb]? = some (.cells cs 38 (0, 0))) (q : Nat) (u : Value) : PtrIs (w.setCell ⟨qb, q, none⟩ u) v o := by
  cases o with
  | none => exact h
  | some x =>
    obtain ⟨b, h1, h2⟩ := h
    refine ⟨b, h1, (Below.heap_setCell _ _ _ _ (fun e => ?_)).trans h2⟩
    rw [show b = qb from e, hq] at h2
    simp at h2
theorem QS.set0 {qb : Nat} {wM wr : World} {p0 p1 p2 p3 p : Option Addr} {a b c d x : Option Int} (h : QS qb wM wr p0 p1 p2 p3 a b c d) (hx : PtrIs wr (.pointer p) x) : QS qb wM (wr.setCell ⟨qb, 0, none⟩ (.pointer p)) p p1 p2 p3 x b c d :=
  ⟨by rw [heap_setCell_same _ _ _ _ _ _ h.hq]; rfl, hx.set h.hq _ _, h.i1.set h.hq _ _, h.i2.set h.hq _ _, h.i3.set h.hq _ _, h.but.setCell _ _⟩
theorem QS.set1 {qb : Nat} {wM wr : World} {p0 p1 p2 p3 p : Option Addr} {a b c d x : Option Int} (h : QS qb wM wr p0 p1 p2 p3 a b c d) (hx : PtrIs wr (.pointer p) x) : QS qb wM (wr.setCell ⟨qb, 1, none⟩ (.pointer p)) p0 p p2 p3 a x c d :=
  ⟨by rw [heap_setCell_same _ _ _ _ _ _ h.hq]; rfl, h.i0.set h.hq _ _, hx.set h.hq _ _, h.i2.set h.hq _ _, h.i3.set h.hq _ _, h.but.setCell _ _⟩
theorem QS.set2 {qb : Nat} {wM wr : World} {p0 p1 p2 p3 p : Option Addr} {a b c d x : Option Int} (h : QS qb wM wr p0 p1 p2 p3 a b c d) (hx : PtrIs wr (.pointer p) x) : QS qb wM (wr.setCell ⟨qb, 2, none⟩ (.pointer p)) p0 p1 p p3 a b x d :=
  ⟨by rw [heap_setCell_same _ _ _ _ _ _ h.hq]; rfl, h.i0.set h.hq _ _, h.i1.set h.hq _ _, hx.set h.hq _ _, h.i3.set h.hq _ _, h.but.setCell _ _⟩
theorem QS.set3 {qb : Nat} {wM wr : World} {p0 p1 p2 p3 p : Option Addr} {a b c d x : Option Int} (h : QS qb wM wr p0 p1 p2 p3 a b c d) (hx : PtrIs wr (.pointer p) x) : QS qb wM (wr.setCell ⟨qb, 3, none⟩ (.pointer p)) p0 p1 p2 p a b c x :=
  ⟨by rw [heap_setCell_same _ _ _ _ _ _ h.hq]; rfl, h.i0.set h.hq _ _, h.i1.set h.hq _ _, h.i2.set h.hq _ _, hx.set h.hq _ _, h.but.setCell _ _⟩
theorem QS.cells {qb : Nat} {wM wr : World} {p0 p1 p2 p3 : Option Addr} {a b c d : Option Int} (h : QS qb wM wr p0 p1 p2 p3 a b c d) {rb : Nat} (hr : wM.heap[rb]? = some zq) (hne : rb ≠ qb) :
    wr.cell? ⟨qb, 0, none⟩ = some (.pointer p0) ∧ wr.cell? ⟨qb, 1, none⟩ = some (.pointer p1) ∧ wr.cell? ⟨qb, 2, none⟩ = some (.pointer p2) ∧ wr.cell? ⟨qb, 3, none⟩ = some (.pointer p3) ∧
    wr.frozen? ⟨qb, 0, none⟩ = false ∧ wr.frozen? ⟨qb, 1, none⟩ = false ∧ wr.frozen? ⟨qb, 2, none⟩ = false ∧ wr.frozen? ⟨qb, 3, none⟩ = false ∧
    wr.cell? ⟨rb, 0, none⟩ = some (.pointer none) ∧ wr.cell? ⟨rb, 1, none⟩ = some (.pointer none) ∧ wr.cell? ⟨rb, 2, none⟩ = some (.pointer none) ∧ wr.cell? ⟨rb, 3, none⟩ = some (.pointer none) ∧
    wr.frozen? ⟨rb, 0, none⟩ = false ∧ wr.frozen? ⟨rb, 1, none⟩ = false ∧ wr.frozen? ⟨rb, 2, none⟩ = false ∧ wr.frozen? ⟨rb, 3, none⟩ = false := by
  have hr2 := (h.but.block rb (lt_of_block hr) hne).trans hr
  refine ⟨?_, ?_, ?_, ?_, frozen_of_row _ _ _ _ _ h.hq, frozen_of_row _ _ _ _ _ h.hq, frozen_of_row _ _ _ _ _ h.hq, frozen_of_row _ _ _ _ _ h.hq, ?_, ?_, ?_, ?_, frozen_of_row _ _ _ _ _ hr2, frozen_of_row _ _ _ _ _ hr2, frozen_of_row _ _ _ _ _ hr2, frozen_of_row _ _ _ _ _ hr2⟩
  iterate 4 (rw [cell_of_row _ _ _ _ _ _ h.hq]; rfl)
  iterate 4 (rw [cell_of_row _ _ _ _ _ _ hr2]; rfl)
theorem Bytes.but {w w' : World} {p : Option Addr} {n k qb : Nat} {bs : List UInt8} {p0 p1 p2 p3 : Option Addr} (h : Bytes w p n k bs) (hq : w.heap[qb]? = some (.cells #[.pointer p0, .pointer p1, .pointer p2, .pointer p3] 38 (0, 0))) (hb : But qb w w') : Bytes w' p n k bs := by
  refine ⟨h.len, h.cap, h.big, ?_⟩
  rcases h.lies with hn | ⟨g, o, rfl, hc⟩
  · exact .inl hn
  · refine .inr ⟨g, o, rfl, fun j hj => (World.cell?_of_block (hb.block g (World.block_lt_of_cell? w _ (hc j hj)) (fun e => ?_))).trans (hc j hj)⟩
    have h1 := hc j hj
    rw [e, cell_of_row _ _ _ _ _ _ hq] at h1
    match hk : o + j, h1 with
    | 0, h1 => simp at h1
    | 1, h1 => simp at h1
    | 2, h1 => simp at h1
    | 3, h1 => simp at h1
    | m + 4, h1 => simp at h1

def QRes (w w' : World) (e : Ending) (r : Q5) : Prop := ∃ p0 p1 p2 p3 er, e = .returned (.tuple #[.agg #[.pointer p0, .pointer p1, .pointer p2, .pointer p3], er]) ∧ Below w.heap.size w w' ∧
  PtrIs w' (.pointer p0) r.1 ∧ PtrIs w' (.pointer p1) r.2.1 ∧ PtrIs w' (.pointer p2) r.2.2.1 ∧ PtrIs w' (.pointer p3) r.2.2.2.1 ∧ ErrOr w' er r.2.2.2.2
theorem Ybad.size38 : (Ybad.prog.info? 38).map (·.size) = some 4 := by kernel_rfl

/-- The end of parseQoS: the answer is laid in the result's own block. -/
theorem QS.done {qb rb : Nat} {w wM wr : World} {p0 p1 p2 p3 : Option Addr} {a b c d : Option Int} {er : Value} {code : Int} (h : QS qb wM wr p0 p1 p2 p3 a b c d) (hr : wM.heap[rb]? = some zq) (hne : rb ≠ qb) (her : ErrOr wr er code) (hM : Below w.heap.size w wM) (hB : w.heap.size ≤ rb) (hB2 : w.heap.size ≤ qb) (r : Q5) (hr5 : r = (a, b, c, d, code)) :
    ((((wr.setCell ⟨rb, 0, none⟩ (.pointer p0)).setCell ⟨rb, 1, none⟩ (.pointer p1)).setCell ⟨rb, 2, none⟩ (.pointer p2)).setCell ⟨rb, 3, none⟩ (.pointer p3)).rangeAt rb 0 [.pointer p0, .pointer p1, .pointer p2, .pointer p3] ∧
    QRes w ((((wr.setCell ⟨rb, 0, none⟩ (.pointer p0)).setCell ⟨rb, 1, none⟩ (.pointer p1)).setCell ⟨rb, 2, none⟩ (.pointer p2)).setCell ⟨rb, 3, none⟩ (.pointer p3)) (.returned (.tuple #[.agg #[.pointer p0, .pointer p1, .pointer p2, .pointer p3], er])) r := by
  have hr0 := (h.but.block rb (lt_of_block hr) hne).trans hr
  subst hr5
  have hr1 := heap_setCell_same wr rb 0 _ _ (.pointer p0) hr0
  have hr2 := heap_setCell_same _ rb 1 _ _ (.pointer p1) hr1
  have hr3 := heap_setCell_same _ rb 2 _ _ (.pointer p2) hr2
  refine ⟨range_of_row (set4 hr0), p0, p1, p2, p3, er, rfl, ?_, ?_, ?_, ?_, ?_, ?_⟩
  · have hb := h.but.below hM hB2 hM.size
    exact (((hb.setCell hB _).setCell hB _).setCell hB _).setCell hB _
  iterate 4 (first | exact (((h.i0.set hr0 _ _).set hr1 _ _).set hr2 _ _).set hr3 _ _ | exact (((h.i1.set hr0 _ _).set hr1 _ _).set hr2 _ _).set hr3 _ _ | exact (((h.i2.set hr0 _ _).set hr1 _ _).set hr2 _ _).set hr3 _ _ | exact (((h.i3.set hr0 _ _).set hr1 _ _).set hr2 _ _).set hr3 _ _)
  rcases her with her | ⟨hc, eb, s, rfl, heb⟩
  · exact .inl her
  · refine .inr ⟨hc, eb, s, rfl, ?_⟩
    have hne2 : eb ≠ rb := fun e => by rw [e, hr0] at heb; simp at heb
    rw [Below.heap_setCell _ _ _ _ hne2, Below.heap_setCell _ _ _ _ hne2, Below.heap_setCell _ _ _ _ hne2, Below.heap_setCell _ _ _ _ hne2]
    exact heb
theorem drop_at (its : List It) (j : Nat) (i : It) (h : its[j]? = some i) : its.drop j = i :: its.drop (j + 1) := by
  obtain ⟨hj, rfl⟩ := List.getElem?_eq_some_iff.1 h
  exact List.drop_eq_getElem_cons hj

theorem dec_dlen (bs : List UInt8) : ∀ i, i ∈ (dec bs).1 → i.d.length ≤ bs.length := by
  induction hn : bs.length using Nat.strongRecOn generalizing bs with
  | ind n ih =>
    intro i hi
    rw [dec] at hi
    split at hi
    · simp at hi
    · rename_i h1
      split at hi
      · simp at hi
      · rename_i h2
        have h0 : 0 < bs.length := List.length_pos_iff.2 h1
        have h8 : 8 ≤ hdr bs := by unfold hdr; split <;> omega
        have hm : 0 < min (padded (lenOf bs)) bs.length := by unfold padded; omega
        simp only [List.mem_cons] at hi
        rcases hi with rfl | hi
        · simp only [itOf, List.length_drop, List.length_take]; omega
        · have := ih (bs.drop (min (padded (lenOf bs)) bs.length)).length (by rw [List.length_drop]; omega) _ rfl i hi
          rw [List.length_drop] at this
          omega

set_option maxHeartbeats 16000000 in
theorem parse_any (c f v : Int) (p : Option Addr) (n k : Nat) (bs : List UInt8) (w : World) (hd : Bytes w p n k bs) (hn : n ≤ 1000000) (hg : Glob w) :
    Calls Ybad.prog 10 #[av c f v p n k] w fun e w' => QRes w w' e (parse bs) := by
  have HB : Hid (Bytes w p n k bs) := hd
  have HG : Hid (Glob w) := hg
  have hb0 : Below w.heap.size w (((w.alloc (.cells #[.int .u32 c, .int .u8 f, .int .u32 v, .slice p n k] 32)).alloc zq).alloc zq) := (((Below.refl _ w).alloc (Nat.le_refl _) _).alloc (by simp) _).alloc (by simp; omega) _
  have G0 := hg.below hb0
  obtain ⟨qg, qo, qk, q0, hqd⟩ := G0.q
  have HQD : Hid (Defs (((w.alloc (.cells #[.int .u32 c, .int .u8 f, .int .u32 v, .slice p n k] 32)).alloc zq).alloc zq) qg qo qosDs) := hqd
  clear hd hg G0 hqd
  go_enter Ybad.func10, Ybad.ntmps10
  go_wp2_with fail
  refine (members_any c f v p n k bs qg qo 16 qk qosDs _ (HB.out.below hb0) hn rfl (by omega) HQD.out).mono ?_
  rintro e wM ⟨sl, er, rfl, hb, hcase⟩
  have hbM : Below w.heap.size w wM := hb0.trans (hb.mono (by simp; omega))
  have hsM := hbM.size
  have hrb : wM.heap[w.heap.size + 1]? = some zq := (hb.block _ (by simp)).trans ((Below.heap_alloc _ _ _ (by simp)).trans (heap_new2 w _ _))
  have hqb : wM.heap[w.heap.size + 1 + 1]? = some zq := (hb.block _ (by simp)).trans (heap_new3 w _ _ _)
  have QS0 : QS (w.heap.size + 1 + 1) wM wM none none none none none none none none := ⟨hqb, rfl, rfl, rfl, rfl, But.refl _ _⟩
  have HRB : Hid (wM.heap[w.heap.size + 1]? = some zq) := hrb
  have HQB : Hid (wM.heap[w.heap.size + 1 + 1]? = some zq) := hqb
  have HQ0 : Hid (QS (w.heap.size + 1 + 1) wM wM none none none none none none none none) := QS0
  clear hb q0 hrb hqb QS0
  rcases hcase with ⟨hok, hall, rfl, avs, hown, hfit, hlen⟩ | hcase
  · have HPA : Hid (parse bs = qrun (dec bs).1 none none none none) := by show parse bs = _; rw [parse, if_neg (by rw [hok]; decide), if_neg (by rw [hall]; decide)]
    obtain ⟨pl, ql, kl, hsv, hql⟩ : ∃ pl ql kl, sl = .slice pl ql kl ∧ ql = avs.length := by
      rcases hown.2 with ⟨h, h2⟩ | ⟨g, cap, cur, h, _⟩
      · exact ⟨_, _, _, h, h2.symm⟩
      · exact ⟨_, _, _, h, rfl⟩
    subst hsv hql
    have HIL : Hid (avs.length = (dec bs).1.length) := hfit.length
    have HS : Hid (wM.ownsRow w.heap.size 32 4 (.slice pl avs.length kl) avs.length (avs.flatMap Av.cells)) := own_base hown (by simp; omega)
    have HDL : Hid (∀ i, i ∈ (dec bs).1 → i.d.length ≤ 1000000) := fun i hi => Nat.le_trans (dec_dlen bs i hi) (by rw [HB.out.len]; exact hn)
    have HF : Hid (All2 (Fits wM) avs (dec bs).1) := hfit
    generalize (dec bs).1 = its at *
    clear hok hall hown hfit hb0
    go_wp2_with fail
    go_loopw [6, 17] (fun er i wr => ∃ (j : Nat) (p0 p1 p2 p3 : Option Addr) (a b c d : Option Int), i = .int .i64 j ∧ er = .nilIface ∧ j ≤ avs.length ∧ QS (w.heap.size + 1 + 1) wM wr p0 p1 p2 p3 a b c d ∧ qrun its none none none none = qrun (its.drop j) a b c d) (fun _ i _ => avs.length - (intOf i).toNat)
    case atStart => exact ⟨0, none, none, none, none, none, none, none, none, rfl, rfl, Nat.zero_le _, HQ0.out, rfl⟩
    case round =>
      obtain ⟨j, p0, p1, p2, p3, qa, qb, qc, qd, rfl, rfl, hj, hqs, hrun⟩ := hrel
      have HR : Hid (qrun its none none none none = qrun (its.drop j) qa qb qc qd) := hrun
      have HQ : Hid (QS (w.heap.size + 1 + 1) wM wr p0 p1 p2 p3 qa qb qc qd) := hqs
      clear hrun hqs
      by_cases hlt : j < avs.length
      · have hlt' : (j : Int) < (avs.length : Int) := by omega
        obtain ⟨a, i, ha, hii, hf⟩ := HF.out.get j hlt
        obtain ⟨ag, hp⟩ : ∃ ag, pl = some ⟨ag, 0, none⟩ := by
          rcases HS.out.2 with ⟨h, h2⟩ | ⟨g, cap, cur, h, _⟩
          · omega
          · cases h; exact ⟨g, rfl⟩
        subst hp
        obtain ⟨c0, c1, c2, c3⟩ := row_cell HS.out j a ha
        have hne : ag ≠ w.heap.size + 1 + 1 := by
          rcases HS.out.2 with ⟨h, h2⟩ | ⟨g, cap, cur, h, _, h3, _⟩
          · omega
          · cases h
            intro e
            rw [e, HQB.out] at h3
            simp at h3
        have hag := HQ.out.but.block ag (World.block_lt_of_cell? wM _ c0) hne
        have d0 := (World.cell?_of_block (a := ⟨ag, j * 4, none⟩) hag).trans c0
        have d1 := (World.cell?_of_block (a := ⟨ag, j * 4 + 1, none⟩) hag).trans c1
        have d2 := (World.cell?_of_block (a := ⟨ag, j * 4 + 2, none⟩) hag).trans c2
        have d3 := (World.cell?_of_block (a := ⟨ag, j * 4 + 3, none⟩) hag).trans c3
        obtain ⟨ac, af, av', ap, an, ak⟩ := a
        obtain ⟨hc, hff, hvv, -, -, -, hby⟩ := hf
        simp only at hc hff hvv d0 d1 d2 d3 hby
        have HC : Hid (ac = i.c ∧ av' = i.v) := ⟨hc, hvv⟩
        have HBY : Hid (Bytes wr ap an ak i.d) := hby.but HQB.out HQ.out.but
        have hbr := HQ.out.but.below hbM (by omega) hsM
        have han : an ≤ 1000000 := by rw [← hby.len]; exact HDL.out i (List.mem_of_getElem? hii)
        have HR2 : Hid (qrun its none none none none = qrun (i :: its.drop (j + 1)) qa qb qc qd) := by show _ = _; rw [HR.out, drop_at its j i hii]
        have hb1 : Below wr.heap.size wr (wr.alloc (.cells #[.int .u32 ac, .int .u8 af, .int .u32 av', .slice ap an ak] 32)) := (Below.refl _ _).alloc (Nat.le_refl _) _
        have G1 := HG.out.below (hbr.trans (hb1.mono hbr.size))
        have x0 := G1.g1.c0; have x1 := G1.g1.c1; have x2 := G1.g1.c2
        have hsr := hbr.size
        clear c0 c1 c2 c3 ha hii hc hff hvv hby hag hne G1 HR
        go_wp2_with fail
        refine (is_any ac af av' ap an ak 1028 10415 true _).mono ?_
        rintro e y1 ⟨rfl, hy1⟩
        have hb1' : Below wr.heap.size wr y1 := hb1.trans (hy1.mono hb1.size)
        have T1 := (hy1.block wr.heap.size (by simp)).trans (heap_alloc_new wr _)
        have s01 : y1.cell? ⟨wr.heap.size, 0, none⟩ = some (.int .u32 ac) := by rw [cell_of_row _ _ _ _ _ _ T1]; rfl
        have s11 : y1.cell? ⟨wr.heap.size, 1, none⟩ = some (.int .u8 af) := by rw [cell_of_row _ _ _ _ _ _ T1]; rfl
        have s21 : y1.cell? ⟨wr.heap.size, 2, none⟩ = some (.int .u32 av') := by rw [cell_of_row _ _ _ _ _ _ T1]; rfl
        have s31 : y1.cell? ⟨wr.heap.size, 3, none⟩ = some (.slice ap an ak) := by rw [cell_of_row _ _ _ _ _ _ T1]; rfl
        have hb2 := hb1'
        clear x0 x1 x2 hy1 d0 d1 d2 d3
        cases hh1 : (decide (ac = 1028) && decide (av' = 10415)) with
        | true =>
          have HI1 : Hid (isD 1028 i = true) := by have h := HC.out; show isD 1028 i = true; rw [isD, ← h.1, ← h.2]; exact hh1
          go_wp2_with fail
          refine (u32_any ac af av' ap an ak i.d _ (HBY.out.below hb2)).mono ?_
          rintro e z1 ⟨er, rfl, hz1, her⟩
          have hbz : Below wr.heap.size wr z1 := hb2.trans (hz1.mono hb2.size)
          generalize hX : (u32of i.d).1 = X at *
          generalize hE : (u32of i.d).2 = E at *
          have HXE : Hid ((u32of i.d).1 = X ∧ (u32of i.d).2 = E) := ⟨hX, hE⟩
          have HER : Hid (ErrOr z1 er E) := her
          clear her hz1 hX hE s01 s11 s21 s31 T1
          go_wp2_with fail
          refine (some_any X er z1).mono ?_
          rintro e z2 ⟨rfl, rfl⟩
          have hbz2 : Below z1.heap.size z1 (z1.alloc (.cells #[.int .u32 X] 24)) := (Below.refl _ _).alloc (Nat.le_refl _) _
          have QZ := (HQ.out.step hbz).step hbz2
          have HPN : Hid (PtrIs (z1.alloc (.cells #[.int .u32 X] 24)) (.pointer (some ⟨z1.heap.size, 0, none⟩)) (some X)) := ⟨_, rfl, heap_alloc_new z1 _⟩
          have HE2 : Hid (ErrOr (z1.alloc (.cells #[.int .u32 X] 24)) er E) := HER.out.below hbz2
          obtain ⟨m0, m1, m2, m3, n0, n1, n2, n3, r0, r1, r2, r3, f0, f1, f2, f3⟩ := QZ.cells HRB.out (by omega)
          have QZ2 := QZ.set0 HPN.out
          have HQZ2 : Hid (QS (w.heap.size + 1 + 1) wM ((z1.alloc (.cells #[.int .u32 X] 24)).setCell ⟨w.heap.size + 1 + 1, 0, none⟩ (.pointer (some ⟨z1.heap.size, 0, none⟩))) (some ⟨z1.heap.size, 0, none⟩) p1 p2 p3 (some X) qb qc qd) := QZ2
          have HQH : Hid ((z1.alloc (.cells #[.int .u32 X] 24)).heap[w.heap.size + 1 + 1]? = some (.cells #[.pointer p0, .pointer p1, .pointer p2, .pointer p3] 38 (0, 0))) := QZ.hq
          clear QZ QZ2
          rcases HE2.out with ⟨he, rfl⟩ | ⟨he, eb, se, rfl, heb⟩
          · go_wp2_with fail
            go_roundw
            case rel =>
              refine ⟨j + 1, (some ⟨z1.heap.size, 0, none⟩), p1, p2, p3, (some X), qb, qc, qd, by go_num, rfl, by omega, HQZ2.out, ?_⟩
              rw [HR2.out, qrun, if_pos HI1.out, HXE.out.1, HXE.out.2]
              rw [if_pos he]
            case measure => simp [intOf]; omega
          · have HEB : Hid ((z1.alloc (.cells #[.int .u32 X] 24)).heap[eb]? = some (.cells #[.int .u32 E, .int .u32 0, se] 81 (0, 0))) := heb
            clear heb
            go_wp2_with fail
            have herr : ErrOr ((z1.alloc (.cells #[.int .u32 X] 24)).setCell ⟨w.heap.size + 1 + 1, 0, none⟩ (.pointer (some ⟨z1.heap.size, 0, none⟩))) (.iface 78 (.pointer (some ⟨eb, 0, none⟩))) E := by
              refine .inr ⟨he, eb, se, rfl, (Below.heap_setCell _ _ _ _ (fun e => ?_)).trans HEB.out⟩
              have h1 := HEB.out
              rw [show eb = w.heap.size + 1 + 1 from e, HQH.out] at h1
              simp at h1
            obtain ⟨k1, k2⟩ := HQZ2.out.done HRB.out (by omega) herr hbM (by omega) (by omega) (parse bs) (by
              rw [HPA.out]
              rw [HR2.out, qrun, if_pos HI1.out, HXE.out.1, HXE.out.2]
              rw [if_neg he])
            exact bodyPost_ret (results_cell2 Ybad.results10 _ _ (w.heap.size + 1) _ _ _ rfl rfl k1 Ybad.underlying38 rfl Ybad.size38) rfl k2
        | false =>
          have HN1 : Hid (isD 1028 i = false) := by have h := HC.out; show isD 1028 i = false; rw [isD, ← h.1, ← h.2]; exact hh1
          have G2 := HG.out.below (hbr.trans (hb2.mono hsr))
          have x0 := G2.g2.c0; have x1 := G2.g2.c1; have x2 := G2.g2.c2
          clear G2
          go_wp2_with fail
          refine (is_any ac af av' ap an ak 515 10415 true _).mono ?_
          rintro e y2 ⟨rfl, hy2⟩
          have hb2' : Below wr.heap.size wr y2 := hb2.trans (hy2.mono hb2.size)
          have T2 := (hy2.block wr.heap.size (lt_of_block T1)).trans T1
          have s02 : y2.cell? ⟨wr.heap.size, 0, none⟩ = some (.int .u32 ac) := by rw [cell_of_row _ _ _ _ _ _ T2]; rfl
          have s12 : y2.cell? ⟨wr.heap.size, 1, none⟩ = some (.int .u8 af) := by rw [cell_of_row _ _ _ _ _ _ T2]; rfl
          have s22 : y2.cell? ⟨wr.heap.size, 2, none⟩ = some (.int .u32 av') := by rw [cell_of_row _ _ _ _ _ _ T2]; rfl
          have s32 : y2.cell? ⟨wr.heap.size, 3, none⟩ = some (.slice ap an ak) := by rw [cell_of_row _ _ _ _ _ _ T2]; rfl
          have hb3 := hb2'
          clear x0 x1 x2 hy2 s01 s11 s21 s31 T1
          cases hh2 : (decide (ac = 515) && decide (av' = 10415)) with
          | true =>
            have HI2 : Hid (isD 515 i = true) := by have h := HC.out; show isD 515 i = true; rw [isD, ← h.1, ← h.2]; exact hh2
            go_wp2_with fail
            refine (u32_any ac af av' ap an ak i.d _ (HBY.out.below hb3)).mono ?_
            rintro e z1 ⟨er, rfl, hz1, her⟩
            have hbz : Below wr.heap.size wr z1 := hb3.trans (hz1.mono hb3.size)
            generalize hX : (u32of i.d).1 = X at *
            generalize hE : (u32of i.d).2 = E at *
            have HXE : Hid ((u32of i.d).1 = X ∧ (u32of i.d).2 = E) := ⟨hX, hE⟩
            have HER : Hid (ErrOr z1 er E) := her
            clear her hz1 hX hE s02 s12 s22 s32 T2
            go_wp2_with fail
            refine (some_any X er z1).mono ?_
            rintro e z2 ⟨rfl, rfl⟩
            have hbz2 : Below z1.heap.size z1 (z1.alloc (.cells #[.int .u32 X] 24)) := (Below.refl _ _).alloc (Nat.le_refl _) _
            have QZ := (HQ.out.step hbz).step hbz2
            have HPN : Hid (PtrIs (z1.alloc (.cells #[.int .u32 X] 24)) (.pointer (some ⟨z1.heap.size, 0, none⟩)) (some X)) := ⟨_, rfl, heap_alloc_new z1 _⟩
            have HE2 : Hid (ErrOr (z1.alloc (.cells #[.int .u32 X] 24)) er E) := HER.out.below hbz2
            obtain ⟨m0, m1, m2, m3, n0, n1, n2, n3, r0, r1, r2, r3, f0, f1, f2, f3⟩ := QZ.cells HRB.out (by omega)
            have QZ2 := QZ.set1 HPN.out
            have HQZ2 : Hid (QS (w.heap.size + 1 + 1) wM ((z1.alloc (.cells #[.int .u32 X] 24)).setCell ⟨w.heap.size + 1 + 1, 1, none⟩ (.pointer (some ⟨z1.heap.size, 0, none⟩))) p0 (some ⟨z1.heap.size, 0, none⟩) p2 p3 qa (some X) qc qd) := QZ2
            have HQH : Hid ((z1.alloc (.cells #[.int .u32 X] 24)).heap[w.heap.size + 1 + 1]? = some (.cells #[.pointer p0, .pointer p1, .pointer p2, .pointer p3] 38 (0, 0))) := QZ.hq
            clear QZ QZ2
            rcases HE2.out with ⟨he, rfl⟩ | ⟨he, eb, se, rfl, heb⟩
            · go_wp2_with fail
              go_roundw
              case rel =>
                refine ⟨j + 1, p0, (some ⟨z1.heap.size, 0, none⟩), p2, p3, qa, (some X), qc, qd, by go_num, rfl, by omega, HQZ2.out, ?_⟩
                rw [HR2.out, qrun, if_neg (by rw [HN1.out]; decide), if_pos HI2.out, HXE.out.1, HXE.out.2]
                rw [if_pos he]
              case measure => simp [intOf]; omega
            · have HEB : Hid ((z1.alloc (.cells #[.int .u32 X] 24)).heap[eb]? = some (.cells #[.int .u32 E, .int .u32 0, se] 81 (0, 0))) := heb
              clear heb
              go_wp2_with fail
              have herr : ErrOr ((z1.alloc (.cells #[.int .u32 X] 24)).setCell ⟨w.heap.size + 1 + 1, 1, none⟩ (.pointer (some ⟨z1.heap.size, 0, none⟩))) (.iface 78 (.pointer (some ⟨eb, 0, none⟩))) E := by
                refine .inr ⟨he, eb, se, rfl, (Below.heap_setCell _ _ _ _ (fun e => ?_)).trans HEB.out⟩
                have h1 := HEB.out
                rw [show eb = w.heap.size + 1 + 1 from e, HQH.out] at h1
                simp at h1
              obtain ⟨k1, k2⟩ := HQZ2.out.done HRB.out (by omega) herr hbM (by omega) (by omega) (parse bs) (by
                rw [HPA.out]
                rw [HR2.out, qrun, if_neg (by rw [HN1.out]; decide), if_pos HI2.out, HXE.out.1, HXE.out.2]
                rw [if_neg he])
              exact bodyPost_ret (results_cell2 Ybad.results10 _ _ (w.heap.size + 1) _ _ _ rfl rfl k1 Ybad.underlying38 rfl Ybad.size38) rfl k2
          | false =>
            have HN2 : Hid (isD 515 i = false) := by have h := HC.out; show isD 515 i = false; rw [isD, ← h.1, ← h.2]; exact hh2
            have G3 := HG.out.below (hbr.trans (hb3.mono hsr))
            have x0 := G3.g3.c0; have x1 := G3.g3.c1; have x2 := G3.g3.c2
            clear G3
            go_wp2_with fail
            refine (is_any ac af av' ap an ak 1025 10415 true _).mono ?_
            rintro e y3 ⟨rfl, hy3⟩
            have hb3' : Below wr.heap.size wr y3 := hb3.trans (hy3.mono hb3.size)
            have T3 := (hy3.block wr.heap.size (lt_of_block T2)).trans T2
            have s03 : y3.cell? ⟨wr.heap.size, 0, none⟩ = some (.int .u32 ac) := by rw [cell_of_row _ _ _ _ _ _ T3]; rfl
            have s13 : y3.cell? ⟨wr.heap.size, 1, none⟩ = some (.int .u8 af) := by rw [cell_of_row _ _ _ _ _ _ T3]; rfl
            have s23 : y3.cell? ⟨wr.heap.size, 2, none⟩ = some (.int .u32 av') := by rw [cell_of_row _ _ _ _ _ _ T3]; rfl
            have s33 : y3.cell? ⟨wr.heap.size, 3, none⟩ = some (.slice ap an ak) := by rw [cell_of_row _ _ _ _ _ _ T3]; rfl
            have hb4 := hb3'
            clear x0 x1 x2 hy3 s02 s12 s22 s32 T2
            cases hh3 : (decide (ac = 1025) && decide (av' = 10415)) with
            | true =>
              have HI3 : Hid (isD 1025 i = true) := by have h := HC.out; show isD 1025 i = true; rw [isD, ← h.1, ← h.2]; exact hh3
              go_wp2_with fail
              refine (u32_any ac af av' ap an ak i.d _ (HBY.out.below hb4)).mono ?_
              rintro e z1 ⟨er, rfl, hz1, her⟩
              have hbz : Below wr.heap.size wr z1 := hb4.trans (hz1.mono hb4.size)
              generalize hX : (u32of i.d).1 = X at *
              generalize hE : (u32of i.d).2 = E at *
              have HXE : Hid ((u32of i.d).1 = X ∧ (u32of i.d).2 = E) := ⟨hX, hE⟩
              have HER : Hid (ErrOr z1 er E) := her
              clear her hz1 hX hE s03 s13 s23 s33 T3
              go_wp2_with fail
              refine (some_any X er z1).mono ?_
              rintro e z2 ⟨rfl, rfl⟩
              have hbz2 : Below z1.heap.size z1 (z1.alloc (.cells #[.int .u32 X] 24)) := (Below.refl _ _).alloc (Nat.le_refl _) _
              have QZ := (HQ.out.step hbz).step hbz2
              have HPN : Hid (PtrIs (z1.alloc (.cells #[.int .u32 X] 24)) (.pointer (some ⟨z1.heap.size, 0, none⟩)) (some X)) := ⟨_, rfl, heap_alloc_new z1 _⟩
              have HE2 : Hid (ErrOr (z1.alloc (.cells #[.int .u32 X] 24)) er E) := HER.out.below hbz2
              obtain ⟨m0, m1, m2, m3, n0, n1, n2, n3, r0, r1, r2, r3, f0, f1, f2, f3⟩ := QZ.cells HRB.out (by omega)
              have QZ2 := QZ.set2 HPN.out
              have HQZ2 : Hid (QS (w.heap.size + 1 + 1) wM ((z1.alloc (.cells #[.int .u32 X] 24)).setCell ⟨w.heap.size + 1 + 1, 2, none⟩ (.pointer (some ⟨z1.heap.size, 0, none⟩))) p0 p1 (some ⟨z1.heap.size, 0, none⟩) p3 qa qb (some X) qd) := QZ2
              have HQH : Hid ((z1.alloc (.cells #[.int .u32 X] 24)).heap[w.heap.size + 1 + 1]? = some (.cells #[.pointer p0, .pointer p1, .pointer p2, .pointer p3] 38 (0, 0))) := QZ.hq
              clear QZ QZ2
              rcases HE2.out with ⟨he, rfl⟩ | ⟨he, eb, se, rfl, heb⟩
              · go_wp2_with fail
                go_roundw
                case rel =>
                  refine ⟨j + 1, p0, p1, (some ⟨z1.heap.size, 0, none⟩), p3, qa, qb, (some X), qd, by go_num, rfl, by omega, HQZ2.out, ?_⟩
                  rw [HR2.out, qrun, if_neg (by rw [HN1.out]; decide), if_neg (by rw [HN2.out]; decide), if_pos HI3.out, HXE.out.1, HXE.out.2]
                  rw [if_pos he]
                case measure => simp [intOf]; omega
              · have HEB : Hid ((z1.alloc (.cells #[.int .u32 X] 24)).heap[eb]? = some (.cells #[.int .u32 E, .int .u32 0, se] 81 (0, 0))) := heb
                clear heb
                go_wp2_with fail
                have herr : ErrOr ((z1.alloc (.cells #[.int .u32 X] 24)).setCell ⟨w.heap.size + 1 + 1, 2, none⟩ (.pointer (some ⟨z1.heap.size, 0, none⟩))) (.iface 78 (.pointer (some ⟨eb, 0, none⟩))) E := by
                  refine .inr ⟨he, eb, se, rfl, (Below.heap_setCell _ _ _ _ (fun e => ?_)).trans HEB.out⟩
                  have h1 := HEB.out
                  rw [show eb = w.heap.size + 1 + 1 from e, HQH.out] at h1
                  simp at h1
                obtain ⟨k1, k2⟩ := HQZ2.out.done HRB.out (by omega) herr hbM (by omega) (by omega) (parse bs) (by
                  rw [HPA.out]
                  rw [HR2.out, qrun, if_neg (by rw [HN1.out]; decide), if_neg (by rw [HN2.out]; decide), if_pos HI3.out, HXE.out.1, HXE.out.2]
                  rw [if_neg he])
                exact bodyPost_ret (results_cell2 Ybad.results10 _ _ (w.heap.size + 1) _ _ _ rfl rfl k1 Ybad.underlying38 rfl Ybad.size38) rfl k2
            | false =>
              have HN3 : Hid (isD 1025 i = false) := by have h := HC.out; show isD 1025 i = false; rw [isD, ← h.1, ← h.2]; exact hh3
              have G4 := HG.out.below (hbr.trans (hb4.mono hsr))
              have x0 := G4.g4.c0; have x1 := G4.g4.c1; have x2 := G4.g4.c2
              clear G4
              go_wp2_with fail
              refine (is_any ac af av' ap an ak 1034 10415 false _).mono ?_
              rintro e y4 ⟨rfl, hy4⟩
              have hb4' : Below wr.heap.size wr y4 := hb4.trans (hy4.mono hb4.size)
              have T4 := (hy4.block wr.heap.size (lt_of_block T3)).trans T3
              have s04 : y4.cell? ⟨wr.heap.size, 0, none⟩ = some (.int .u32 ac) := by rw [cell_of_row _ _ _ _ _ _ T4]; rfl
              have s14 : y4.cell? ⟨wr.heap.size, 1, none⟩ = some (.int .u8 af) := by rw [cell_of_row _ _ _ _ _ _ T4]; rfl
              have s24 : y4.cell? ⟨wr.heap.size, 2, none⟩ = some (.int .u32 av') := by rw [cell_of_row _ _ _ _ _ _ T4]; rfl
              have s34 : y4.cell? ⟨wr.heap.size, 3, none⟩ = some (.slice ap an ak) := by rw [cell_of_row _ _ _ _ _ _ T4]; rfl
              have hb5 := hb4'
              clear x0 x1 x2 hy4 s03 s13 s23 s33 T3
              cases hh4 : (decide (ac = 1034) && decide (av' = 10415)) with
              | true =>
                have HI4 : Hid (isD 1034 i = true) := by have h := HC.out; show isD 1034 i = true; rw [isD, ← h.1, ← h.2]; exact hh4
                go_wp2_with fail
                refine (prio_any ac af av' ap an ak i.d _ (HBY.out.below hb5) han (HG.out.below (hbr.trans (hb5.mono hsr)))).mono ?_
                rintro e z1 ⟨pv, er, rfl, hz1, hpv, her⟩
                have hbz : Below wr.heap.size wr z1 := hb5.trans (hz1.mono hb5.size)
                generalize hX : (prio i.d).1 = X at *
                generalize hE : (prio i.d).2 = E at *
                obtain ⟨pp, rfl⟩ : ∃ pp, pv = .pointer pp := by
                  cases X with
                  | none => exact ⟨_, hpv⟩
                  | some x => obtain ⟨b, h1, _⟩ := hpv; exact ⟨_, h1⟩
                have HXE : Hid ((prio i.d).1 = X ∧ (prio i.d).2 = E) := ⟨hX, hE⟩
                have HE2 : Hid (ErrOr z1 er E) := her
                have HPN : Hid (PtrIs z1 (.pointer pp) X) := hpv
                have QZ := HQ.out.step hbz
                clear her hz1 hX hE hpv s04 s14 s24 s34 T4
                obtain ⟨m0, m1, m2, m3, n0, n1, n2, n3, r0, r1, r2, r3, f0, f1, f2, f3⟩ := QZ.cells HRB.out (by omega)
                have QZ2 := QZ.set3 HPN.out
                have HQZ2 : Hid (QS (w.heap.size + 1 + 1) wM (z1.setCell ⟨w.heap.size + 1 + 1, 3, none⟩ (.pointer pp)) p0 p1 p2 pp qa qb qc X) := QZ2
                have HQH : Hid (z1.heap[w.heap.size + 1 + 1]? = some (.cells #[.pointer p0, .pointer p1, .pointer p2, .pointer p3] 38 (0, 0))) := QZ.hq
                clear QZ QZ2
                rcases HE2.out with ⟨he, rfl⟩ | ⟨he, eb, se, rfl, heb⟩
                · go_wp2_with fail
                  go_roundw
                  case rel =>
                    refine ⟨j + 1, p0, p1, p2, pp, qa, qb, qc, X, by go_num, rfl, by omega, HQZ2.out, ?_⟩
                    rw [HR2.out, qrun, if_neg (by rw [HN1.out]; decide), if_neg (by rw [HN2.out]; decide), if_neg (by rw [HN3.out]; decide), if_pos HI4.out, HXE.out.1, HXE.out.2]
                    rw [if_pos he]
                  case measure => simp [intOf]; omega
                · have HEB : Hid (z1.heap[eb]? = some (.cells #[.int .u32 E, .int .u32 0, se] 81 (0, 0))) := heb
                  clear heb
                  go_wp2_with fail
                  have herr : ErrOr (z1.setCell ⟨w.heap.size + 1 + 1, 3, none⟩ (.pointer pp)) (.iface 78 (.pointer (some ⟨eb, 0, none⟩))) E := by
                    refine .inr ⟨he, eb, se, rfl, (Below.heap_setCell _ _ _ _ (fun e => ?_)).trans HEB.out⟩
                    have h1 := HEB.out
                    rw [show eb = w.heap.size + 1 + 1 from e, HQH.out] at h1
                    simp at h1
                  obtain ⟨k1, k2⟩ := HQZ2.out.done HRB.out (by omega) herr hbM (by omega) (by omega) (parse bs) (by
                    rw [HPA.out]
                    rw [HR2.out, qrun, if_neg (by rw [HN1.out]; decide), if_neg (by rw [HN2.out]; decide), if_neg (by rw [HN3.out]; decide), if_pos HI4.out, HXE.out.1, HXE.out.2]
                    rw [if_neg he])
                  exact bodyPost_ret (results_cell2 Ybad.results10 _ _ (w.heap.size + 1) _ _ _ rfl rfl k1 Ybad.underlying38 rfl Ybad.size38) rfl k2
              | false =>
                have HN4 : Hid (isD 1034 i = false) := by have h := HC.out; show isD 1034 i = false; rw [isD, ← h.1, ← h.2]; exact hh4
                go_wp2_with fail
                go_roundw
                case rel =>
                  refine ⟨j + 1, p0, p1, p2, p3, qa, qb, qc, qd, by go_num, rfl, by omega, HQ.out.step hb5, ?_⟩
                  rw [HR2.out, qrun, if_neg (by rw [HN1.out]; decide), if_neg (by rw [HN2.out]; decide), if_neg (by rw [HN3.out]; decide), if_neg (by rw [HN4.out]; decide)]
                case measure => simp [intOf]; omega
      · have hlt' : ¬ (j : Int) < (avs.length : Int) := by omega
        obtain ⟨m0, m1, m2, m3, n0, n1, n2, n3, r0, r1, r2, r3, f0, f1, f2, f3⟩ := HQ.out.cells HRB.out (by omega)
        go_wp2_with fail
        obtain ⟨k1, k2⟩ := HQ.out.done HRB.out (by omega) (.inl ⟨rfl, rfl⟩) hbM (by omega) (by omega) (parse bs) (by
          rw [HPA.out, HR.out, List.drop_eq_nil_of_le (by rw [← HIL.out]; omega)]
          rfl)
        exact bodyPost_ret (results_cell2 Ybad.results10 _ _ (w.heap.size + 1) _ _ _ rfl rfl k1 Ybad.underlying38 rfl Ybad.size38) rfl k2
  · have hz : ∃ code eb s, parse bs = (none, none, none, none, code) ∧ code ≠ 0 ∧ sl = .slice none 0 0 ∧ er = .iface 78 (.pointer (some ⟨eb, 0, none⟩)) ∧ wM.heap[eb]? = some (.cells #[.int .u32 code, .int .u32 0, s] 81 (0, 0)) := by
      rcases hcase with ⟨hok, hall, h1, eb, s, h2, h3⟩ | ⟨hok, h1, eb, s, h2, h3⟩
      · exact ⟨5001, eb, s, by rw [parse, if_neg (by rw [hok]; decide), if_pos hall], by decide, h1, h2, h3⟩
      · exact ⟨5014, eb, s, by rw [parse, if_pos hok], by decide, h1, h2, h3⟩
    obtain ⟨code, eb, s, hpa, hco, rfl, rfl, heb⟩ := hz
    have HPA : Hid (parse bs = (none, none, none, none, code)) := hpa
    have HEB : Hid (wM.heap[eb]? = some (.cells #[.int .u32 code, .int .u32 0, s] 81 (0, 0))) := heb
    clear hcase hpa heb
    obtain ⟨m0, m1, m2, m3, n0, n1, n2, n3, r0, r1, r2, r3, f0, f1, f2, f3⟩ := HQ0.out.cells HRB.out (by omega)
    go_wp2_with fail
    go_loopw [6, 17] (fun er i wr => er = .iface 78 (.pointer (some ⟨eb, 0, none⟩)) ∧ i = .int .i64 0 ∧ wr = wM) (fun _ _ _ => 0)
    case atStart => exact ⟨rfl, rfl, rfl⟩
    case round =>
      obtain ⟨rfl, rfl, rfl⟩ := hrel
      go_wp2_with fail
      obtain ⟨k1, k2⟩ := HQ0.out.done HRB.out (by omega) (.inr ⟨hco, eb, s, rfl, HEB.out⟩) hbM (by omega) (by omega) (parse bs) HPA.out
      exact bodyPost_ret (results_cell2 Ybad.results10 _ _ (w.heap.size + 1) _ _ _ rfl rfl k1 Ybad.underlying38 rfl Ybad.size38) rfl k2

end Go.Proofs.YbulkcjpcDoor
