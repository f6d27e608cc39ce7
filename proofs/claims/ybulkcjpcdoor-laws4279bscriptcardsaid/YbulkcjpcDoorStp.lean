/-
  LawS4279BScript: the script in memory, and where the round stands.
-/
import Derived.Test.YbulkcjpcDoorModel
import Derived.Test.YbulkcjpcDoorPack
namespace Go.Proofs.YbulkcjpcDoor
open Go.RowKit
set_option maxRecDepth 100000

/-- The script as it lies in memory. -/
structure Steps (w : World) (g o : Nat) (ss : List St) : Prop where
  at0 : ∀ (j : Nat) (s : St), ss[j]? = some s → w.cell? ⟨g, o + j * 3, none⟩ = some (.int .u8 s.op) ∧ w.cell? ⟨g, o + j * 3 + 1, none⟩ = some (.int .u8 s.k) ∧ w.cell? ⟨g, o + j * 3 + 2, none⟩ = some (.int .u32 s.v)

def StBd (s : St) : Prop := (0 ≤ s.op ∧ s.op < 256) ∧ (0 ≤ s.k ∧ s.k < 256) ∧ (0 ≤ s.v ∧ s.v < 4294967296)

def FitsM (mb : Nat) (w : World) (a : Av) (i : It) : Prop := Fits w a i ∧ ∀ q : Addr, a.p = some q → q.block ≠ mb
def SV (b : Bool) (x : Int) (o : Option Int) : Prop := (o = none ∧ b = false) ∨ (o = some x ∧ b = true)

def runTo (ss : List St) (j : Nat) : Q5 := (ss.take j).foldl mstep (none, none, none, none, 0)

/-- Where the round stands. -/
structure RS (w : World) (n : Nat) (ss : List St) (j : Nat) (b0 b1 b2 b3 : Bool) (x0 x1 x2 x3 e : Int) (f u : Bool) (wr : World) : Prop where
  row : ∃ avs : List Av, wr.ownsRow 0 32 4 (.slice (some ⟨w.heap.size + 1 + 1 + 1, 0, none⟩) j n) j (avs.flatMap Av.cells) ∧ All2 (FitsM (w.heap.size + 1 + 1 + 1) wr) avs ((ss.take j).map mem)
  s0 : SV b0 x0 (runTo ss j).1
  s1 : SV b1 x1 (runTo ss j).2.1
  s2 : SV b2 x2 (runTo ss j).2.2.1
  s3 : SV b3 x3 (runTo ss j).2.2.2.1
  he : e = (runTo ss j).2.2.2.2
  hf : f = decide (e ≠ 0)
  hu : u = (ss.take j).any unk
  ub : wr.heap[w.heap.size]? = some (.cells #[.int .u32 7, .int .u32 0, .bool false] 26 (0, 0))
  um : wr.heap[w.heap.size + 1]? = some (.cells #[.int .u32 7, .int .u32 0, .bool true] 26 (0, 0))
  bb : wr.heap[w.heap.size + 1 + 1]? = some (.cells #[.int .u8 1, .int .u8 2, .int .u8 3] 5 (0, 0))
  below : Below w.heap.size w wr
  big : w.heap.size + 1 + 1 + 1 < wr.heap.size

theorem runTo_succ (ss : List St) (j : Nat) (s : St) (h : ss[j]? = some s) : runTo ss (j + 1) = mstep (runTo ss j) s := by
  rw [runTo, List.take_add_one, h]; simp [runTo, List.foldl_append]
theorem FitsM.but {mb : Nat} {w w' : World} {a : Av} {i : It} (h : FitsM mb w a i) (hb : But mb w w') : FitsM mb w' a i := by
  obtain ⟨⟨h1, h2, h3, h4, h5, h6, h7⟩, h8⟩ := h
  refine ⟨⟨h1, h2, h3, h4, h5, h6, h7.len, h7.cap, h7.big, ?_⟩, h8⟩
  rcases h7.lies with hn | ⟨g, o, hp, hc⟩
  · exact .inl hn
  · exact .inr ⟨g, o, hp, fun j hj => (World.cell?_of_block (hb.block g (World.block_lt_of_cell? w _ (hc j hj)) (h8 _ hp))).trans (hc j hj)⟩
theorem all2_snoc {R : Av → It → Prop} {avs : List Av} {its : List It} (h : All2 R avs its) {a : Av} {i : It} (hr : R a i) : All2 R (avs ++ [a]) (its ++ [i]) := h.snoc hr

/-- The next round. -/
theorem rs_next {w wr W : World} {n : Nat} {ss : List St} {j : Nat} {b0 b1 b2 b3 : Bool} {x0 x1 x2 x3 e : Int} {f u : Bool} (h : RS w n ss j b0 b1 b2 b3 x0 x1 x2 x3 e f u wr) {s : St} (hs : ss[j]? = some s)
    {avs : List Av} (hall : All2 (FitsM (w.heap.size + 1 + 1 + 1) wr) avs ((ss.take j).map mem)) {a : Av} (hk : But (w.heap.size + 1 + 1 + 1) wr W)
    (hown : W.ownsRow 0 32 4 (.slice (some ⟨w.heap.size + 1 + 1 + 1, 0, none⟩) (j + 1) n) (j + 1) (avs.flatMap Av.cells ++ a.cells)) (hfit : FitsM (w.heap.size + 1 + 1 + 1) W a (mem s))
    {b0' b1' b2' b3' : Bool} {x0' x1' x2' x3' e' : Int} {f' u' : Bool} (r' : Q5) (hr : mstep (runTo ss j) s = r') (t0 : SV b0' x0' r'.1) (t1 : SV b1' x1' r'.2.1) (t2 : SV b2' x2' r'.2.2.1) (t3 : SV b3' x3' r'.2.2.2.1)
    (te : e' = r'.2.2.2.2) (tf : f' = decide (e' ≠ 0)) (tu : u' = (u || unk s)) : RS w n ss (j + 1) b0' b1' b2' b3' x0' x1' x2' x3' e' f' u' W := by
  have hrun := (runTo_succ ss j s hs).trans hr
  have hlt := h.big
  refine ⟨⟨avs ++ [a], by rw [← flat_snoc]; exact hown, ?_⟩, by rw [hrun]; exact t0, by rw [hrun]; exact t1, by rw [hrun]; exact t2, by rw [hrun]; exact t3, by rw [hrun]; exact te, tf, ?_, ?_, ?_, ?_, ?_, Nat.lt_of_lt_of_le hlt hk.size⟩
  · rw [List.take_add_one, hs, List.map_append]
    exact (all2_mono (fun _ _ h => h.but hk) hall).snoc hfit
  · rw [tu, h.hu, List.take_add_one, hs]; simp
  · exact (hk.block _ (by omega) (by omega)).trans h.ub
  · exact (hk.block _ (by omega) (by omega)).trans h.um
  · exact (hk.block _ (by omega) (by omega)).trans h.bb
  · exact hk.below h.below (by omega) h.below.size

theorem at_world {P : Program} {c : Code} {Q : Exit → Act → World → Prop} {a : Act} {X : World} (R : World → Prop) (h : ∀ Y, R Y → Code.wp P c Q a Y) (hX : R X) : Code.wp P c Q a X := h X hX
theorem below4 {wr y : World} {t : Nat} {x0 x1 x2 x3 : Value} (h : Below wr.heap.size wr y) (ht : wr.heap.size ≤ t) : Below wr.heap.size wr ((((y.setCell ⟨t, 0, none⟩ x0).setCell ⟨t, 1, none⟩ x1).setCell ⟨t, 2, none⟩ x2).setCell ⟨t, 3, none⟩ x3) :=
  (((h.setCell ht _).setCell ht _).setCell ht _).setCell ht _
/-- The round's end: the member lies in t, its data read d. -/
structure Mem (wr Y : World) (t mb : Nat) (A : Av) (d : List UInt8) : Prop where
  below : Below wr.heap.size wr Y
  lies : Y.heap[t]? = some (.cells #[.int .u32 A.c, .int .u8 A.f, .int .u32 A.v, .slice A.p A.n A.k] 32 (0, 0))
  dat : Bytes Y A.p A.n A.k d
  ne : ∀ q : Addr, A.p = some q → q.block ≠ mb
theorem Mem.drewN {wr Y : World} {t mb : Nat} {A : Av} {d : List UInt8} (h : Mem wr Y t mb A d) (m : Nat) : Mem wr (Y.drewN m) t mb A d :=
  ⟨below_drewN h.below m, h.lies, ⟨h.dat.len, h.dat.cap, h.dat.big, h.dat.lies⟩, h.ne⟩
theorem Mem.drew {wr Y : World} {t mb : Nat} {A : Av} {d : List UInt8} (h : Mem wr Y t mb A d) : Mem wr Y.drew t mb A d :=
  ⟨h.below.drew, h.lies, ⟨h.dat.len, h.dat.cap, h.dat.big, h.dat.lies⟩, h.ne⟩
theorem but_of {wr Y Z : World} {mb : Nat} {o : Obj} (h : Below wr.heap.size wr Y) (hg : (Y.alloc o).grownBy Z (some mb)) : But mb wr Z :=
  ⟨hg.os.trans h.os, hg.tape.trans h.tape, hg.output.trans h.output, Nat.le_trans h.size (Nat.le_trans (by simp) hg.size), fun k hk hn =>
    (hg.block k (by simp; exact Nat.lt_succ_of_lt (Nat.lt_of_lt_of_le hk h.size)) (fun e => hn (Option.some.inj e))).trans ((Below.heap_alloc _ _ _ (Nat.lt_of_lt_of_le hk h.size)).trans (h.block k hk))⟩
theorem dat_of {wr Y Z : World} {t mb : Nat} {A : Av} {d : List UInt8} {o : Obj} (h : Mem wr Y t mb A d) (hg : (Y.alloc o).grownBy Z (some mb)) {i : It} (hc : A.c = i.c) (hf : A.f = i.f) (hv : A.v = i.v) (hd : i.d = d)
    (bc : 0 ≤ A.c ∧ A.c < 4294967296) (bf : 0 ≤ A.f ∧ A.f < 256) (bv : 0 ≤ A.v ∧ A.v < 4294967296) : FitsM mb Z A i := by
  refine ⟨⟨hc, hf, hv, bc, bf, bv, ?_⟩, h.ne⟩
  rw [hd]
  refine ⟨h.dat.len, h.dat.cap, h.dat.big, ?_⟩
  rcases h.dat.lies with hn | ⟨g, o', hp, hcell⟩
  · exact .inl hn
  · refine .inr ⟨g, o', hp, fun j hj => ?_⟩
    have hh := hcell j hj
    have hl := World.block_lt_of_cell? Y _ hh
    exact (World.cell?_of_block (hg.block g (by simp; exact Nat.lt_succ_of_lt hl) (fun e => h.ne _ hp (Option.some.inj e)))).trans (cell_alloc _ hh)

theorem ptr_side {b : Bool} {x : Int} {o : Option Int} {W : World} {p : Option Addr} (h : SV b x o) (hp : PtrIs W (.pointer p) o) :
    (o = none ∧ p = none ∧ b = false) ∨ (o = some x ∧ b = true ∧ ∃ pb, p = some ⟨pb, 0, none⟩ ∧ W.heap[pb]? = some (.cells #[.int .u32 x] 24 (0, 0))) := by
  rcases h with ⟨rfl, rfl⟩ | ⟨rfl, rfl⟩
  · cases hp; exact .inl ⟨rfl, rfl, rfl⟩
  · obtain ⟨pb, h1, h2⟩ := hp; cases h1; exact .inr ⟨rfl, rfl, pb, rfl, h2⟩
theorem cell20 {W : World} {t : Nat} {a b v : Int} (h : W.heap[t]? = some (.cells #[.int .u8 a, .int .u8 b, .int .u32 v] 30 (0, 0))) : W.cell? ⟨t, 2, none⟩ = some (.int .u32 v) := by rw [cell_of_row _ _ _ _ _ _ h]; rfl
theorem encOne_le (s : St) : (encOne (mem s)).length ≤ 200 := by
  have hd : (mem s).d.length ≤ 100 := by
    have := sub_enc_len s
    unfold mem
    repeat' split
    all_goals first | exact this | simp [be4B, bad3]
  rw [encOne_len]; unfold padded; split <;> omega
theorem enc_le (ss : List St) : (enc (ss.map mem)).length ≤ ss.length * 200 := by
  induction ss with
  | nil => simp [enc]
  | cons s ss ih =>
    have h1 := encOne_le s
    rw [List.map_cons, show enc (mem s :: ss.map mem) = encOne (mem s) ++ enc (ss.map mem) by simp [enc], List.length_append, List.length_cons]
    omega

end Go.Proofs.YbulkcjpcDoor
