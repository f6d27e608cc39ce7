/-
  appendAVPs.
-/
import Derived.Test.YbulkcjpcDoorPlain
import Derived.Lib.AppendZerosOnto
import Derived.Deep.RegionLaw
import Derived.Laws.AppendOwnNone
namespace Go.Proofs.YbulkcjpcDoor
open Go.RowKit
set_option maxRecDepth 100000

def cellsOf (bs : List UInt8) : List Value := bs.map fun b => .int .u8 (b.toNat : Int)
def byt (z : Int) : UInt8 := UInt8.ofNat z.toNat
theorem byt_toNat (z : Int) (h0 : 0 ≤ z) (h1 : z < 256) : ((byt z).toNat : Int) = z := by
  simp only [byt, UInt8.toNat_ofNat']
  omega
def be4B (x : Int) : List UInt8 := [byt (x / 16777216), byt (x / 65536 % 256), byt (x / 256 % 256), byt (x % 256)]
theorem cells_be4 (x : Int) (h0 : 0 ≤ x) (h1 : x < 4294967296) : cellsOf (be4B x) = be4 x := by
  simp only [cellsOf, be4B, be4, List.map_cons, List.map_nil]
  rw [byt_toNat _ (by omega) (by omega), byt_toNat _ (by omega) (by omega), byt_toNat _ (by omega) (by omega), byt_toNat _ (by omega) (by omega)]
def sz (i : It) : Nat := (if vb i.f then 12 else 8) + i.d.length
def encOne (i : It) : List UInt8 :=
  be4B i.c ++ [byt i.f, byt ((sz i : Int) / 65536 % 256), byt ((sz i : Int) / 256 % 256), byt ((sz i : Int) % 256)] ++ (if vb i.f then be4B i.v else []) ++ i.d ++ List.replicate (padded i.d.length - i.d.length) 0
def enc (its : List It) : List UInt8 := its.flatMap encOne

theorem zero_cells (v : Value) (k : Nat) : Builtin.zeroCells #[v] k = (List.replicate k v).toArray := by
  apply Array.ext
  · simp [Builtin.zeroCells]
  · intro j h1 h2
    simp [Builtin.zeroCells, Nat.mod_one]

theorem zeros_run (w : World) (B n g cap k : Nat) (ty : TypeId) (xs : List Value) (hown : w.ownsRow B 5 1 (.slice (some ⟨g, 0, none⟩) n cap) n xs) (hk : k ≤ 3) (hn : n ≤ 100000000000) (hB : B ≤ w.heap.size) :
    ∃ v' w', (Builtin.append_ #[27, 3] ty #[.slice (some ⟨g, 0, none⟩) n cap, .int .i64 k]).run Ybad.prog w = .ok v' w' ∧ w'.ownsRow B 5 1 v' (n + k) (xs ++ List.replicate k (.int .u8 0)) ∧ w.grownBy w' (some g) := by
  obtain ⟨i0, hi, hz0, hz1, hz2⟩ := info_parts Ybad.info5
  have ht := Ybad.underlying27
  have htn := Ybad.underlying3
  have hxl := hown.1
  rcases hown.2 with ⟨h, _⟩ | ⟨g', cap', cur, h, hbg, hg, hnc, hcm, hcs, htake⟩
  · cases h
  · simp only [Value.slice.injEq, Option.some.injEq, Addr.mk.injEq, true_and, and_true] at h
    obtain ⟨rfl, rfl⟩ := h
    simp only [Nat.mul_one] at hxl hcs htake
    have hw : IntKind.i64.wrap (k : Int) = k := by rw [IntKind.wrap_i64]; omega
    have hneg : ¬ ((k : Int) < 0) := by omega
    have h48i : ¬ (281474976710656 < (k : Int)) := by omega
    have hzc : Builtin.zeroCells (Value.int .u8 0).cells k = (List.replicate k (Value.int .u8 0)).toArray := by
      exact zero_cells _ k
    by_cases hk0 : k = 0
    · subst hk0
      refine ⟨.slice (some ⟨g, 0, none⟩) n cap, w, ?_, by simpa using hown, ⟨rfl, rfl, rfl, Nat.le_refl _, fun _ _ _ => rfl⟩⟩
      have e0 : IntKind.i64.wrap 0 = 0 := by rw [IntKind.wrap_i64]; omega
      simp [Builtin.append_, run_underlying ht, run_underlying htn, sizeOf, typeInfo, hi, hz2, asInt, asIntOf, e0, hnc, storeCells]
    by_cases hroom : n + k ≤ cap
    · have hst := run_storeCells_at Ybad.prog g n 5 (List.replicate k (.int .u8 0)) 0 cur w hg (by simp; omega) (by intro v hv; rw [List.eq_of_mem_replicate hv]; rfl)
      simp only [Nat.add_zero, List.length_replicate] at hst
      refine ⟨.slice (some ⟨g, 0, none⟩) (n + k) cap, w.setRow g (cur.toList.take n ++ List.replicate k (Value.int .u8 0) ++ cur.toList.drop (n + k)).toArray, ?_, ⟨by simp [hxl], .inr ⟨g, cap, _, rfl, hbg, setRow_heap w g cur _ 5 _ hg, hroom, hcm, ?_, ?_⟩⟩, ⟨rfl, rfl, rfl, by simp, fun j _ hj => setRow_other w g j _ (fun e => hj (by rw [e]))⟩⟩
      · simp [Builtin.append_, run_underlying ht, run_underlying htn, sizeOf, typeInfo, zeroValue, hi, hz0, hz1, hz2, asInt, asIntOf, hw, hneg, h48i, hk0, hroom, Addr.add_lit, hzc, hst]
      · simp; omega
      · rw [htake, Nat.mul_one]
        rw [List.take_append_of_le_length (by simp [hxl])]
        exact List.take_of_length_le (by simp [hxl])
    · have hcells : ∀ j u, xs[j]? = some u → w.drew.cell? ((⟨g, 0, none⟩ : Addr).add j) = some u := hown.cells (g := g) rfl
      have h63 : n + k ≤ maxLen := by unfold maxLen; omega
      have hr := Lib.run_append_grow_zeros (P := Ybad.prog) w 27 3 ty 5 i0 (.int .u8 0) .i64 .i64 ht htn hi hz0 (some ⟨g, 0, none⟩) n cap xs (run_firstCells_some (P := Ybad.prog) w.drew i0.size n ⟨g, 0, none⟩ n cap xs (by rw [hz1]; omega) hcells) k (by omega) (by omega) (by omega) (by omega) (by rw [hz2]; omega) (by rw [hz2]; exact growslice_fits (by omega) (by omega))
      have hge := grownCap_ge w (n + k) cap 5
      refine ⟨_, _, hr, ⟨by simp [hxl], .inr ⟨w.heap.size, _, _, rfl, hB, heap_alloc_new w.drew _, hge, grownCap_le_maxLen w (n + k) cap 5 h63, ?_, ?_⟩⟩, ⟨rfl, rfl, rfl, by simp, fun j hj _ => Below.heap_alloc w.drew _ j hj⟩⟩
      · rw [hzc, show (Value.int .u8 0).cells = #[Value.int .u8 0] from rfl, zero_cells]
        simp [hxl]
        omega
      · rw [hzc, show (Value.int .u8 0).cells = #[Value.int .u8 0] from rfl, zero_cells, Nat.mul_one]
        simp only [Array.toList_append, List.append_assoc]
        rw [← List.append_assoc, List.take_append_of_le_length (by simp [hxl])]
        exact List.take_of_length_le (by simp [hxl])

theorem row_cell {w : World} {B g cap n : Nat} {avs : List Av} (h : w.ownsRow B 32 4 (.slice (some ⟨g, 0, none⟩) n cap) n (avs.flatMap Av.cells)) (j : Nat) (a : Av) (hj : avs[j]? = some a) :
    w.cell? ⟨g, j * 4, none⟩ = some (.int .u32 a.c) ∧ w.cell? ⟨g, j * 4 + 1, none⟩ = some (.int .u8 a.f) ∧ w.cell? ⟨g, j * 4 + 2, none⟩ = some (.int .u32 a.v) ∧ w.cell? ⟨g, j * 4 + 3, none⟩ = some (.slice a.p a.n a.k) := by
  have hc : ∀ i u, (avs.flatMap Av.cells)[i]? = some u → w.cell? ⟨g, i, none⟩ = some u := fun i u hu => by
    have := h.cells (g := g) rfl i u hu
    rwa [show (⟨g, 0, none⟩ : Addr).add i = ⟨g, i, none⟩ by unfold Addr.add; split <;> simp_all] at this
  have key : ∀ (avs : List Av) (j i : Nat) (a : Av), avs[j]? = some a → i < 4 → (avs.flatMap Av.cells)[j * 4 + i]? = a.cells[i]? := by
    intro avs
    induction avs with
    | nil => intro j i a h; simp at h
    | cons b avs ih =>
      intro j i a h hi
      rw [List.flatMap_cons]
      cases j with
      | zero =>
        simp at h
        subst h
        rw [List.getElem?_append_left (by simp [Av.cells]; omega)]
        simp
      | succ j =>
        simp at h
        rw [List.getElem?_append_right (by simp [Av.cells]; omega), show (j + 1) * 4 + i - b.cells.length = j * 4 + i by simp [Av.cells]; omega]
        exact ih j i a h hi
  exact ⟨hc _ _ ((key avs j 0 a hj (by omega)).trans rfl), hc _ _ ((key avs j 1 a hj (by omega)).trans rfl), hc _ _ ((key avs j 2 a hj (by omega)).trans rfl), hc _ _ ((key avs j 3 a hj (by omega)).trans rfl)⟩

theorem All2.get {R : Av → It → Prop} {avs : List Av} {its : List It} (h : All2 R avs its) : ∀ (j : Nat), j < avs.length → ∃ (a : Av) (i : It), avs[j]? = some a ∧ its[j]? = some i ∧ R a i := by
  induction h with
  | nil => intro j hj; simp at hj
  | cons h1 _ ih =>
    intro j hj
    cases j with
    | zero => exact ⟨_, _, rfl, rfl, h1⟩
    | succ j =>
      obtain ⟨a, i, h2, h3, h4⟩ := ih j (by simpa using hj)
      exact ⟨a, i, by simpa using h2, by simpa using h3, h4⟩
theorem All2.length {R : Av → It → Prop} {avs : List Av} {its : List It} (h : All2 R avs its) : avs.length = its.length := by
  induction h with
  | nil => rfl
  | cons _ _ ih => simp [ih]

theorem enc_take (its : List It) (j : Nat) (i : It) (h : its[j]? = some i) : enc (its.take (j + 1)) = enc (its.take j) ++ encOne i := by
  rw [List.take_add_one, h]; simp [enc]

theorem own_some {w : World} {B size n : Nat} {e : TypeId} {v : Value} {xs : List Value} (h : w.ownsRow B e size v n xs) (hn : 0 < n) :
    ∃ g cap cur, v = .slice (some ⟨g, 0, none⟩) n cap ∧ n ≤ cap ∧ B ≤ g ∧ w.heap[g]? = some (.cells cur e (0, 0)) ∧ cur.size = cap * size := by
  rcases h.2 with ⟨_, h2⟩ | ⟨g, cap, cur, h1, h2, h3, h4, _, h6, _⟩
  · omega
  · exact ⟨g, cap, cur, h1, h4, h2, h3, h6⟩
theorem own_set {w : World} {B g n cap : Nat} {e : TypeId} {xs : List Value} (h : w.ownsRow B e 1 (.slice (some ⟨g, 0, none⟩) n cap) n xs) (j : Nat) (u : Value) :
    (w.setCell ⟨g, j, none⟩ u).ownsRow B e 1 (.slice (some ⟨g, 0, none⟩) n cap) n (xs.set j u) := by
  rcases h.2 with ⟨h1, _⟩ | ⟨g', cap', cur, h1, h2, h3, h4, h5, h6, h7⟩
  · cases h1
  · cases h1
    refine ⟨by rw [List.length_set]; exact h.1, .inr ⟨g, cap, _, rfl, h2, heap_setCell_same _ _ _ _ _ _ h3, h4, h5, by simpa using h6, ?_⟩⟩
    rw [← h7]
    simp [List.take_set]
theorem set3 (ys : List Value) (N : Nat) (h : ys.length = N) (f u1 u2 u3 x1 x2 x3 : Value) : (((ys ++ [f, u1, u2, u3]).set (N + 1) x1).set (N + 2) x2).set (N + 3) x3 = ys ++ [f, x1, x2, x3] := by
  subst h
  simp
theorem cellsOf_get (d : List UInt8) (j : Nat) (u : Value) (h : (cellsOf d)[j]? = some u) : j < d.length ∧ u = .int .u8 (at' d j) := by
  simp only [cellsOf, List.getElem?_map, Option.map_eq_some_iff] at h
  obtain ⟨x, hx, rfl⟩ := h
  have hj := (List.getElem?_eq_some_iff.1 hx).1
  exact ⟨hj, by simp [at', List.getD, hx]⟩

theorem step_zeros {P : Program} {ops : Array Oper} {o : Oper} {a : Act} {w : World} {K : Act → World → Prop} {Q : Exit → Act → World → Prop} {E : Prop} (hg : o.guard = none) (s x : Operand) (t tn : TypeId)
    (ho : o.op = .call { callee := .builtin .append, args := #[s, x], argTypes := #[t, tn] }) (vs vx : Value) (hs : a.eval s = vs) (hx : a.eval x = vx)
    (v' : Value) (w' : World) (hr : (Builtin.append_ #[t, tn] o.type #[vs, vx]).run P w = .ok v' w') (h : K (a.put o.dst v') w') :
    if Region.wanted o (yielded ops a.tmps) = true then Oper.wp P o a w K Q else E := by
  have hw : Region.wanted o (yielded ops a.tmps) = true := by simp [Region.wanted, hg]
  rw [if_pos hw]
  exact Lib.wp_append_run w s x t tn ho vs vx hs hx v' w' hr h
theorem enc_cells (i : It) (hc : 0 ≤ i.c ∧ i.c < 4294967296) (hf : 0 ≤ i.f ∧ i.f < 256) (hv : 0 ≤ i.v ∧ i.v < 4294967296) :
    cellsOf (encOne i) = be4 i.c ++ [.int .u8 i.f, .int .u8 ((sz i : Int) / 65536 % 256), .int .u8 ((sz i : Int) / 256 % 256), .int .u8 ((sz i : Int) % 256)] ++ (if vb i.f then be4 i.v else []) ++ cellsOf i.d ++ List.replicate (padded i.d.length - i.d.length) (.int .u8 0) := by
  have e1 : cellsOf (be4B i.c) = be4 i.c := cells_be4 _ hc.1 hc.2
  have e2 : cellsOf (be4B i.v) = be4 i.v := cells_be4 _ hv.1 hv.2
  have ea : ∀ a b : List UInt8, cellsOf (a ++ b) = cellsOf a ++ cellsOf b := fun a b => by simp [cellsOf]
  have e3 : cellsOf (if vb i.f then be4B i.v else []) = (if vb i.f then be4 i.v else []) := by split <;> first | exact e2 | rfl
  have e4 : cellsOf [byt i.f, byt ((sz i : Int) / 65536 % 256), byt ((sz i : Int) / 256 % 256), byt ((sz i : Int) % 256)] = [.int .u8 i.f, .int .u8 ((sz i : Int) / 65536 % 256), .int .u8 ((sz i : Int) / 256 % 256), .int .u8 ((sz i : Int) % 256)] := by
    simp only [cellsOf, List.map_cons, List.map_nil]
    rw [byt_toNat _ hf.1 hf.2, byt_toNat _ (by omega) (by omega), byt_toNat _ (by omega) (by omega), byt_toNat _ (by omega) (by omega)]
  have e5 : ∀ k, cellsOf (List.replicate k 0) = List.replicate k (.int .u8 0) := fun k => by simp [cellsOf]
  rw [encOne, ea, ea, ea, ea, e1, e3, e4, e5]
theorem encOne_len (i : It) : (encOne i).length = 8 + (if vb i.f then 4 else 0) + padded i.d.length := by
  have : i.d.length ≤ padded i.d.length := by unfold padded; omega
  simp only [encOne, List.length_append, List.length_replicate, be4B, List.length_cons, List.length_nil]
  split <;> simp <;> omega

set_option maxHeartbeats 4000000 in
theorem enc_any (sl : Value) (avs : List Av) (its : List It) (w : World) (hsl : w.ownsRow 0 32 4 sl avs.length (avs.flatMap Av.cells)) (hfit : All2 (Fits w) avs its) (hm : avs.length ≤ 1000000) (hd : ∀ i, i ∈ its → i.d.length ≤ 50000) :
    Calls Ybad.prog 21 #[.slice none 0 0, sl] w fun e w' => ∃ v', e = .returned v' ∧ w'.ownsRow w.heap.size 5 1 v' (enc its).length (cellsOf (enc its)) ∧ Below w.heap.size w w' := by
  obtain ⟨i0, hi, hz0, hz1, hz2⟩ := info_parts Ybad.info5
  obtain ⟨p, m, k, hsv, hm2⟩ : ∃ p m k, sl = .slice p m k ∧ m = avs.length := by
    rcases hsl.2 with ⟨h, h2⟩ | ⟨g, cap, cur, h, _⟩
    · exact ⟨_, _, _, h, h2.symm⟩
    · exact ⟨_, _, _, h, rfl⟩
  subst hsv hm2
  have HIL : Hid (avs.length = its.length) := hfit.length
  have HS : Hid (w.ownsRow 0 32 4 (.slice p avs.length k) avs.length (avs.flatMap Av.cells)) := hsl
  have HF : Hid (All2 (Fits w) avs its) := hfit
  have HD : Hid (∀ i, i ∈ its → i.d.length ≤ 50000) := hd
  clear hsl hfit hd
  go_enter Ybad.func21, Ybad.ntmps21
  go_wp2_with fail
  go_loopw [0, 9] (fun b i wr => ∃ (j : Nat), i = .int .i64 j ∧ j ≤ avs.length ∧ (enc (its.take j)).length ≤ j * 60000 ∧ wr.ownsRow w.heap.size 5 1 b (enc (its.take j)).length (cellsOf (enc (its.take j))) ∧ Below w.heap.size w wr) (fun _ i _ => avs.length - (intOf i).toNat)
  case atStart => exact ⟨0, rfl, Nat.zero_le _, by simp [enc], World.ownsRow_nil _ _ _ _, Below.refl _ _⟩
  case round =>
    obtain ⟨j, rfl, hj, hel, hown, hb⟩ := hrel
    have hsz := hb.size
    by_cases hlt : j < avs.length
    · have hlt' : (j : Int) < (avs.length : Int) := by omega
      obtain ⟨a, i, ha, hii, hf⟩ := HF.out.get j hlt
      obtain ⟨g, hp⟩ : ∃ g, p = some ⟨g, 0, none⟩ := by
        rcases HS.out.2 with ⟨h, h2⟩ | ⟨g, cap, cur, h, _⟩
        · omega
        · cases h; exact ⟨g, rfl⟩
      subst hp
      obtain ⟨c0, c1, c2, c3⟩ := row_cell HS.out j a ha
      have hgl : g < w.heap.size := World.block_lt_of_cell? w _ c0
      have d0 := (hb.cell (World.block_lt_of_cell? w _ c0)).trans c0
      have d1 := (hb.cell (World.block_lt_of_cell? w _ c1)).trans c1
      have d2 := (hb.cell (World.block_lt_of_cell? w _ c2)).trans c2
      have d3 := (hb.cell (World.block_lt_of_cell? w _ c3)).trans c3
      obtain ⟨ac, af, av', ap, an, ak⟩ := a
      obtain ⟨hc, hff, hvv, bc, bf, bv, hby⟩ := hf
      simp only at hc hff hvv bc bf bv hby d0 d1 d2 d3
      have HC : Hid (ac = i.c ∧ af = i.f ∧ av' = i.v) := ⟨hc, hff, hvv⟩
      have HBY : Hid (Bytes w ap an ak i.d) := hby
      have HI : Hid (its[j]? = some i) := hii
      have hN : (enc (its.take j)).length ≤ 60000000000 := by omega
      have hdl : an ≤ 50000 := by rw [← hby.len]; exact HD.out i (List.mem_of_getElem? hii)
      have HEL : Hid ((enc (its.take j)).length ≤ j * 60000) := hel
      clear hc hff hvv hby hii c0 c1 c2 c3 ha hel
      generalize hxs : cellsOf (enc (its.take j)) = xs at hown
      generalize hNN : (enc (its.take j)).length = N at hown hN
      have HXS : Hid _ := hxs
      have HNN : Hid _ := hNN
      have HO : Hid (wr.ownsRow w.heap.size 5 1 u0 N xs) := hown
      clear hxs hNN hown
      go_wp2_with fail
      refine (append32_any w.heap.size N ac bc.1 bc.2 u0 xs _ (HO.out.alloc _) (by simp; omega) (by omega)).mono ?_
      rintro e w1 ⟨v1, rfl, hown1, hfr1⟩
      have T1 := hfr1.rest wr.heap.size _ 32 _ (by decide) (heap_alloc_new wr _)
      have hb1 : Below w.heap.size w w1 := (hb.alloc hsz _).trans hfr1.below
      have hs1 := hb1.size
      have t1 : w1.cell? ⟨wr.heap.size, 1, none⟩ = some (.int .u8 af) := by rw [cell_of_row _ _ _ _ _ _ T1]; rfl
      have HT1 : Hid (w1.heap[wr.heap.size]? = some (.cells #[.int .u32 ac, .int .u8 af, .int .u32 av', .slice ap an ak] 32 (0, 0))) := T1
      clear T1 hfr1 d0 d1 d2 d3 hb hlt' HO
      go_wp2_with (at_builtin; refine wpList_append_own _ rfl _ _ 27 rfl w.heap.size 5 i0 (.int .u8 0) 1 1 Ybad.underlying27 hi hz0 hz1 hz2 rfl (by decide) _ _ _ rfl (hown1.alloc _) ⟨w1.heap.size, 0, none⟩ 4 4 [.int .u8 af, .int .u8 0, .int .u8 0, .int .u8 0] rfl rfl ?c1 ?c2 ?c3 ?c4 ?c5 ?_)
      case c1 => first | exact fun j u h => h | exact World.news_of_block (cs := #[.int .u8 af, .int .u8 0, .int .u8 0, .int .u8 0]) (t := 5) (fr := (0, 0)) (heap_alloc_new w1 _)
      case c2 => simp [Value.oneCell']
      case c3 => unfold maxLen; omega
      case c4 => omega
      case c5 => first | omega | (simp; omega)
      intro v2 w2 hown2 hgrow2 _
      have hfr2 : Fr w.heap.size w1 w2 := ((Fr.refl _ w1).alloc hs1 _).trans (Fr.grown (hown1.alloc _) hgrow2 (by simp; omega))
      have T2 := hfr2.rest wr.heap.size _ 32 _ (by decide) HT1.out
      have hb2 : Below w.heap.size w w2 := hb1.trans hfr2.below
      clear hgrow2 hfr2 HT1 t1 hown1 hb1 hs1
      rw [← List.append_assoc] at hown2
      replace hown2 : w2.ownsRow w.heap.size 5 1 v2 (N + 8) (xs ++ be4 ac ++ [.int .u8 af, .int .u8 0, .int .u8 0, .int .u8 0]) := hown2
      have hxl : xs.length = N := by have := hown2.1; simp [be4] at this; omega
      obtain ⟨rg, cap, cur, rfl, hcap, hrg, hcur, hcs⟩ := own_some hown2 (by omega)
      simp only [Nat.mul_one] at hcs
      have fr : ∀ q, w2.frozen? ⟨rg, q, none⟩ = false := fun q => frozen_of_row _ _ _ _ _ hcur
      have hrl : rg < w2.heap.size := lt_of_block hcur
      have cl : ∀ q, q < N + 8 → ∃ u, w2.cell? ⟨rg, q, none⟩ = some u := fun q hq => ⟨cur[q]'(by omega), by rw [cell_of_row _ _ _ _ _ _ hcur]; exact Array.getElem?_eq_getElem (by omega)⟩
      obtain ⟨y5, hy5⟩ := cl (N + 5) (by omega)
      obtain ⟨y6, hy6⟩ := cl (N + 6) (by omega)
      obtain ⟨y7, hy7⟩ := cl (N + 7) (by omega)
      have t0 : w2.cell? ⟨wr.heap.size, 0, none⟩ = some (.int .u32 ac) := by rw [cell_of_row _ _ _ _ _ _ T2]; rfl
      have t1 : w2.cell? ⟨wr.heap.size, 1, none⟩ = some (.int .u8 af) := by rw [cell_of_row _ _ _ _ _ _ T2]; rfl
      have t2 : w2.cell? ⟨wr.heap.size, 2, none⟩ = some (.int .u32 av') := by rw [cell_of_row _ _ _ _ _ _ T2]; rfl
      have t3 : w2.cell? ⟨wr.heap.size, 3, none⟩ = some (.slice ap an ak) := by rw [cell_of_row _ _ _ _ _ _ T2]; rfl
      have HT2 : Hid (w2.heap[wr.heap.size]? = some (.cells #[.int .u32 ac, .int .u8 af, .int .u32 av', .slice ap an ak] 32 (0, 0))) := T2
      have HO2 : Hid (w2.ownsRow w.heap.size 5 1 (.slice (some ⟨rg, 0, none⟩) (N + 8) cap) (N + 8) (xs ++ be4 ac ++ [.int .u8 af, .int .u8 0, .int .u8 0, .int .u8 0])) := hown2
      have hne : rg ≠ wr.heap.size := fun h => by rw [h, T2] at hcur; simp at hcur
      obtain ⟨b, hvb⟩ : ∃ b, (bits .and .u8 af 128 != 0) = b := ⟨_, rfl⟩
      have HVB : Hid ((bits .and .u8 af 128 != 0) = b) := hvb
      obtain ⟨S, hS⟩ : ∃ S : Nat, S = (if b then 12 else 8) + an := ⟨_, rfl⟩
      have hS1 : S ≤ 60000 := by rw [hS]; split <;> omega
      have HSZ : Hid (S = (if b then 12 else 8) + an) := hS
      have HC37 : Hid (∀ W : World, Calls Ybad.prog 37 #[av ac af av' ap an ak] W fun e w' => e = .returned (.int .i64 (S : Int)) ∧ w' = W.alloc (.cells #[.int .u32 ac, .int .u8 af, .int .u32 av', .slice ap an ak] 32)) := fun W => by rw [hS]; exact size_any ac af av' ap an ak (by omega) b hvb W
      have h5 : ∀ o, (w2.alloc o).cell? ⟨rg, N + 5, none⟩ = some y5 := fun o => cell_alloc o hy5
      have h6 : ∀ o, (w2.alloc o).cell? ⟨rg, N + 5 + 1, none⟩ = some y6 := fun o => cell_alloc o hy6
      have h7 : ∀ o, (w2.alloc o).cell? ⟨rg, N + 5 + 2, none⟩ = some y7 := fun o => cell_alloc o hy7
      have hfz : ∀ q o, (w2.alloc o).frozen? ⟨rg, q, none⟩ = false := fun q o => (World.frozen?_alloc_past _ _ _ hrl).trans (fr q)
      have H567 : Hid ((∀ o, (w2.alloc o).cell? ⟨rg, N + 5, none⟩ = some y5) ∧ (∀ o, (w2.alloc o).cell? ⟨rg, N + 5 + 1, none⟩ = some y6) ∧ (∀ o, (w2.alloc o).cell? ⟨rg, N + 5 + 2, none⟩ = some y7) ∧ ∀ q o, (w2.alloc o).frozen? ⟨rg, q, none⟩ = false) := ⟨h5, h6, h7, hfz⟩
      have hcap2 : ¬ cap = N + 5 := by omega
      have kw : IntKind.i64.wrap ((N : Int) + 8 - 3) = (N : Int) + 5 := by rw [IntKind.wrap_i64]; omega
      have k1 : (0 : Int) ≤ (N : Int) + 5 := by omega
      have k2 : (N : Int) + 5 ≤ (N : Int) + 8 := by omega
      have k3 : ((N : Int) + 5).toNat = N + 5 := by omega
      have k4 : N + 8 - (N + 5) = 3 := by omega
      clear hown2 hcur hcs T2 hvb hS h5 h6 h7 hfz cl fr hy5 hy6 hy7
      go_upto_region 6 with fail
      go_cut [] from 10 to 55 (fun wx => wx.ownsRow w.heap.size 5 1 (.slice (some ⟨rg, 0, none⟩) (N + 8) cap) (N + 8) (xs ++ be4 ac ++ [.int .u8 af, .int .u8 ((S : Int) / 65536 % 256), .int .u8 ((S : Int) / 256 % 256), .int .u8 ((S : Int) % 256)]) ∧ wx.heap[wr.heap.size]? = some (.cells #[.int .u32 ac, .int .u8 af, .int .u32 av', .slice ap an ak] 32 (0, 0)) ∧ Below w.heap.size w wx)
      case first =>
        go_region_with ((first | (go_at_call 37; refine (HC37.out _).mono ?_; rintro e w3 ⟨rfl, rfl⟩) | (go_at_call 36; refine (put24_any rg (N + 5) 3 _ _ _ y5 y6 y7 (by omega) ?_ ?_ ?_ ?_ ?_ ?_).mono ?_; (exact H567.out.1 _); (exact H567.out.2.1 _); (exact H567.out.2.2.1 _); (exact H567.out.2.2.2 _ _); (exact H567.out.2.2.2 _ _); (exact H567.out.2.2.2 _ _); rintro e w4 ⟨rfl, rfl⟩)))
        go_wp2_with fail
        go_meet
        case rel =>
          have hwr : IntKind.u32.wrap (S : Int) = S := by rw [IntKind.wrap_u32]; omega
          rw [hwr]
          have ht2 := HT2.out
          refine ⟨?_, ?_, ((((hb2.setCell hrg _).setCell hrg _).setCell hrg _).alloc (by simp [World.setCell]; exact hb2.size) _).drew⟩
          · have h3 := own_set (own_set (own_set HO2.out (N + 5) (.int .u8 ((S : Int) / 65536 % 256))) (N + 5 + 1) (.int .u8 ((S : Int) / 256 % 256))) (N + 5 + 2) (.int .u8 ((S : Int) % 256))
            have e3 := set3 (xs ++ be4 ac) (N + 4) (by simp [be4, hxl]) (.int .u8 af) (.int .u8 0) (.int .u8 0) (.int .u8 0) (.int .u8 ((S : Int) / 65536 % 256)) (.int .u8 ((S : Int) / 256 % 256)) (.int .u8 ((S : Int) % 256))
            rw [show ((((xs ++ be4 ac ++ [Value.int .u8 af, .int .u8 0, .int .u8 0, .int .u8 0]).set (N + 5) (.int .u8 ((S : Int) / 65536 % 256))).set (N + 5 + 1) (.int .u8 ((S : Int) / 256 % 256))).set (N + 5 + 2) (.int .u8 ((S : Int) % 256))) = _ from e3] at h3
            exact (h3.alloc _).drew
          · show (World.alloc _ _).heap[wr.heap.size]? = _
            rw [Below.heap_alloc _ _ _ (by simp [World.setCell]; exact lt_of_block ht2), Below.heap_setCell _ _ _ _ (Ne.symm hne), Below.heap_setCell _ _ _ _ (Ne.symm hne), Below.heap_setCell _ _ _ _ (Ne.symm hne)]
            exact ht2
      case rest =>
        clear t0 t1 t2 t3 HT2 HO2 H567 HC37 hcap2 kw k1 k2 k3 k4 hb2 hrl
        obtain ⟨hown3, T3, hb3⟩ := hcut
        obtain ⟨ys, hys⟩ : ∃ ys, ys = xs ++ be4 ac ++ [.int .u8 af, .int .u8 ((S : Int) / 65536 % 256), .int .u8 ((S : Int) / 256 % 256), .int .u8 ((S : Int) % 256)] := ⟨_, rfl⟩
        rw [← hys] at hown3
        have HYS : Hid _ := hys
        have t1 : wc.cell? ⟨wr.heap.size, 1, none⟩ = some (.int .u8 af) := by rw [cell_of_row _ _ _ _ _ _ T3]; rfl
        have t2 : wc.cell? ⟨wr.heap.size, 2, none⟩ = some (.int .u32 av') := by rw [cell_of_row _ _ _ _ _ _ T3]; rfl
        have HT3 : Hid (wc.heap[wr.heap.size]? = some (.cells #[.int .u32 ac, .int .u8 af, .int .u32 av', .slice ap an ak] 32 (0, 0))) := T3
        have hs3 := hb3.size
        clear T3 hys
        go_upto_if 35 with fail
        go_cut [0] from 10 to 55 (fun q wx => wx.ownsRow w.heap.size 5 1 q (N + 8 + (if b then 4 else 0)) (ys ++ (if b then be4 av' else [])) ∧ wx.heap[wr.heap.size]? = some (.cells #[.int .u32 ac, .int .u8 af, .int .u32 av', .slice ap an ak] 32 (0, 0)) ∧ Below w.heap.size w wx)
        case first =>
          cases b with
          | true =>
            have hvb := HVB.out
            go_wp2_with fail
            refine (append32_any w.heap.size (N + 8) av' bv.1 bv.2 _ ys _ hown3 hs3 (by omega)).mono ?_
            rintro e w4 ⟨v4, rfl, hown4, hfr4⟩
            have T4 := hfr4.rest wr.heap.size _ 32 _ (by decide) HT3.out
            have hb4 : Below w.heap.size w w4 := hb3.trans hfr4.below
            clear hfr4
            go_wp2_with fail
            go_meet
            case rel => exact ⟨hown4, T4, hb4⟩
          | false =>
            have hvb := HVB.out
            go_wp2_with fail
            go_meet
            case rel => exact ⟨by simpa using hown3, HT3.out, hb3⟩
        case rest =>
          clear t1 t2 HT3 hb3 hs3 hown3
          obtain ⟨hown4, T4, hb4⟩ := hcut
          obtain ⟨N4, hN4⟩ : ∃ N4, N4 = N + 8 + (if b then 4 else 0) := ⟨_, rfl⟩
          obtain ⟨zs, hzs⟩ : ∃ zs, zs = ys ++ (if b then be4 av' else []) := ⟨_, rfl⟩
          have hNb : N4 ≤ 70000000000 := by rw [hN4]; split <;> omega
          have hN48 : 8 ≤ N4 := by rw [hN4]; omega
          rw [← hN4, ← hzs] at hown4
          have HZS : Hid _ := hzs
          have HN4 : Hid _ := hN4
          have hs4 := hb4.size
          have t3 : wc.cell? ⟨wr.heap.size, 3, none⟩ = some (.slice ap an ak) := by rw [cell_of_row _ _ _ _ _ _ T4]; rfl
          have HT4 : Hid (wc.heap[wr.heap.size]? = some (.cells #[.int .u32 ac, .int .u8 af, .int .u32 av', .slice ap an ak] 32 (0, 0))) := T4
          have HO4 : Hid (wc.ownsRow w.heap.size 5 1 u0 N4 zs) := hown4
          clear T4 hzs hN4 hown4
          go_upto_region 9 with fail
          go_cut [0] from 10 to 55 (fun q wx => wx.ownsRow w.heap.size 5 1 q (N4 + an) (zs ++ cellsOf i.d) ∧ wx.heap[wr.heap.size]? = some (.cells #[.int .u32 ac, .int .u8 af, .int .u32 av', .slice ap an ak] 32 (0, 0)) ∧ Below w.heap.size w wx)
          case first =>
            rcases HBY.out.lies with ⟨hn, hk0⟩ | ⟨dg, dof, hn, hcells⟩
            · subst hn
              have han : an = 0 := by have := HBY.out.cap; omega
              subst han hk0
              have hid : i.d = [] := List.eq_nil_of_length_eq_zero HBY.out.len
              go_wp2_with (at_builtin; refine wpList_append_own_none rfl _ _ 27 rfl w.heap.size 5 i0 1 Ybad.underlying27 hi _ _ _ rfl HO4.out rfl ?_)
              go_wp2_with fail
              go_meet
              case rel => exact ⟨by rw [hid]; simpa [cellsOf] using HO4.out, HT4.out, hb4⟩
            · subst hn
              have hdl2 := HBY.out.len
              have HCE : Hid (∀ j, j < an → w.cell? ⟨dg, dof + j, none⟩ = some (.int .u8 (at' i.d j))) := hcells
              clear hcells
              go_wp2_with (at_builtin; refine wpList_append_own _ rfl _ _ 27 rfl w.heap.size 5 i0 (.int .u8 0) 1 1 Ybad.underlying27 hi hz0 hz1 hz2 rfl (by decide) _ _ _ rfl HO4.out ⟨dg, dof, none⟩ an ak (cellsOf i.d) rfl ?c0 ?c1 ?c2 ?c3 ?c4 ?c5 ?_)
              case c0 => simp [cellsOf, hdl2]
              case c1 =>
                intro q u hq
                obtain ⟨h1, rfl⟩ := cellsOf_get _ _ _ hq
                have hh := HCE.out q (by omega)
                first
                  | exact (hb4.cell (World.block_lt_of_cell? w _ hh)).trans hh
                  | (rw [Addr.add_lit]; exact (hb4.cell (World.block_lt_of_cell? w _ hh)).trans hh)
              case c2 => intro u hu; simp only [cellsOf, List.mem_map] at hu; obtain ⟨_, _, rfl⟩ := hu; rfl
              case c3 => unfold maxLen; omega
              case c4 => omega
              case c5 => first | omega | (simp; omega)
              intro v5 w5 hown5 hgrow5 _
              have hfr5 : Fr w.heap.size wc w5 := Fr.grown HO4.out hgrow5 hs4
              have T5 := hfr5.rest wr.heap.size _ 32 _ (by decide) HT4.out
              have hb5 : Below w.heap.size w w5 := hb4.trans hfr5.below
              clear hgrow5 hfr5
              go_wp2_with fail
              go_meet
              case rel => exact ⟨hown5, T5, hb5⟩
          case rest =>
            clear t3 HT4 HO4 hb4 hs4
            obtain ⟨hown5, T5, hb5⟩ := hcut
            obtain ⟨rg5, cap5, _, hv5, _⟩ := own_some hown5 (by omega)
            subst hv5
            have hs5 := hb5.size
            have t3 : wc.cell? ⟨wr.heap.size, 3, none⟩ = some (.slice ap an ak) := by rw [cell_of_row _ _ _ _ _ _ T5]; rfl
            have HO5 : Hid (wc.ownsRow w.heap.size 5 1 (.slice (some ⟨rg5, 0, none⟩) (N4 + an) cap5) (N4 + an) (zs ++ cellsOf i.d)) := hown5
            clear T5 hown5
            obtain ⟨pz, hpz⟩ : ∃ pz : Nat, pz = (an + 3) / 4 * 4 := ⟨_, rfl⟩
            obtain ⟨kz, hkz⟩ : ∃ kz : Nat, pz = an + kz := ⟨pz - an, by omega⟩
            have hk3 : kz ≤ 3 := by omega
            have kp : IntKind.i64.wrap ((pz : Int) - (an : Int)) = (kz : Int) := by rw [IntKind.wrap_i64]; omega
            have HP : Hid (∀ W : World, Calls Ybad.prog 38 #[.int .i64 an] W fun e w' => e = .returned (.int .i64 (pz : Int)) ∧ w' = W) := fun W => by rw [hpz]; exact pad_any an (by omega) W
            have HPZ : Hid (pz = (an + 3) / 4 * 4 ∧ pz = an + kz) := ⟨hpz, hkz⟩
            obtain ⟨v6, w6, hr6, hown6, hgrow6⟩ := zeros_run wc.drew w.heap.size (N4 + an) rg5 cap5 kz 27 _ HO5.out.drew hk3 (by omega) hs5
            have hb6 : Below w.heap.size w w6 := hb5.drew.grown hgrow6 hs5 (fun q hq => by cases hq; exact (HO5.out.lt _ rfl).1)
            have HR6 : Hid ((Builtin.append_ #[27, 3] 27 #[.slice (some ⟨rg5, 0, none⟩) (N4 + an) cap5, .int .i64 (kz : Int)]).run Ybad.prog wc.drew = .ok v6 w6) := hr6
            clear hr6 hgrow6 hpz hkz
            go_upto_region 10 with fail
            go_region_law ((first | (refine step_zeros (by rfl) (.tmp 45) (.tmp 53) 27 3 (by rfl) (.slice (some ⟨rg5, 0, none⟩) (N4 + an) cap5) (.int .i64 (kz : Int)) (by rfl) (by first | rfl | exact congrArg (Value.int .i64) kp) v6 w6 HR6.out ?_) | (go_simp; go_at_call 38; refine (HP.out _).mono ?_; rintro e w7 ⟨rfl, hw7⟩; subst hw7)))
            all_goals
              go_wp2_with fail
              go_roundw
              case rel =>
                obtain ⟨q1, q2⟩ := HPZ.out
                obtain ⟨rfl, rfl, rfl⟩ := HC.out
                have hdl2 := HBY.out.len
                have e2 : padded i.d.length = pz := by rw [hdl2]; exact q1.symm
                have e3 : vb i.f = b := HVB.out
                have e4 : sz i = S := by rw [sz, e3, hdl2]; exact HSZ.out.symm
                have e5 := enc_take its j i HI.out
                have e6 : (enc (its.take (j + 1))).length = N4 + an + kz := by
                  rw [e5, List.length_append, encOne_len, e3, e2, HNN.out, q2, HN4.out]; omega
                have e7 : cellsOf (enc (its.take (j + 1))) = zs ++ cellsOf i.d ++ List.replicate kz (.int .u8 0) := by
                  rw [e5, show cellsOf (enc (its.take j) ++ encOne i) = cellsOf (enc (its.take j)) ++ cellsOf (encOne i) by simp [cellsOf], enc_cells i bc bf bv, e3, e4, e2, HXS.out, HZS.out, HYS.out, hdl2, show pz - an = kz by omega]
                  simp only [List.append_assoc]
                refine ⟨j + 1, by go_num, by omega, ?_, by rw [e6, e7]; exact hown6, hb6⟩
                have h1 := HEL.out
                have h2 := HNN.out
                have h3 := HN4.out
                rw [e6, h3]
                split <;> omega
              case measure => simp [intOf]; omega
    · have hlt' : ¬ (j : Int) < (avs.length : Int) := by omega
      have hjj : j = avs.length := by omega
      subst hjj
      go_wp2_with fail
      go_ret
      have e1 : its.take avs.length = its := List.take_of_length_le (by rw [HIL.out]; exact Nat.le_refl _)
      rw [e1] at hown
      exact ⟨_, rfl, hown, hb⟩
end Go.Proofs.YbulkcjpcDoor
