/-
  defined, slices.ContainsFunc, slices.IndexFunc, unsupported.
-/
import Derived.Test.YbulkcjpcDoorEnc
namespace Go.Proofs.YbulkcjpcDoor
open Go.RowKit
set_option maxRecDepth 100000

/-- A slice of AVPDefs that reads ds (code, vendor, mandatory). -/
structure Defs (w : World) (g o : Nat) (ds : List (Int × Int × Bool)) : Prop where
  at0 : ∀ (j : Nat) (d : Int × Int × Bool), ds[j]? = some d → w.cell? ⟨g, o + j * 3, none⟩ = some (.int .u32 d.1) ∧ w.cell? ⟨g, o + j * 3 + 1, none⟩ = some (.int .u32 d.2.1) ∧ w.cell? ⟨g, o + j * 3 + 2, none⟩ = some (.bool d.2.2)
theorem Defs.below {w w' : World} {g o : Nat} {ds : List (Int × Int × Bool)} (h : Defs w g o ds) (hb : Below w.heap.size w w') : Defs w' g o ds :=
  ⟨fun j d hj => by
    obtain ⟨h1, h2, h3⟩ := h.at0 j d hj
    have hl := World.block_lt_of_cell? w _ h1
    exact ⟨(hb.cell hl).trans h1, (hb.cell (p := ⟨g, o + j * 3 + 1, none⟩) hl).trans h2, (hb.cell (p := ⟨g, o + j * 3 + 2, none⟩) hl).trans h3⟩⟩

def hit (c v : Int) (d : Int × Int × Bool) : Bool := decide (c = d.1) && decide (v = d.2.1)

theorem hit_any (ab : Nat) (c f v : Int) (p : Option Addr) (n k : Nat) (d : Int × Int × Bool) (w : World) (h : w.heap[ab]? = some (.cells #[.int .u32 c, .int .u8 f, .int .u32 v, .slice p n k] 32 (0, 0))) :
    Calls Ybad.prog 47 #[df d.1 d.2.1 d.2.2, .pointer (some ⟨ab, 0, none⟩)] w fun e w' => e = .returned (.bool (hit c v d)) ∧ Below w.heap.size w w' := by
  have hl := lt_of_block h
  have c0 : ∀ o, (w.alloc o).cell? ⟨ab, 0, none⟩ = some (.int .u32 c) := fun o => cell_alloc o (by rw [cell_of_row _ _ _ _ _ _ h]; rfl)
  have c1 : ∀ o, (w.alloc o).cell? ⟨ab, 1, none⟩ = some (.int .u8 f) := fun o => cell_alloc o (by rw [cell_of_row _ _ _ _ _ _ h]; rfl)
  have c2 : ∀ o, (w.alloc o).cell? ⟨ab, 2, none⟩ = some (.int .u32 v) := fun o => cell_alloc o (by rw [cell_of_row _ _ _ _ _ _ h]; rfl)
  have c3 : ∀ o, (w.alloc o).cell? ⟨ab, 3, none⟩ = some (.slice p n k) := fun o => cell_alloc o (by rw [cell_of_row _ _ _ _ _ _ h]; rfl)
  obtain ⟨dc, dv, dm⟩ := d
  clear h
  go_enter Ybad.func47, Ybad.ntmps47
  go_wp2_with fail
  refine (is_any c f v p n k dc dv dm _).mono ?_
  rintro e w2 ⟨rfl, hb⟩
  clear c0 c1 c2 c3
  go_wp2_with fail
  go_ret
  exact ⟨rfl, ((Below.refl _ w).alloc (Nat.le_refl _) _).trans (hb.mono (by simp))⟩

set_option maxHeartbeats 1600000 in
theorem index_any (ab g o : Nat) (m k' : Nat) (c f v : Int) (p : Option Addr) (n k : Nat) (ds : List (Int × Int × Bool)) (w : World) (h : w.heap[ab]? = some (.cells #[.int .u32 c, .int .u8 f, .int .u32 v, .slice p n k] 32 (0, 0)))
    (hm : ds.length = m) (hm2 : m ≤ 1000) (hds : Defs w g o ds) :
    Calls Ybad.prog 49 #[.slice (some ⟨g, o, none⟩) m k', .func (Fn.func 47) #[] #[.pointer (some ⟨ab, 0, none⟩)]] w fun e w' => ∃ r : Int, e = .returned (.int .i64 r) ∧ decide (0 ≤ r) = ds.any (hit c v) ∧ Below w.heap.size w w' := by
  have HD : Hid (Defs w g o ds) := hds
  have HM : Hid (ds.length = m) := hm
  have HA : Hid (w.heap[ab]? = some (.cells #[.int .u32 c, .int .u8 f, .int .u32 v, .slice p n k] 32 (0, 0))) := h
  clear h hm hds
  go_enter Ybad.func49, Ybad.ntmps49
  go_wp2_with fail
  go_loopw [8] (fun i wr => ∃ j : Nat, i = .int .i64 j ∧ j ≤ m ∧ (ds.take j).any (hit c v) = false ∧ Below w.heap.size w wr) (fun i _ => m - (intOf i).toNat)
  case atStart => exact ⟨0, rfl, Nat.zero_le _, by simp, Below.refl _ _⟩
  case round =>
    obtain ⟨j, rfl, hj, hany, hb⟩ := hrel
    have HN : Hid ((ds.take j).any (hit c v) = false) := hany
    clear hany
    by_cases hlt : j < m
    · have hlt' : (j : Int) < (m : Int) := by omega
      have hj0 : (0 : Int) ≤ (j : Int) := Int.natCast_nonneg _
      obtain ⟨d, hd⟩ : ∃ d, ds[j]? = some d := ⟨_, List.getElem?_eq_getElem (by rw [HM.out]; exact hlt)⟩
      obtain ⟨e0, e1, e2⟩ := HD.out.at0 j d hd
      have hgl := World.block_lt_of_cell? w _ e0
      have d0 := (hb.cell hgl).trans e0
      have d1 := (hb.cell (p := ⟨g, o + j * 3 + 1, none⟩) hgl).trans e1
      have d2 := (hb.cell (p := ⟨g, o + j * 3 + 2, none⟩) hgl).trans e2
      have HJ : Hid (ds[j]? = some d) := hd
      clear e0 e1 e2 hd
      go_wp2_with fail
      refine (hit_any ab c f v p n k d wr ((hb.block _ (lt_of_block HA.out)).trans HA.out)).mono ?_
      rintro e w2 ⟨rfl, hb2⟩
      have hb2' : Below w.heap.size w w2 := hb.trans (hb2.mono hb.size)
      clear d0 d1 d2 hb2 hb
      cases hh : hit c v d with
      | true =>
        go_wp2_with fail
        go_ret
        refine ⟨_, rfl, ?_, hb2'⟩
        have : ds.any (hit c v) = true := List.any_eq_true.2 ⟨d, List.mem_of_getElem? HJ.out, hh⟩
        rw [this]; simp
      | false =>
        go_wp2_with fail
        go_roundw
        case rel =>
          refine ⟨j + 1, by go_num, by omega, ?_, hb2'⟩
          rw [List.take_add_one, HJ.out, List.any_append, HN.out]; simp [hh]
        case measure => simp [intOf]; omega
    · have hlt' : ¬ (j : Int) < (m : Int) := by omega
      go_wp2_with fail
      go_ret
      refine ⟨_, rfl, ?_, hb⟩
      have : ds.take j = ds := List.take_of_length_le (by rw [HM.out]; omega)
      have h2 := HN.out
      rw [this] at h2
      rw [h2]; rfl

theorem contains_any (ab g o : Nat) (m k' : Nat) (c f v : Int) (p : Option Addr) (n k : Nat) (ds : List (Int × Int × Bool)) (w : World) (h : w.heap[ab]? = some (.cells #[.int .u32 c, .int .u8 f, .int .u32 v, .slice p n k] 32 (0, 0)))
    (hm : ds.length = m) (hm2 : m ≤ 1000) (hds : Defs w g o ds) :
    Calls Ybad.prog 46 #[.slice (some ⟨g, o, none⟩) m k', .func (Fn.func 47) #[] #[.pointer (some ⟨ab, 0, none⟩)]] w fun e w' => e = .returned (.bool (ds.any (hit c v))) ∧ Below w.heap.size w w' := by
  have H1 : Hid (w.heap[ab]? = some (.cells #[.int .u32 c, .int .u8 f, .int .u32 v, .slice p n k] 32 (0, 0))) := h
  have H2 : Hid (ds.length = m) := hm
  have H3 : Hid (Defs w g o ds) := hds
  clear h hm hds
  go_enter Ybad.func46, Ybad.ntmps46
  go_wp2_with fail
  refine (index_any ab g o m k' c f v p n k ds w H1.out H2.out hm2 H3.out).mono ?_
  rintro e w2 ⟨r, rfl, hr, hb⟩
  go_wp2_with fail
  go_ret
  exact ⟨by rw [← hr]; rfl, hb⟩

theorem defined_any (g o : Nat) (m k' : Nat) (c f v : Int) (p : Option Addr) (n k : Nat) (ds : List (Int × Int × Bool)) (w : World) (hm : ds.length = m) (hm2 : m ≤ 1000) (hds : Defs w g o ds) :
    Calls Ybad.prog 41 #[av c f v p n k, .slice (some ⟨g, o, none⟩) m k'] w fun e w' => e = .returned (.bool (ds.any (hit c v))) ∧ Below w.heap.size w w' := by
  have hmf : ∀ (fn : Fn) (first cp : Array Value) (w : World), (Instr.makeFunc fn first cp).run Ybad.prog w = .ok (.func fn first cp) w := fun _ _ _ _ => rfl
  have H2 : Hid (ds.length = m) := hm
  have H3 : Hid (Defs w g o ds) := hds
  clear hm hds
  go_enter Ybad.func41, Ybad.ntmps41
  go_wp2_with fail
  refine (contains_any w.heap.size g o m k' c f v p n k ds (w.alloc (.cells #[.int .u32 c, .int .u8 f, .int .u32 v, .slice p n k] 32)) (heap_alloc_new w _) H2.out hm2 (H3.out.below ((Below.refl _ w).alloc (Nat.le_refl _) _))).mono ?_
  rintro e w2 ⟨rfl, hb⟩
  go_wp2_with fail
  go_ret
  exact ⟨rfl, ((Below.refl _ w).alloc (Nat.le_refl _) _).trans (hb.mono (by simp))⟩

/-- The closure that Members hands to unsupported. -/
theorem known_any (gb g o : Nat) (m k' : Nat) (c f v : Int) (p : Option Addr) (n k : Nat) (ds : List (Int × Int × Bool)) (w : World) (hg : w.heap[gb]? = some (.cells #[.slice (some ⟨g, o, none⟩) m k'] 23 (0, 0))) (hm : ds.length = m) (hm2 : m ≤ 1000) (hds : Defs w g o ds) :
    Calls Ybad.prog 40 #[av c f v p n k, .pointer (some ⟨gb, 0, none⟩)] w fun e w' => e = .returned (.bool (ds.any (hit c v))) ∧ Below w.heap.size w w' := by
  have c0 : ∀ ob, (w.alloc ob).cell? ⟨gb, 0, none⟩ = some (.slice (some ⟨g, o, none⟩) m k') := fun ob => cell_alloc ob (by rw [cell_of_row _ _ _ _ _ _ hg]; rfl)
  have H2 : Hid (ds.length = m) := hm
  have H3 : Hid (Defs w g o ds) := hds
  clear hm hds hg
  go_enter Ybad.func40, Ybad.ntmps40
  go_wp2_with fail
  refine (defined_any g o m k' c f v p n k ds (w.alloc (.cells #[.int .u32 c, .int .u8 f, .int .u32 v, .slice p n k] 32)) H2.out hm2 (H3.out.below ((Below.refl _ w).alloc (Nat.le_refl _) _))).mono ?_
  rintro e w2 ⟨rfl, hb⟩
  clear c0
  go_wp2_with fail
  go_ret
  exact ⟨rfl, ((Below.refl _ w).alloc (Nat.le_refl _) _).trans (hb.mono (by simp))⟩


def mb (f : Int) : Bool := bits .and .u8 f 64 != 0
/-- An AVP that the reader need not refuse. -/
def okBy (ds : List (Int × Int × Bool)) (i : It) : Bool := !mb i.f || ds.any (hit i.c i.v)

def allOk (ds : List (Int × Int × Bool)) (its : List It) : Bool := its.all (okBy ds)

/-- An *Error of the code. -/
def ErrAt (w : World) (er : Value) (code : Int) : Prop := ∃ eb s, er = .iface 78 (.pointer (some ⟨eb, 0, none⟩)) ∧ w.heap[eb]? = some (.cells #[.int .u32 code, .int .u32 0, s] 81 (0, 0))
theorem ErrAt.below {w w' : World} {er : Value} {code : Int} (h : ErrAt w er code) (hb : Below w.heap.size w w') : ErrAt w' er code := by
  obtain ⟨eb, s, h1, h2⟩ := h
  exact ⟨eb, s, h1, (hb.block _ (lt_of_block h2)).trans h2⟩

theorem own_base {w : World} {B B' size n : Nat} {e : TypeId} {v : Value} {xs : List Value} (h : w.ownsRow B e size v n xs) (hB : B' ≤ B) : w.ownsRow B' e size v n xs := by
  refine ⟨h.1, ?_⟩
  rcases h.2 with h | ⟨g, cap, cur, h1, h2, h3⟩
  · exact .inl h
  · exact .inr ⟨g, cap, cur, h1, by omega, h3⟩
theorem own_below {w w' : World} {B size n : Nat} {e : TypeId} {v : Value} {xs : List Value} (h : w.ownsRow B e size v n xs) (hb : Below w.heap.size w w') : w'.ownsRow B e size v n xs :=
  h.kept (row := none) ⟨hb.os, hb.tape, hb.output, hb.size, fun k hk _ => hb.block k hk⟩ (by cases hv : v.ownBlock <;> simp)

set_option maxHeartbeats 1600000 in
theorem unsupported_any (sl : Value) (avs : List Av) (its : List It) (gb g o m k' : Nat) (ds : List (Int × Int × Bool)) (w w0 : World) (hsl : w.ownsRow 0 32 4 sl avs.length (avs.flatMap Av.cells)) (hfit : All2 (Fits w0) avs its) (hmm : avs.length ≤ 1000000)
    (hg : w.heap[gb]? = some (.cells #[.slice (some ⟨g, o, none⟩) m k'] 23 (0, 0))) (hm : ds.length = m) (hm2 : m ≤ 1000) (hds : Defs w g o ds) :
    Calls Ybad.prog 39 #[sl, .func (Fn.func 40) #[] #[.pointer (some ⟨gb, 0, none⟩)]] w fun e w' => ∃ er, e = .returned er ∧ Below w.heap.size w w' ∧ ((allOk ds its = true ∧ er = .nilIface) ∨ (allOk ds its = false ∧ ErrAt w' er 5001)) := by
  obtain ⟨p, q, k, hsv, hq⟩ : ∃ p q k, sl = .slice p q k ∧ q = avs.length := by
    rcases hsl.2 with ⟨h, h2⟩ | ⟨g, cap, cur, h, _⟩
    · exact ⟨_, _, _, h, h2.symm⟩
    · exact ⟨_, _, _, h, rfl⟩
  subst hsv hq
  have HIL : Hid (avs.length = its.length) := hfit.length
  have HS : Hid (w.ownsRow 0 32 4 (.slice p avs.length k) avs.length (avs.flatMap Av.cells)) := hsl
  have HF : Hid (All2 (Fits w0) avs its) := hfit
  have H1 : Hid (w.heap[gb]? = some (.cells #[.slice (some ⟨g, o, none⟩) m k'] 23 (0, 0))) := hg
  have H2 : Hid (ds.length = m) := hm
  have H3 : Hid (Defs w g o ds) := hds
  clear hsl hfit hm hds hg
  go_enter Ybad.func39, Ybad.ntmps39
  go_wp2_with fail
  go_loopw [9] (fun i wr => ∃ j : Nat, i = .int .i64 j ∧ j ≤ avs.length ∧ (its.take j).all (okBy ds) = true ∧ Below w.heap.size w wr) (fun i _ => avs.length - (intOf i).toNat)
  case atStart => exact ⟨0, rfl, Nat.zero_le _, by simp, Below.refl _ _⟩
  case round =>
    obtain ⟨j, rfl, hj, hall, hb⟩ := hrel
    have HN : Hid ((its.take j).all (okBy ds) = true) := hall
    have hsz := hb.size
    clear hall
    by_cases hlt : j < avs.length
    · have hlt' : (j : Int) < (avs.length : Int) := by omega
      obtain ⟨a, i, ha, hii, hf⟩ := HF.out.get j hlt
      obtain ⟨ag, hp⟩ : ∃ ag, p = some ⟨ag, 0, none⟩ := by
        rcases HS.out.2 with ⟨h, h2⟩ | ⟨g, cap, cur, h, _⟩
        · omega
        · cases h; exact ⟨g, rfl⟩
      subst hp
      obtain ⟨c0, c1, c2, c3⟩ := row_cell HS.out j a ha
      have d0 := (hb.cell (World.block_lt_of_cell? w _ c0)).trans c0
      have d1 := (hb.cell (World.block_lt_of_cell? w _ c1)).trans c1
      have d2 := (hb.cell (World.block_lt_of_cell? w _ c2)).trans c2
      have d3 := (hb.cell (World.block_lt_of_cell? w _ c3)).trans c3
      obtain ⟨ac, af, av', ap, an, ak⟩ := a
      obtain ⟨hc, hff, hvv, -, -, -, -⟩ := hf
      simp only at hc hff hvv d0 d1 d2 d3
      have HC : Hid (ac = i.c ∧ af = i.f ∧ av' = i.v) := ⟨hc, hff, hvv⟩
      have HI : Hid (its[j]? = some i) := hii
      have HK : Hid (Calls Ybad.prog 40 #[av ac af av' ap an ak, .pointer (some ⟨gb, 0, none⟩)] (wr.alloc (.cells #[.int .u32 ac, .int .u8 af, .int .u32 av', .slice ap an ak] 32)) fun e w' => e = .returned (.bool (ds.any (hit ac av'))) ∧ Below (wr.alloc (.cells #[.int .u32 ac, .int .u8 af, .int .u32 av', .slice ap an ak] 32)).heap.size (wr.alloc (.cells #[.int .u32 ac, .int .u8 af, .int .u32 av', .slice ap an ak] 32)) w') := by
        have hb' : Below w.heap.size w (wr.alloc (.cells #[.int .u32 ac, .int .u8 af, .int .u32 av', .slice ap an ak] 32)) := hb.alloc hsz _
        exact known_any gb g o m k' ac af av' ap an ak ds _ ((hb'.block _ (lt_of_block H1.out)).trans H1.out) H2.out hm2 (H3.out.below hb')
      clear c0 c1 c2 c3 ha hii hc hff hvv
      cases hmb : (bits BinOp.and IntKind.u8 af 64 != 0) with
      | false =>
        go_wp2_with fail
        go_roundw
        case rel =>
          refine ⟨j + 1, by go_num, by omega, ?_, hb.alloc hsz _⟩
          obtain ⟨rfl, rfl, rfl⟩ := HC.out
          rw [List.take_add_one, HI.out, List.all_append, HN.out]
          simp [okBy, mb, hmb]
        case measure => simp [intOf]; omega
      | true =>
        go_wp2_with fail
        refine HK.out.mono ?_
        rintro e w2 ⟨rfl, hb2⟩
        have hb2' : Below w.heap.size w w2 := (hb.alloc hsz _).trans (hb2.mono (by simp; omega))
        have T2 := (hb2.block wr.heap.size (by simp)).trans (heap_alloc_new wr _)
        have t0 : w2.cell? ⟨wr.heap.size, 0, none⟩ = some (.int .u32 ac) := by rw [cell_of_row _ _ _ _ _ _ T2]; rfl
        have t1 : w2.cell? ⟨wr.heap.size, 1, none⟩ = some (.int .u8 af) := by rw [cell_of_row _ _ _ _ _ _ T2]; rfl
        have t2 : w2.cell? ⟨wr.heap.size, 2, none⟩ = some (.int .u32 av') := by rw [cell_of_row _ _ _ _ _ _ T2]; rfl
        have t3 : w2.cell? ⟨wr.heap.size, 3, none⟩ = some (.slice ap an ak) := by rw [cell_of_row _ _ _ _ _ _ T2]; rfl
        have hs2 := hb2'.size
        clear d0 d1 d2 d3 hb2 hb T2
        cases hh : ds.any (hit ac av') with
        | true =>
          go_wp2_with fail
          go_roundw
          case rel =>
            refine ⟨j + 1, by go_num, by omega, ?_, hb2'⟩
            obtain ⟨rfl, rfl, rfl⟩ := HC.out
            rw [List.take_add_one, HI.out, List.all_append, HN.out]
            simp [okBy, hh]
          case measure => simp [intOf]; omega
        | false =>
          go_wp2_with fail
          go_ret
          refine ⟨_, rfl, (hb2'.alloc hs2 _).alloc (by simp; omega) _, .inr ⟨?_, _, .slice (some ⟨w2.heap.size, 0, none⟩) 1 1, rfl, ?_⟩⟩
          · obtain ⟨rfl, rfl, rfl⟩ := HC.out
            refine List.all_eq_false.2 ⟨i, List.mem_of_getElem? HI.out, ?_⟩
            simp [okBy, mb, hmb, hh]
          · exact heap_new2 w2 _ _
    · have hlt' : ¬ (j : Int) < (avs.length : Int) := by omega
      go_wp2_with fail
      go_ret
      refine ⟨_, rfl, hb, .inl ⟨?_, rfl⟩⟩
      have : its.take j = its := List.take_of_length_le (by rw [← HIL.out]; omega)
      have h2 := HN.out
      rwa [this] at h2

end Go.Proofs.YbulkcjpcDoor
