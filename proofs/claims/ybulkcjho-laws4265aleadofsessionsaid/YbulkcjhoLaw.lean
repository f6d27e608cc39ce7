/-
  LawS4265ALeadOfSession: the walk.
-/
import Derived.Test.YbulkcjhoBuild
import Derived.LaidEqlPtr
import Derived.Deep.QuietTactic
import Derived.BigQuiet
import Derived.Deep.RegionWith
namespace Go.Proofs.Ybulkcjho
open Go.RowKit

/-- The same memory and streams. -/
structure Same (a b : World) : Prop where
  heap : b.heap = a.heap
  os : b.os = a.os
  tape : b.tape = a.tape
  output : b.output = a.output
theorem Same.cell {a b : World} (h : Same a b) (x : Addr) : b.cell? x = a.cell? x := World.cell?_of_block (by rw [h.heap])
theorem Same.frozen {a b : World} (h : Same a b) (x : Addr) : b.frozen? x = a.frozen? x := World.frozen?_of_block (by rw [h.heap])
theorem Same.drewN {a b : World} (h : Same a b) (n : Nat) : Same a (b.drewN n) := ⟨h.heap, h.os, h.tape, h.output⟩
theorem Same.below {a b w : World} {B : Nat} (h : Same a b) (hb : Below B w a) : Below B w b :=
  hb.trans ⟨h.os, h.tape, h.output, by rw [h.heap]; exact Nat.le_refl _, fun k _ => by rw [h.heap]⟩

theorem LockFree.same {sb : Nat} {a b : World} (h : LockFree sb a) (hs : Same a b) : LockFree sb b :=
  ⟨(hs.cell _).trans h.c0, (hs.cell _).trans h.c2, (hs.cell _).trans h.c3, (hs.cell _).trans h.c4, (hs.frozen _).trans h.f4⟩
theorem LockFree.below {sb : Nat} {a b : World} (h : LockFree sb a) (hb : Below a.heap.size a b) : LockFree sb b := by
  have l := World.block_lt_of_cell? a _ h.c0
  exact ⟨(hb.cell (p := ⟨sb, 0, none⟩) l).trans h.c0, (hb.cell (p := ⟨sb, 2, none⟩) l).trans h.c2, (hb.cell (p := ⟨sb, 3, none⟩) l).trans h.c3, (hb.cell (p := ⟨sb, 4, none⟩) l).trans h.c4, (hb.frozen (p := ⟨sb, 4, none⟩) l).trans h.f4⟩

/-- Draw number i of a session answers the session's lead. -/
theorem Sess.leads {lo sb tb g n k zk : Nat} {w : World} (h : Sess lo sb tb g n k zk w) (hL : LockFree sb w) (i : Nat) (hi : i < n) :
    ∃ z, w.cell? ⟨g, i, none⟩ = some (.pointer (some ⟨z, 0, none⟩)) ∧ ∀ W, Same w W → Calls Yba.prog 6 #[.pointer (some ⟨z, 0, none⟩)] W fun e w' => e = .returned (.pointer (some ⟨zk, 0, none⟩)) ∧ w' = W := by
  obtain ⟨cur, r1, r2, r3⟩ := h.row
  obtain ⟨z, _, z2, c, z3, z4, z5⟩ := r3 i hi
  obtain ⟨cs, s1, s2⟩ := h.set
  refine ⟨z, by rw [cell_of_row _ _ _ _ _ _ r1]; exact z2, fun W hs => ?_⟩
  exact lead_any sb z tb ⟨zk, 0, none⟩ W (hL.same hs) ((hs.cell _).trans (by rw [cell_of_row _ _ _ _ _ _ z3]; exact z4)) ((hs.cell _).trans (by rw [cell_of_row _ _ _ _ _ _ z3]; exact z5))
    ((hs.cell _).trans (by rw [cell_of_row _ _ _ _ _ _ s1]; exact s2))

theorem Sess.set0 {lo sb tb g n k zk : Nat} {w : World} (h : Sess lo sb tb g n k zk w) : w.cell? ⟨tb, 0, none⟩ = some (.pointer (some ⟨zk, 0, none⟩)) := by
  obtain ⟨cs, s1, s2⟩ := h.set
  rw [cell_of_row _ _ _ _ _ _ s1]; exact s2
theorem Sess.leadBlock {lo sb tb g n k zk : Nat} {w : World} (h : Sess lo sb tb g n k zk w) : ∃ c, w.heap[zk]? = some (.cells c 122 (0, 0)) := by
  obtain ⟨cur, r1, r2, r3⟩ := h.row
  obtain ⟨z, _, z2, c, z3, _⟩ := r3 k h.klt
  have := h.lead
  rw [cell_of_row _ _ _ _ _ _ r1, z2] at this
  simp at this
  subst this
  exact ⟨c, z3⟩

theorem Yba.info122 : (Yba.prog.info? 122).map (fun i => decide (i.size = 0)) = some false := by kernel_rfl
theorem info122_parts : ∃ j, Yba.prog.info? 122 = some j ∧ j.size ≠ 0 := by
  obtain ⟨j, h1, h2⟩ := Option.map_eq_some_iff.1 Yba.info122
  exact ⟨j, h1, by simpa using h2⟩

theorem neq_same (a : Addr) (w : World) : (binOp .neq 96 (.pointer (some a)) (.pointer (some a))).run Yba.prog w = .ok (.bool false) w := by
  obtain ⟨j, hj, _⟩ := info122_parts
  have h : ∀ d : Nat, (Op.equalIn (d + 1) 96 (.pointer (some a)) (.pointer (some a))).run Yba.prog w = .ok true w := fun d => by
    simp [Op.equalIn, run_underlying Yba.underlying96, sizeOf, typeInfo, hj, run_sameAddr_same]
  simp only [binOp]
  simp [Op.equal, Op.maxDepth, h 9999]
theorem neq_other {a b : Addr} {ca cb : Array Value} {ta tb : TypeId} (w : World) (hne : a ≠ b) (ha : w.heap[a.block]? = some (.cells ca ta (0, 0))) (hb : w.heap[b.block]? = some (.cells cb tb (0, 0))) :
    (binOp .neq 96 (.pointer (some a)) (.pointer (some b))).run Yba.prog w = .ok (.bool true) w := by
  obtain ⟨j, hj, hsz⟩ := info122_parts
  have h : ∀ d : Nat, (Op.equalIn (d + 1) 96 (.pointer (some a)) (.pointer (some b))).run Yba.prog w = .ok false w := fun d => by
    simp [Op.equalIn, run_underlying Yba.underlying96, sizeOf, typeInfo, hj, hsz, run_sameAddr_other w hne ha hb]
  simp only [binOp]
  simp [Op.equal, Op.maxDepth, h 9999]

theorem build92 (w : World) : (Instr.build 92 #[]).run Yba.prog w = .ok (.agg Yba.zeroCells92) w := by kernel_rfl

theorem box92 (w : World) : (Instr.box 92 (.agg Yba.zeroCells92)).run Yba.prog w = .ok (.pointer (some ⟨w.heap.size, 0, none⟩)) (w.alloc (.cells Yba.zeroCells92 92)) := by kernel_rfl

theorem wpList_build92 {ops : Array Oper} {rest : List Oper} {o : Oper} {a : Act} {w : World} {Q : Exit → Act → World → Prop} (hgd : o.guard = none) (ho : o.op = .build 92 #[])
    (h : wpList Yba.prog ops Q rest (a.put o.dst (.agg Yba.zeroCells92)) w) : wpList Yba.prog ops Q (o :: rest) a w :=
  wpList_plain hgd fun _ hK => by
    have hm : (#[] : Array (Nat × Operand)).map (fun (i, x) => (i, a.eval x)) = #[] := by simp
    unfold Oper.wp execOp
    simp only [ho, hm, Sem.run_bind, build92, Sem.run_pure, Result.andThen_ok]
    exact hK _ _ h

theorem wpList_box92 {ops : Array Oper} {rest : List Oper} {o : Oper} {a : Act} {w : World} {Q : Exit → Act → World → Prop} (hgd : o.guard = none) (x : Operand) (ho : o.op = .box 92 x) (hx : a.eval x = .agg Yba.zeroCells92)
    (h : wpList Yba.prog ops Q rest (a.put o.dst (.pointer (some ⟨w.heap.size, 0, none⟩))) (w.alloc (.cells Yba.zeroCells92 92))) : wpList Yba.prog ops Q (o :: rest) a w :=
  wpList_plain hgd fun _ hK => by
    unfold Oper.wp execOp
    simp only [ho, hx, Sem.run_bind, box92, Sem.run_pure, Result.andThen_ok]
    exact hK _ _ h

theorem lockFree_new (w : World) : LockFree w.heap.size (w.alloc (.cells Yba.zeroCells92 92)) := by
  have hb := heap_alloc_new w (.cells Yba.zeroCells92 92)
  refine ⟨?_, ?_, ?_, ?_, frozen_of_row _ _ _ _ _ hb⟩
  · rw [cell_of_row _ _ _ _ _ _ hb]; kernel_rfl
  · rw [cell_of_row _ _ _ _ _ _ hb]; kernel_rfl
  · rw [cell_of_row _ _ _ _ _ _ hb]; kernel_rfl
  · rw [cell_of_row _ _ _ _ _ _ hb]; kernel_rfl

set_option maxRecDepth 100000 in
set_option maxHeartbeats 800000 in
theorem law_walk (a0 a1 a2 a3 : Int) (h0 : 0 ≤ a0 ∧ a0 ≤ 255) (h1 : 0 ≤ a1 ∧ a1 ≤ 255) (h2 : 0 ≤ a2 ∧ a2 ≤ 255) (h3 : 0 ≤ a3 ∧ a3 ≤ 255) (w : World) :
    Calls Yba.prog 3 #[.int .u8 a0, .int .u8 a1, .int .u8 a2, .int .u8 a3] w fun e w' => e = .returned (.bool true) ∧ Below w.heap.size w w' := by
  obtain ⟨h00, h01⟩ := h0
  obtain ⟨h10, h11⟩ := h1
  obtain ⟨h20, h21⟩ := h2
  obtain ⟨h30, h31⟩ := h3
  have hneq := neq_same
  go_enter Yba.func3, Yba.ntmps3
  go_wp2_with (first | (refine wpList_build92 rfl rfl ?_) | (refine wpList_box92 rfl _ rfl rfl ?_))
  obtain ⟨n, hna⟩ : ∃ n : Nat, a0 % 9 + 1 = (n : Int) := Int.eq_ofNat_of_zero_le (by omega)
  obtain ⟨m, hnb⟩ : ∃ m : Nat, a2 % 9 + 1 = (m : Int) := Int.eq_ofNat_of_zero_le (by omega)
  have hn1 : 1 ≤ n ∧ n ≤ 9 := by omega
  have hm1 : 1 ≤ m ∧ m ≤ 9 := by omega
  rw [hna, hnb]
  obtain ⟨ka, hka⟩ : ∃ ka : Nat, a1 % (n : Int) = (ka : Int) := Int.eq_ofNat_of_zero_le (Int.emod_nonneg _ (by omega))
  obtain ⟨kb, hkb⟩ : ∃ kb : Nat, a3 % (m : Int) = (kb : Int) := Int.eq_ofNat_of_zero_le (Int.emod_nonneg _ (by omega))
  have hka1 : ka < n := by have := Int.emod_lt_of_pos a1 (b := (n : Int)) (by omega); omega
  have hkb1 : kb < m := by have := Int.emod_lt_of_pos a3 (b := (m : Int)) (by omega); omega
  rw [hka, hkb]
  clear hna hnb hka hkb
  obtain ⟨hn1, hn9⟩ := hn1
  obtain ⟨hm1, hm9⟩ := hm1
  refine (build_any w.heap.size n ka _ hn9 hka1).mono ?_
  rintro e w2 ⟨ta, ga, za, rfl, hSa, hza, hb2⟩
  have hb0 : Below w.heap.size w (w.alloc (.cells Yba.zeroCells92 92)) := (Below.refl _ _).alloc (Nat.le_refl _) _
  go_wp2_with fail
  refine (build_any w.heap.size m kb _ hm9 hkb1).mono ?_
  rintro e w3 ⟨tb, gb, zb, rfl, hSb, hzb, hb3⟩
  have hL := ((lockFree_new w).below hb2).below hb3
  have hB : Below w.heap.size w w3 := (hb0.trans (hb2.mono hb0.size)).trans (hb3.mono (Nat.le_trans hb0.size hb2.size))
  have hSa' := hSa.below hb3
  obtain ⟨ca, hca⟩ := hSa.leadBlock
  have hne : za ≠ zb := by have := lt_of_block hca; omega
  have Sa : Hid _ := hSa'
  have Sb : Hid _ := hSb
  have HL : Hid _ := hL
  clear hSa hSb hSa' hL hca hb0 hb2 hb3
  · go_wp2_with fail
    go_loopw [18] (fun v wr => ∃ j : Nat, j ≤ n ∧ v = .int .i64 j ∧ Same w3 wr) (fun v _ => n - (intOf v).toNat)
    case atStart => exact ⟨0, Nat.zero_le _, rfl, ⟨rfl, rfl, rfl, rfl⟩⟩
    case round =>
      obtain ⟨j, hj, rfl, hs⟩ := hrel
      by_cases hlt : j < n
      · obtain ⟨z, c1, hcall⟩ := Sa.out.leads HL.out j hlt
        have c1' := (hs.cell _).trans c1
        have c2' := (hs.cell _).trans Sa.out.lead
        have c3' := (hs.cell _).trans Sa.out.set0
        have j0 : (0 : Int) ≤ (j : Int) := Int.natCast_nonneg _
        have j1 : (j : Int) < (n : Int) := by omega
        have k0 : (0 : Int) ≤ (ka : Int) := Int.natCast_nonneg _
        have k1 : (ka : Int) < (n : Int) := by omega
        have HC : Hid (∀ m, Calls Yba.prog 6 #[.pointer (some ⟨z, 0, none⟩)] (wr.drewN m) fun e w' => e = .returned (.pointer (some ⟨za, 0, none⟩)) ∧ w' = wr.drewN m) := fun m => hcall _ (hs.drewN m)
        clear c1 hcall
        go_wp2_with fail
        go_quiet ((go_at_call 6; exact Calls.quiet_of_same (HC.out _)))
        go_wp2_with fail
        go_roundw
        case rel => exact ⟨j + 1, by omega, by go_num, hs.drewN _⟩
        case measure => simp [intOf]; omega
      · have hge : ¬ (j : Int) < (n : Int) := by omega
        go_wp2_with fail
        go_loopw [19] (fun v wr => ∃ j : Nat, j ≤ m ∧ v = .int .i64 j ∧ Same w3 wr) (fun v _ => m - (intOf v).toNat)
        case atStart => exact ⟨0, Nat.zero_le _, rfl, hs⟩
        case round =>
          clear hs hj hlt hge
          obtain ⟨i, hi, rfl, hs⟩ := hrel
          by_cases hlt : i < m
          · obtain ⟨z, c1, hcall⟩ := Sb.out.leads HL.out i hlt
            have c1' := (hs.cell _).trans c1
            have c2' := (hs.cell _).trans Sb.out.lead
            have c3' := (hs.cell _).trans Sb.out.set0
            have j0 : (0 : Int) ≤ (i : Int) := Int.natCast_nonneg _
            have j1 : (i : Int) < (m : Int) := by omega
            have k0 : (0 : Int) ≤ (kb : Int) := Int.natCast_nonneg _
            have k1 : (kb : Int) < (m : Int) := by omega
            have HC : Hid (∀ m, Calls Yba.prog 6 #[.pointer (some ⟨z, 0, none⟩)] (wr.drewN m) fun e w' => e = .returned (.pointer (some ⟨zb, 0, none⟩)) ∧ w' = wr.drewN m) := fun m => hcall _ (hs.drewN m)
            clear c1 hcall
            go_wp2_with fail
            go_quiet ((go_at_call 6; exact Calls.quiet_of_same (HC.out _)))
            go_wp2_with fail
            go_roundw
            case rel => exact ⟨i + 1, by omega, by go_num, hs.drewN _⟩
            case measure => simp [intOf]; omega
          · have hge : ¬ (i : Int) < (m : Int) := by omega
            obtain ⟨z, c1, hcall⟩ := Sa.out.leads HL.out 0 (by omega)
            obtain ⟨y, d1, ycall⟩ := Sb.out.leads HL.out 0 (by omega)
            obtain ⟨ca, hca⟩ := Sa.out.leadBlock
            obtain ⟨cb, hcb⟩ := Sb.out.leadBlock
            have c1' := (hs.cell _).trans c1
            have d1' := (hs.cell _).trans d1
            have n0 : (0 : Int) < (n : Int) := by omega
            have m0 : (0 : Int) < (m : Int) := by omega
            have hno : ∀ q, (binOp .neq 96 (.pointer (some ⟨za, 0, none⟩)) (.pointer (some ⟨zb, 0, none⟩))).run Yba.prog (wr.drewN q) = .ok (.bool true) (wr.drewN q) := fun q =>
              neq_other _ (fun e => hne (congrArg Addr.block e)) (ca := ca) (cb := cb) (by show wr.heap[za]? = _; rw [hs.heap]; exact hca) (by show wr.heap[zb]? = _; rw [hs.heap]; exact hcb)
            have HC : Hid (∀ m, Calls Yba.prog 6 #[.pointer (some ⟨z, 0, none⟩)] (wr.drewN m) fun e w' => e = .returned (.pointer (some ⟨za, 0, none⟩)) ∧ w' = wr.drewN m) := fun m => hcall _ (hs.drewN m)
            have HD : Hid (∀ m, Calls Yba.prog 6 #[.pointer (some ⟨y, 0, none⟩)] (wr.drewN m) fun e w' => e = .returned (.pointer (some ⟨zb, 0, none⟩)) ∧ w' = wr.drewN m) := fun m => ycall _ (hs.drewN m)
            clear c1 hcall d1 ycall hca hcb hneq
            go_wp2_with fail
            go_quiet (first | (go_at_call_of 6 (Value.pointer (some ⟨z, 0, none⟩)); exact Calls.quiet_of_same (HC.out _)) | (go_at_call_of 6 (Value.pointer (some ⟨y, 0, none⟩)); exact Calls.quiet_of_same (HD.out _)))
            go_wp2_with fail
            go_ret
            exact ⟨rfl, (hs.drewN _).below hB⟩
end Go.Proofs.Ybulkcjho
