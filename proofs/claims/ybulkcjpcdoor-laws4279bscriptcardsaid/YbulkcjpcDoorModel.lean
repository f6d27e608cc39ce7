/-
  LawS4279BScript: the script in plain words, no Go in sight.
-/
import Derived.Test.YbulkcjpcDoorParse
import Derived.Test.YbulkcjpcDoorTrip
namespace Go.Proofs.YbulkcjpcDoor

/-- One step of the script. -/
structure St where
  op : Int
  k : Int
  v : Int
def bad3 : List UInt8 := [1, 2, 3]
def sub (s : St) : List It :=
  if s.k % 4 = 0 then [⟨1046, 128, 10415, be4B s.v⟩]
  else if s.k % 4 = 1 then [⟨1048, 128, 10415, be4B 1⟩, ⟨1046, 128, 10415, be4B s.v⟩, ⟨1046, 128, 10415, be4B ((s.v + 1) % 4294967296)⟩]
  else if s.k % 4 = 2 then [⟨1047, 128, 10415, be4B 0⟩]
  else [⟨1046, 128, 10415, bad3⟩]
def mem (s : St) : It :=
  if s.op % 7 = 0 then ⟨1028, 192, 10415, be4B s.v⟩
  else if s.op % 7 = 1 then ⟨515, 192, 10415, be4B s.v⟩
  else if s.op % 7 = 2 then ⟨1025, 192, 10415, be4B s.v⟩
  else if s.op % 7 = 3 then ⟨1034, 128, 10415, enc (sub s)⟩
  else if s.op % 7 = 4 then (if s.k % 3 = 0 then ⟨1028, 192, 10415, bad3⟩ else if s.k % 3 = 1 then ⟨515, 192, 10415, bad3⟩ else ⟨1025, 192, 10415, bad3⟩)
  else if s.op % 7 = 5 then ⟨7, 0, 0, []⟩
  else ⟨7, 64, 0, []⟩
def mstep (r : Q5) (s : St) : Q5 :=
  if r.2.2.2.2 ≠ 0 then r
  else if s.op % 7 = 0 then (some s.v, r.2.1, r.2.2.1, r.2.2.2.1, 0)
  else if s.op % 7 = 1 then (r.1, some s.v, r.2.2.1, r.2.2.2.1, 0)
  else if s.op % 7 = 2 then (r.1, r.2.1, some s.v, r.2.2.2.1, 0)
  else if s.op % 7 = 3 then
    (if s.k % 4 = 0 then (r.1, r.2.1, r.2.2.1, some s.v, 0) else if s.k % 4 = 1 then (r.1, r.2.1, r.2.2.1, some s.v, 0) else if s.k % 4 = 2 then (r.1, r.2.1, r.2.2.1, none, 5005) else (r.1, r.2.1, r.2.2.1, some 0, 5014))
  else if s.op % 7 = 4 then
    (if s.k % 3 = 0 then (some 0, r.2.1, r.2.2.1, r.2.2.2.1, 5014) else if s.k % 3 = 1 then (r.1, some 0, r.2.2.1, r.2.2.2.1, 5014) else (r.1, r.2.1, some 0, r.2.2.2.1, 5014))
  else r

theorem vb192 : vb 192 = true := by decide +kernel
theorem vb128 : vb 128 = true := by decide +kernel
theorem vb0 : vb 0 = false := by decide +kernel
theorem vb64 : vb 64 = false := by decide +kernel
theorem mb192 : mb 192 = true := by decide +kernel
theorem mb128 : mb 128 = false := by decide +kernel
theorem mb0 : mb 0 = false := by decide +kernel
theorem mb64 : mb 64 = true := by decide +kernel
theorem be4B_len (v : Int) : (be4B v).length = 4 := rfl

theorem val4_be4 (v : Int) (h0 : 0 ≤ v) (h1 : v < 4294967296) : val4 (be4B v) = v := by
  simp only [val4, at', be4B, List.getD_cons_zero, List.getD_cons_succ]
  rw [byt_toNat _ (by omega) (by omega), byt_toNat _ (by omega) (by omega), byt_toNat _ (by omega) (by omega), byt_toNat _ (by omega) (by omega)]
  omega
theorem u32_be4 (v : Int) (h0 : 0 ≤ v) (h1 : v < 4294967296) : u32of (be4B v) = (v, 0) := by rw [u32of, if_pos (be4B_len v), val4_be4 v h0 h1]
theorem u32_bad : u32of bad3 = (0, 5014) := rfl

theorem good4 (c f v : Int) (x : Int) (hc : 0 ≤ c ∧ c < 4294967296) (hf : 0 ≤ f ∧ f < 256) (hv : 0 ≤ v ∧ v < 4294967296) (hz : vb f = false → v = 0) : Good ⟨c, f, v, be4B x⟩ := ⟨hc, hf, hv, hz, by simp [be4B]⟩
theorem good_bad (c f v : Int) (hc : 0 ≤ c ∧ c < 4294967296) (hf : 0 ≤ f ∧ f < 256) (hv : 0 ≤ v ∧ v < 4294967296) (hz : vb f = false → v = 0) : Good ⟨c, f, v, bad3⟩ := ⟨hc, hf, hv, hz, by simp [bad3]⟩
theorem nz128 {v : Int} : vb 128 = false → v = 0 := fun h => by rw [vb128] at h; cases h
theorem nz192 {v : Int} : vb 192 = false → v = 0 := fun h => by rw [vb192] at h; cases h

theorem sub_good (s : St) : ∀ i, i ∈ sub s → Good i := by
  intro i hi
  unfold sub at hi
  split at hi
  · simp at hi; subst hi; exact good4 _ _ _ _ (by omega) (by omega) (by omega) nz128
  · split at hi
    · simp at hi
      rcases hi with rfl | rfl | rfl <;> exact good4 _ _ _ _ (by omega) (by omega) (by omega) nz128
    · split at hi
      · simp at hi; subst hi; exact good4 _ _ _ _ (by omega) (by omega) (by omega) nz128
      · simp at hi; subst hi; exact good_bad _ _ _ (by omega) (by omega) (by omega) nz128
theorem sub_enc_len (s : St) : (enc (sub s)).length ≤ 100 := by
  have l4 : ∀ c f v x, (encOne ⟨c, f, v, be4B x⟩).length ≤ 16 := fun c f v x => by rw [encOne_len]; simp only [be4B_len, padded]; split <;> omega
  have l3 : ∀ c f v, (encOne ⟨c, f, v, bad3⟩).length ≤ 16 := fun c f v => by rw [encOne_len]; simp only [bad3, padded, List.length_cons, List.length_nil]; split <;> omega
  unfold sub
  split
  · have := l4 1046 128 10415 s.v; simp only [enc, List.flatMap_cons, List.flatMap_nil, List.append_nil]; omega
  · split
    · have h1 := l4 1048 128 10415 1; have h2 := l4 1046 128 10415 s.v; have h3 := l4 1046 128 10415 ((s.v + 1) % 4294967296)
      simp only [enc, List.flatMap_cons, List.flatMap_nil, List.append_nil, List.length_append]; omega
    · split
      · have := l4 1047 128 10415 0; simp only [enc, List.flatMap_cons, List.flatMap_nil, List.append_nil]; omega
      · have := l3 1046 128 10415; simp only [enc, List.flatMap_cons, List.flatMap_nil, List.append_nil]; omega

theorem mem_good (s : St) : Good (mem s) := by
  unfold mem
  split
  · exact good4 _ _ _ _ (by omega) (by omega) (by omega) nz192
  split
  · exact good4 _ _ _ _ (by omega) (by omega) (by omega) nz192
  split
  · exact good4 _ _ _ _ (by omega) (by omega) (by omega) nz192
  split
  · exact ⟨by simp, by simp, by simp, nz128, Nat.le_trans (sub_enc_len s) (by omega)⟩
  split
  · split
    · exact good_bad _ _ _ (by omega) (by omega) (by omega) nz192
    · split
      · exact good_bad _ _ _ (by omega) (by omega) (by omega) nz192
      · exact good_bad _ _ _ (by omega) (by omega) (by omega) nz192
  split
  · exact ⟨by simp, by simp, by simp, fun _ => rfl, by simp⟩
  · exact ⟨by simp, by simp, by simp, fun _ => rfl, by simp⟩

theorem prio_sub (s : St) (h0 : 0 ≤ s.v) (h1 : s.v < 4294967296) :
    prio (enc (sub s)) = (if s.k % 4 = 0 then (some s.v, 0) else if s.k % 4 = 1 then (some s.v, 0) else if s.k % 4 = 2 then (none, 5005) else (some 0, 5014)) := by
  have hd := dec_enc (sub s) (sub_good s)
  have hok : allOk prDs (sub s) = true := by
    unfold allOk sub
    split
    · simp [okBy, mb128]
    · split
      · simp [okBy, mb128]
      · split <;> simp [okBy, mb128]
  have hf : findBy 1046 10415 (sub s) = (if s.k % 4 = 0 then some ⟨1046, 128, 10415, be4B s.v⟩ else if s.k % 4 = 1 then some ⟨1046, 128, 10415, be4B s.v⟩ else if s.k % 4 = 2 then none else some ⟨1046, 128, 10415, bad3⟩) := by
    unfold sub
    split
    · rfl
    · split
      · rfl
      · split <;> rfl
  have hu := u32_be4 s.v h0 h1
  by_cases k0 : s.k % 4 = 0
  · rw [if_pos k0] at hf ⊢; simp [prio, hd, hok, hf, hu]
  by_cases k1 : s.k % 4 = 1
  · rw [if_neg k0, if_pos k1] at hf ⊢; simp [prio, hd, hok, hf, hu]
  by_cases k2 : s.k % 4 = 2
  · rw [if_neg k0, if_neg k1, if_pos k2] at hf ⊢; simp [prio, hd, hok, hf]
  · rw [if_neg k0, if_neg k1, if_neg k2] at hf ⊢; simp [prio, hd, hok, hf, u32_bad]

theorem qrun_mem (ss : List St) (hv : ∀ s, s ∈ ss → 0 ≤ s.v ∧ s.v < 4294967296) : ∀ (a b c d : Option Int), qrun (ss.map mem) a b c d = ss.foldl mstep (a, b, c, d, 0) := by
  induction ss with
  | nil => intro a b c d; rfl
  | cons s ss ih =>
    intro a b c d
    have hs := hv s (by simp)
    have ih' := ih (fun t ht => hv t (by simp [ht]))
    have stop : ∀ (r : Q5), r.2.2.2.2 ≠ 0 → ss.foldl mstep r = r := by
      intro r hr
      clear ih ih' hv
      induction ss with
      | nil => rfl
      | cons t ss ih => rw [List.foldl_cons, mstep, if_pos hr]; exact ih
    have hu := u32_be4 s.v hs.1 hs.2
    have hp := prio_sub s hs.1 hs.2
    rw [List.map_cons, List.foldl_cons]
    by_cases o0 : s.op % 7 = 0
    · have em : mem s = ⟨1028, 192, 10415, be4B s.v⟩ := by simp [mem, o0]
      have es : mstep (a, b, c, d, 0) s = (some s.v, b, c, d, 0) := by simp [mstep, o0]
      rw [em, es]; simp [qrun, isD, hu, ih']
    by_cases o1 : s.op % 7 = 1
    · have em : mem s = ⟨515, 192, 10415, be4B s.v⟩ := by simp [mem, o1]
      have es : mstep (a, b, c, d, 0) s = (a, some s.v, c, d, 0) := by simp [mstep, o1]
      rw [em, es]; simp [qrun, isD, hu, ih']
    by_cases o2 : s.op % 7 = 2
    · have em : mem s = ⟨1025, 192, 10415, be4B s.v⟩ := by simp [mem, o2]
      have es : mstep (a, b, c, d, 0) s = (a, b, some s.v, d, 0) := by simp [mstep, o2]
      rw [em, es]; simp [qrun, isD, hu, ih']
    by_cases o3 : s.op % 7 = 3
    · have em : mem s = ⟨1034, 128, 10415, enc (sub s)⟩ := by simp [mem, o3]
      rw [em]
      by_cases k0 : s.k % 4 = 0
      · have es : mstep (a, b, c, d, 0) s = (a, b, c, some s.v, 0) := by simp [mstep, o3, k0]
        rw [if_pos k0] at hp; rw [es]; simp [qrun, isD, hp, ih']
      by_cases k1 : s.k % 4 = 1
      · have es : mstep (a, b, c, d, 0) s = (a, b, c, some s.v, 0) := by simp [mstep, o3, k1]
        rw [if_neg k0, if_pos k1] at hp; rw [es]; simp [qrun, isD, hp, ih']
      by_cases k2 : s.k % 4 = 2
      · have es : mstep (a, b, c, d, 0) s = (a, b, c, none, 5005) := by simp [mstep, o3, k2]
        rw [if_neg k0, if_neg k1, if_pos k2] at hp; rw [es, stop _ (by simp)]; simp [qrun, isD, hp]
      · have es : mstep (a, b, c, d, 0) s = (a, b, c, some 0, 5014) := by simp [mstep, o3, k0, k1, k2]
        rw [if_neg k0, if_neg k1, if_neg k2] at hp; rw [es, stop _ (by simp)]; simp [qrun, isD, hp]
    by_cases o4 : s.op % 7 = 4
    · by_cases k0 : s.k % 3 = 0
      · have em : mem s = ⟨1028, 192, 10415, bad3⟩ := by simp [mem, o4, k0]
        have es : mstep (a, b, c, d, 0) s = (some 0, b, c, d, 5014) := by simp [mstep, o4, k0]
        rw [em, es, stop _ (by simp)]; simp [qrun, isD, u32_bad]
      by_cases k1 : s.k % 3 = 1
      · have em : mem s = ⟨515, 192, 10415, bad3⟩ := by simp [mem, o4, k1]
        have es : mstep (a, b, c, d, 0) s = (a, some 0, c, d, 5014) := by simp [mstep, o4, k1]
        rw [em, es, stop _ (by simp)]; simp [qrun, isD, u32_bad]
      · have em : mem s = ⟨1025, 192, 10415, bad3⟩ := by simp [mem, o4, k0, k1]
        have es : mstep (a, b, c, d, 0) s = (a, b, some 0, d, 5014) := by simp [mstep, o4, k0, k1]
        rw [em, es, stop _ (by simp)]; simp [qrun, isD, u32_bad]
    by_cases o5 : s.op % 7 = 5
    · have em : mem s = ⟨7, 0, 0, []⟩ := by simp [mem, o5]
      have es : mstep (a, b, c, d, 0) s = (a, b, c, d, 0) := by simp [mstep, o5]
      rw [em, es]; simp [qrun, isD, ih']
    · have em : mem s = ⟨7, 64, 0, []⟩ := by simp [mem, o0, o1, o2, o3, o4, o5]
      have es : mstep (a, b, c, d, 0) s = (a, b, c, d, 0) := by simp [mstep, o0, o1, o2, o3, o4]
      rw [em, es]; simp [qrun, isD, ih']

/-- The step that puts an unknown member with the M bit. -/
def unk (s : St) : Bool := !(decide (s.op % 7 = 0) || decide (s.op % 7 = 1) || decide (s.op % 7 = 2) || decide (s.op % 7 = 3) || decide (s.op % 7 = 4) || decide (s.op % 7 = 5))
theorem okBy_mem (s : St) : okBy qosDs (mem s) = !unk s := by
  by_cases o0 : s.op % 7 = 0
  · have em : mem s = ⟨1028, 192, 10415, be4B s.v⟩ := by simp [mem, o0]
    rw [em]; simp [unk, o0, okBy, qosDs, hit]
  by_cases o1 : s.op % 7 = 1
  · have em : mem s = ⟨515, 192, 10415, be4B s.v⟩ := by simp [mem, o1]
    rw [em]; simp [unk, o1, okBy, qosDs, hit]
  by_cases o2 : s.op % 7 = 2
  · have em : mem s = ⟨1025, 192, 10415, be4B s.v⟩ := by simp [mem, o2]
    rw [em]; simp [unk, o2, okBy, qosDs, hit]
  by_cases o3 : s.op % 7 = 3
  · have em : mem s = ⟨1034, 128, 10415, enc (sub s)⟩ := by simp [mem, o3]
    rw [em]; simp [unk, o3, okBy, mb128]
  by_cases o4 : s.op % 7 = 4
  · have hu : unk s = false := by simp [unk, o4]
    rw [hu]
    by_cases k0 : s.k % 3 = 0
    · have em : mem s = ⟨1028, 192, 10415, bad3⟩ := by simp [mem, o4, k0]
      rw [em]; simp [okBy, qosDs, hit]
    by_cases k1 : s.k % 3 = 1
    · have em : mem s = ⟨515, 192, 10415, bad3⟩ := by simp [mem, o4, k1]
      rw [em]; simp [okBy, qosDs, hit]
    · have em : mem s = ⟨1025, 192, 10415, bad3⟩ := by simp [mem, o4, k0, k1]
      rw [em]; simp [okBy, qosDs, hit]
  by_cases o5 : s.op % 7 = 5
  · have em : mem s = ⟨7, 0, 0, []⟩ := by simp [mem, o5]
    rw [em]; simp [unk, o5, okBy, mb0]
  · have em : mem s = ⟨7, 64, 0, []⟩ := by simp [mem, o0, o1, o2, o3, o4, o5]
    rw [em]; simp [unk, o0, o1, o2, o3, o4, o5, okBy, mb64, qosDs, hit]

theorem allOk_mem (ss : List St) : allOk qosDs (ss.map mem) = !(ss.any unk) := by
  unfold allOk
  induction ss with
  | nil => rfl
  | cons s ss ih => rw [List.map_cons, List.all_cons, List.any_cons, ih, okBy_mem]; cases unk s <;> simp

/-- What parseQoS reads out of the script's group. -/
theorem parse_script (ss : List St) (hv : ∀ s, s ∈ ss → 0 ≤ s.v ∧ s.v < 4294967296) :
    parse (enc (ss.map mem)) = if ss.any unk then (none, none, none, none, 5001) else ss.foldl mstep (none, none, none, none, 0) := by
  have hd := dec_enc (ss.map mem) (fun i hi => by obtain ⟨s, _, rfl⟩ := List.mem_map.1 hi; exact mem_good s)
  have ha := allOk_mem ss
  rw [parse, hd]
  simp only [ha]
  cases h : ss.any unk
  · simp [qrun_mem ss hv]
  · simp

end Go.Proofs.YbulkcjpcDoor
