/-
  What appendAVPs lays, decodeAVPs reads back: plain words, no Go in sight.
-/
import Derived.Test.YbulkcjpcDoorEnc
namespace Go.Proofs.YbulkcjpcDoor

/-- An AVP that can be told on the wire. -/
structure Good (i : It) : Prop where
  c : 0 ≤ i.c ∧ i.c < 4294967296
  f : 0 ≤ i.f ∧ i.f < 256
  v : 0 ≤ i.v ∧ i.v < 4294967296
  z : vb i.f = false → i.v = 0
  d : i.d.length ≤ 50000

theorem at_app_left (a b : List UInt8) (j : Nat) (h : j < a.length) : at' (a ++ b) j = at' a j := by
  simp [at', List.getD, List.getElem?_append_left h]
theorem at_app_right (a b : List UInt8) (j : Nat) (h : a.length ≤ j) : at' (a ++ b) j = at' b (j - a.length) := by
  simp [at', List.getD, List.getElem?_append_right h]
theorem byt_at (z : Int) (h0 : 0 ≤ z) (h1 : z < 256) : ((byt z).toNat : Int) = z := byt_toNat z h0 h1

/-- The head of an encoded AVP, and what follows. -/
theorem encOne_head (i : It) (rest : List UInt8) (h : Good i) :
    code (encOne i ++ rest) = i.c ∧ at' (encOne i ++ rest) 4 = i.f ∧ lenOf (encOne i ++ rest) = sz i ∧ (vb i.f = true → vend (encOne i ++ rest) = i.v) := by
  have hsz : sz i < 16777216 := by unfold sz; have := h.d; split <;> omega
  have hc := h.c; have hf := h.f; have hv := h.v
  have e : encOne i ++ rest = byt (i.c / 16777216) :: byt (i.c / 65536 % 256) :: byt (i.c / 256 % 256) :: byt (i.c % 256) :: byt i.f :: byt ((sz i : Int) / 65536 % 256) :: byt ((sz i : Int) / 256 % 256) :: byt ((sz i : Int) % 256) ::
      ((if vb i.f then be4B i.v else []) ++ i.d ++ List.replicate (padded i.d.length - i.d.length) 0 ++ rest) := by
    simp [encOne, be4B]
  have s1 : ((sz i : Int) / 65536 % 256) = (sz i : Int) / 65536 := by omega
  refine ⟨?_, ?_, ?_, ?_⟩
  · rw [e]
    simp only [code, at', List.getD_cons_zero, List.getD_cons_succ]
    rw [byt_at _ (by omega) (by omega), byt_at _ (by omega) (by omega), byt_at _ (by omega) (by omega), byt_at _ (by omega) (by omega)]
    omega
  · rw [e]
    simp only [at', List.getD_cons_zero, List.getD_cons_succ]
    exact byt_at _ hf.1 hf.2
  · rw [e]
    have : ((lenOf (byt (i.c / 16777216) :: byt (i.c / 65536 % 256) :: byt (i.c / 256 % 256) :: byt (i.c % 256) :: byt i.f :: byt ((sz i : Int) / 65536 % 256) :: byt ((sz i : Int) / 256 % 256) :: byt ((sz i : Int) % 256) ::
      ((if vb i.f then be4B i.v else []) ++ i.d ++ List.replicate (padded i.d.length - i.d.length) 0 ++ rest)) : Nat) : Int) = (sz i : Int) := by
      rw [lenOf_eq]
      simp only [at', List.getD_cons_zero, List.getD_cons_succ]
      rw [byt_at _ (by omega) (by omega), byt_at _ (by omega) (by omega), byt_at _ (by omega) (by omega)]
      omega
    omega
  · intro hb
    rw [e, hb]
    simp only [vend, at', be4B, if_true, List.cons_append, List.getD_cons_zero, List.getD_cons_succ]
    rw [byt_at _ (by omega) (by omega), byt_at _ (by omega) (by omega), byt_at _ (by omega) (by omega), byt_at _ (by omega) (by omega)]
    omega

theorem cut_mid {l A d z : List UInt8} {n m : Nat} (e : l = A ++ (d ++ z)) (hA : A.length = n) (hm : m = n + d.length) : (l.take m).drop n = d := by
  subst e hA hm
  rw [← List.append_assoc, List.take_append_of_le_length (by simp), List.take_of_length_le (by simp)]
  simp

theorem dec_cons (i : It) (rest : List UInt8) (h : Good i) : dec (encOne i ++ rest) = (i :: (dec rest).1, (dec rest).2) := by
  obtain ⟨h1, h2, h3, h4⟩ := encOne_head i rest h
  have hl := encOne_len i
  have hd := h.d
  have hhd : hdr (encOne i ++ rest) = (if vb i.f then 12 else 8) := by rw [hdr, h2]
  have hpad : padded (sz i) = (encOne i).length := by
    rw [hl, sz]; unfold padded; cases vb i.f <;> simp <;> omega
  have hne : encOne i ++ rest ≠ [] := fun e => by
    have := congrArg List.length e
    rw [List.length_append, List.length_nil, hl] at this
    omega
  have hszl : sz i ≤ (encOne i).length := by rw [← hpad]; unfold padded; omega
  have hit : itOf (encOne i ++ rest) = i := by
    have hdata : ((encOne i ++ rest).take (sz i)).drop (hdr (encOne i ++ rest)) = i.d := by
      rw [hhd, List.take_append_of_le_length hszl]
      cases hb : vb i.f with
      | true =>
        have e : encOne i = (be4B i.c ++ [byt i.f, byt ((sz i : Int) / 65536 % 256), byt ((sz i : Int) / 256 % 256), byt ((sz i : Int) % 256)] ++ be4B i.v) ++ (i.d ++ List.replicate (padded i.d.length - i.d.length) 0) := by simp [encOne, hb]
        exact cut_mid e (by simp [be4B]) (by simp [sz, hb])
      | false =>
        have e : encOne i = (be4B i.c ++ [byt i.f, byt ((sz i : Int) / 65536 % 256), byt ((sz i : Int) / 256 % 256), byt ((sz i : Int) % 256)]) ++ (i.d ++ List.replicate (padded i.d.length - i.d.length) 0) := by simp [encOne, hb]
        exact cut_mid e (by simp [be4B]) (by simp [sz, hb])
    have hv : (if vb (at' (encOne i ++ rest) 4) then vend (encOne i ++ rest) else 0) = i.v := by
      rw [h2]
      cases hb : vb i.f with
      | true => simpa using h4 hb
      | false => simpa using (h.z hb).symm
    rw [itOf, h1, hv, h2, h3, hdata]
  have hnb : ¬ (lenOf (encOne i ++ rest) < hdr (encOne i ++ rest) ∨ (encOne i ++ rest).length < lenOf (encOne i ++ rest)) := by
    rw [h3, hhd, List.length_append]
    have : (if vb i.f then 12 else 8) ≤ sz i := by unfold sz; omega
    omega
  rw [dec, dif_neg hne, dif_neg hnb, hit, h3, hpad]
  have hdrop : (encOne i ++ rest).drop (min (encOne i).length (encOne i ++ rest).length) = rest := by
    rw [Nat.min_eq_left (by simp)]
    simp
  rw [hdrop]

theorem dec_enc (its : List It) (h : ∀ i, i ∈ its → Good i) : dec (enc its) = (its, true) := by
  induction its with
  | nil => rw [enc, List.flatMap_nil, dec]; rfl
  | cons i its ih =>
    rw [show enc (i :: its) = encOne i ++ enc its by simp [enc], dec_cons i _ (h i (by simp)), ih (fun j hj => h j (by simp [hj]))]

end Go.Proofs.YbulkcjpcDoor
