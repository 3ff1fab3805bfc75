/-
  PLAIN LAYER of seat b6601621aD: decimal digits and their value. No Go in sight.
-/
import Derived.Lib.TrimByte
namespace Go.Proofs.Qxb6601621aDoor.Plain

def dig (n : Nat) : UInt8 := UInt8.ofNat (48 + n)
theorem dig_nat (n : Nat) (h : n < 10) : (dig n).toNat = 48 + n := by
  unfold dig
  rw [UInt8.toNat_ofNat']
  omega
def isDig (c : UInt8) : Prop := 48 ≤ c.toNat ∧ c.toNat ≤ 57
theorem dig_isDig (n : Nat) (h : n < 10) : isDig (dig n) := by
  unfold isDig
  rw [dig_nat n h]
  omega

/-- the decimal digits of v, the fuel being at least v. -/
def decF : Nat → Nat → List UInt8
  | 0, _ => []
  | f + 1, v => if v = 0 then [] else decF f (v / 10) ++ [dig (v % 10)]
theorem decF_more : ∀ f g v, v ≤ f → v ≤ g → decF f v = decF g v := by
  intro f
  induction f with
  | zero =>
    intro g v hf _
    have e : v = 0 := by omega
    subst e
    cases g with
    | zero => rfl
    | succ g => simp [decF]
  | succ f ih =>
    intro g v hf hg
    cases g with
    | zero =>
      have e : v = 0 := by omega
      subst e
      simp [decF]
    | succ g =>
      by_cases h : v = 0
      · simp [decF, h]
      · simp only [decF, h, if_false]
        rw [ih g (v / 10) (by omega) (by omega)]
def dec (v : Nat) : List UInt8 := decF v v
theorem dec_zero : dec 0 = [] := rfl
theorem dec_step (v : Nat) (h : v ≠ 0) : dec v = dec (v / 10) ++ [dig (v % 10)] := by
  unfold dec
  cases v with
  | zero => exact absurd rfl h
  | succ u =>
    rw [decF, if_neg h, decF_more u ((u + 1) / 10) ((u + 1) / 10) (by omega) (Nat.le_refl _)]

def itoa (v : Nat) : List UInt8 := if v = 0 then [48] else dec v
def two (v : Nat) : List UInt8 := [dig (v / 10), dig (v % 10)]

def valFrom (a : Nat) (l : List UInt8) : Nat := l.foldl (fun a c => a * 10 + (c.toNat - 48)) a
def val (l : List UInt8) : Nat := valFrom 0 l
theorem valFrom_eq (l : List UInt8) : ∀ a, valFrom a l = a * 10 ^ l.length + val l := by
  unfold val
  induction l with
  | nil => intro a; simp [valFrom]
  | cons c t ih =>
    intro a
    show valFrom (a * 10 + (c.toNat - 48)) t = a * 10 ^ (t.length + 1) + valFrom (0 * 10 + (c.toNat - 48)) t
    rw [ih (a * 10 + (c.toNat - 48)), ih (0 * 10 + (c.toNat - 48)), Nat.pow_succ, Nat.add_mul, Nat.zero_mul, Nat.zero_add, ← Nat.mul_assoc]
    rw [Nat.mul_right_comm a 10]
    omega
theorem val_nil : val [] = 0 := rfl
theorem val_append (a b : List UInt8) : val (a ++ b) = val a * 10 ^ b.length + val b := by
  have h : val (a ++ b) = valFrom (val a) b := by unfold val valFrom; rw [List.foldl_append]
  rw [h, valFrom_eq]
theorem val_snoc (a : List UInt8) (c : UInt8) : val (a ++ [c]) = val a * 10 + (c.toNat - 48) := by
  unfold val valFrom
  rw [List.foldl_append]
  rfl
theorem val_cons (c : UInt8) (t : List UInt8) : val (c :: t) = (c.toNat - 48) * 10 ^ t.length + val t := by
  have := val_append [c] t
  rw [List.singleton_append] at this
  rw [this]
  have h : val [c] = c.toNat - 48 := by simp [val, valFrom]
  rw [h]
theorem val_dec (v : Nat) : val (dec v) = v := by
  induction v using Nat.strongRecOn with
  | ind v ih =>
    by_cases h : v = 0
    · subst h; rw [dec_zero]; rfl
    · rw [dec_step v h, val_snoc, ih (v / 10) (by omega), dig_nat _ (by omega)]
      omega
theorem dec_digs (v : Nat) : ∀ c ∈ dec v, isDig c := by
  induction v using Nat.strongRecOn with
  | ind v ih =>
    by_cases h : v = 0
    · subst h; rw [dec_zero]; intro c hc; simp at hc
    · rw [dec_step v h]
      intro c hc
      rcases List.mem_append.1 hc with hc | hc
      · exact ih (v / 10) (by omega) c hc
      · rw [List.mem_singleton.1 hc]
        exact dig_isDig _ (by omega)
theorem dig_ne (n : Nat) (h : n < 10) (h0 : n ≠ 0) : dig n ≠ 48 := by
  intro e
  have := dig_nat n h
  rw [e] at this
  have h48 : (48 : UInt8).toNat = 48 := rfl
  omega
theorem dec_head (v : Nat) (h : v ≠ 0) : ∃ c t, dec v = c :: t ∧ c ≠ 48 := by
  induction v using Nat.strongRecOn with
  | ind v ih =>
    rw [dec_step v h]
    by_cases h0 : v / 10 = 0
    · rw [h0, dec_zero]
      exact ⟨_, _, rfl, dig_ne _ (by omega) (by omega)⟩
    · obtain ⟨c, t, e, hc⟩ := ih (v / 10) (by omega) h0
      rw [e]
      exact ⟨c, t ++ [dig (v % 10)], rfl, hc⟩
theorem dec_len (n : Nat) : ∀ v, v < 10 ^ n → (dec v).length ≤ n := by
  induction n with
  | zero => intro v h; have : v = 0 := by simp at h; omega
            subst this; rw [dec_zero]; simp
  | succ n ih =>
    intro v h
    by_cases h0 : v = 0
    · subst h0; rw [dec_zero]; simp
    · rw [dec_step v h0, List.length_append]
      have := ih (v / 10) (by rw [Nat.pow_succ] at h; omega)
      simp
      omega

theorem itoa_digs (v : Nat) : ∀ c ∈ itoa v, isDig c := by
  unfold itoa
  split
  · intro c hc
    rw [List.mem_singleton.1 hc]
    exact ⟨by decide, by decide⟩
  · exact dec_digs v
theorem itoa_head (v : Nat) : ∃ c t, itoa v = c :: t ∧ (c = 48 → t = []) := by
  unfold itoa
  split
  · exact ⟨48, [], rfl, fun _ => rfl⟩
  · rename_i h
    obtain ⟨c, t, e, hc⟩ := dec_head v h
    exact ⟨c, t, e, fun h => absurd h hc⟩
theorem itoa_len (v : Nat) (h : v < 10 ^ 18) : (itoa v).length ≤ 18 := by
  unfold itoa
  split
  · simp
  · exact dec_len 18 v h
theorem val_itoa (v : Nat) : val (itoa v) = v := by
  unfold itoa
  split
  · rename_i h; subst h; rfl
  · exact val_dec v
theorem two_digs (v : Nat) (h : v < 100) : ∀ c ∈ two v, isDig c := by
  intro c hc
  simp only [two, List.mem_cons, List.not_mem_nil, or_false] at hc
  rcases hc with rfl | rfl
  · exact dig_isDig _ (by omega)
  · exact dig_isDig _ (by omega)
theorem val_two (v : Nat) (h : v < 100) : val (two v) = v := by
  show (0 * 10 + ((dig (v / 10)).toNat - 48)) * 10 + ((dig (v % 10)).toNat - 48) = v
  rw [dig_nat _ (by omega), dig_nat _ (by omega)]
  omega
theorem val_num (k : Nat) : val (itoa (k / 100) ++ two (k % 100)) = k := by
  rw [val_append, val_itoa, val_two _ (by omega)]
  show k / 100 * 10 ^ 2 + k % 100 = k
  omega

/-- all digits: the value is less than ten to the length. -/
theorem val_lt (l : List UInt8) (h : ∀ c ∈ l, isDig c) : val l < 10 ^ l.length := by
  induction l with
  | nil => simp [val_nil]
  | cons c t ih =>
    rw [val_cons, List.length_cons, Nat.pow_succ]
    have h1 := ih fun c hc => h c (List.mem_cons_of_mem _ hc)
    have h2 := h c (List.mem_cons_self ..)
    unfold isDig at h2
    have h3 : (c.toNat - 48) * 10 ^ t.length ≤ 9 * 10 ^ t.length := Nat.mul_le_mul_right _ (by omega)
    omega

theorem val_trimLeft (l : List UInt8) : val (Lib.trimLeftB l 48) = val l := by
  unfold Lib.trimLeftB
  induction l with
  | nil => rfl
  | cons c t ih =>
    rw [List.dropWhile_cons]
    split
    · rename_i h
      have e : c = 48 := by simpa using h
      subst e
      rw [ih, val_cons]
      have h48 : (48 : UInt8).toNat = 48 := rfl
      rw [h48]
      omega
    · rfl
theorem trimLeft_head (l : List UInt8) : Lib.trimLeftB l 48 = [] ∨ ∃ c t, Lib.trimLeftB l 48 = c :: t ∧ c ≠ 48 := by
  unfold Lib.trimLeftB
  induction l with
  | nil => exact .inl rfl
  | cons c t ih =>
    rw [List.dropWhile_cons]
    split
    · exact ih
    · rename_i h
      exact .inr ⟨c, t, rfl, by simpa using h⟩
theorem trimLeft_sub (l : List UInt8) : ∀ c ∈ Lib.trimLeftB l 48, c ∈ l := fun _ hc => (List.dropWhile_sublist _).subset hc
theorem trimRight_sub (l : List UInt8) : ∀ c ∈ Lib.trimRightB l 48, c ∈ l := fun c hc => by
  unfold Lib.trimRightB at hc
  have := (List.dropWhile_sublist (· == (48 : UInt8))).subset (List.mem_reverse.1 hc)
  exact List.mem_reverse.1 this
theorem trimRight_split (l : List UInt8) : ∃ z, l = Lib.trimRightB l 48 ++ List.replicate z 48 := by
  unfold Lib.trimRightB
  have h : ∀ r : List UInt8, ∃ z, r = List.replicate z 48 ++ r.dropWhile (· == 48) := by
    intro r
    induction r with
    | nil => exact ⟨0, rfl⟩
    | cons c t ih =>
      rw [List.dropWhile_cons]
      split
      · rename_i h
        have e : c = 48 := by simpa using h
        subst e
        obtain ⟨z, hz⟩ := ih
        refine ⟨z + 1, ?_⟩
        rw [List.replicate_succ, List.cons_append, ← hz]
      · exact ⟨0, rfl⟩
  obtain ⟨z, hz⟩ := h l.reverse
  refine ⟨z, ?_⟩
  have := congrArg List.reverse hz
  rw [List.reverse_reverse, List.reverse_append, List.reverse_replicate] at this
  exact this
theorem val_zeros (z : Nat) : val (List.replicate z 48) = 0 := by
  induction z with
  | zero => rfl
  | succ z ih =>
    rw [List.replicate_succ, val_cons, ih]
    have h48 : (48 : UInt8).toNat = 48 := rfl
    rw [h48]
    omega
/-- what parseDecimal leaves of a digit string, and by how many zeros it was cut. -/
def dD (l : List UInt8) : List UInt8 := Lib.trimLeftB l 48
def dT (l : List UInt8) : List UInt8 := Lib.trimRightB (dD l) 48
theorem dT_le (l : List UInt8) : (dT l).length ≤ (dD l).length := by
  obtain ⟨z, hz⟩ := trimRight_split (dD l)
  have := congrArg List.length hz
  rw [List.length_append] at this
  unfold dT
  omega
theorem dD_le (l : List UInt8) : (dD l).length ≤ l.length := (List.dropWhile_sublist _).length_le
theorem val_dT (l : List UInt8) : val (dT l) * 10 ^ ((dD l).length - (dT l).length) = val l := by
  obtain ⟨z, hz⟩ := trimRight_split (dD l)
  have hlen := congrArg List.length hz
  rw [List.length_append, List.length_replicate] at hlen
  have e : (dD l).length - (dT l).length = z := by unfold dT; omega
  rw [e, ← val_trimLeft l]
  show val (dT l) * 10 ^ z = val (dD l)
  have h2 := congrArg val hz
  rw [val_append, val_zeros, List.length_replicate] at h2
  rw [h2]
  rfl
theorem dT_digs (l : List UInt8) (h : ∀ c ∈ l, isDig c) : ∀ c ∈ dT l, isDig c := fun c hc => h c (trimLeft_sub l c (trimRight_sub _ c hc))
/-- more than five significant digits: above 10000. -/
theorem long_big (l : List UInt8) (h : ∀ c ∈ l, isDig c) (h5 : 5 < (dD l).length) : 10000 < val l := by
  rw [← val_trimLeft l]
  rcases trimLeft_head l with e | ⟨c, t, e, hc⟩
  · unfold dD at h5; rw [e] at h5; simp at h5
  · unfold dD at h5
    rw [e] at h5
    rw [e, val_cons]
    have hd : isDig c := h c (trimLeft_sub l c (by rw [e]; exact List.mem_cons_self ..))
    unfold isDig at hd
    have hne : c.toNat ≠ 48 := fun e => hc (UInt8.toNat_inj.1 (by rw [e]; rfl))
    have h1 : 10 ^ 5 ≤ 10 ^ t.length := Nat.pow_le_pow_right (by decide) (by simp at h5; omega)
    have h2 : 1 * 10 ^ t.length ≤ (c.toNat - 48) * 10 ^ t.length := Nat.mul_le_mul_right _ (by omega)
    omega
end Go.Proofs.Qxb6601621aDoor.Plain
