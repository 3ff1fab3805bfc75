/-
  PLAIN LAYER: what utf8's decoder gives where a byte beyond ASCII stands first, and what an ASCII set then cannot hold. No model's run.
-/
import Derived.Shelf.Spec.DecodeRune
import Derived.Lib.IndexAny
import Derived.Lib.IndexEntry
namespace Go.Proofs.Qxb6601484aDoor.Dec
open Go.Lib

theorem decN (n b0 b1 b2 b3 : Nat) (hn : 1 ≤ n) (h0 : 128 ≤ b0) (hb0 : b0 < 256) (hb1 : b1 < 256) (hb2 : b2 < 256) (hb3 : b3 < 256) :
    ∃ r k, decodeN n b0 b1 b2 b3 = (r, k) ∧ 128 ≤ r ∧ r ≤ 1114111 ∧ ¬ (55296 ≤ r ∧ r ≤ 57343) ∧ 1 ≤ k ∧ k ≤ n ∧ (2 ≤ k → 128 ≤ b1) ∧ (3 ≤ k → 128 ≤ b2) ∧ (4 ≤ k → 128 ≤ b3) ∧ k ≤ 4 ∧
      (r ≠ 65533 → (k = 2 ∧ r < 2048) ∨ (k = 3 ∧ 2048 ≤ r ∧ r < 65536) ∨ (k = 4 ∧ 65536 ≤ r)) := by
  unfold decodeN
  rw [if_neg (by omega)]
  by_cases c2 : b0 / 32 = 6 ∧ (1 < n ∧ b1 / 64 = 2)
  · rw [if_pos c2]
    obtain ⟨e1, e2, e3⟩ := c2
    by_cases d : b0 % 32 * 64 + b1 % 64 ≥ 128
    · rw [if_pos d]; exact ⟨_, _, rfl, by omega, by omega, by omega, by omega, by omega, by omega, by omega, by omega, by omega, fun _ => .inl ⟨rfl, by omega⟩⟩
    · rw [if_neg d]; exact ⟨_, _, rfl, by omega, by omega, by omega, by omega, by omega, by omega, by omega, by omega, by omega, fun h => absurd rfl h⟩
  rw [if_neg c2]
  by_cases c3 : b0 / 16 = 14 ∧ (1 < n ∧ b1 / 64 = 2) ∧ (2 < n ∧ b2 / 64 = 2)
  · rw [if_pos c3]
    obtain ⟨e1, ⟨e2, e3⟩, e4, e5⟩ := c3
    split
    · rename_i d
      exact ⟨_, _, rfl, by omega, by omega, by omega, by omega, by omega, by omega, by omega, by omega, by omega, fun _ => .inr (.inl ⟨rfl, by omega, by omega⟩)⟩
    · exact ⟨_, _, rfl, by omega, by omega, by omega, by omega, by omega, by omega, by omega, by omega, by omega, fun h => absurd rfl h⟩
  rw [if_neg c3]
  by_cases c4 : b0 / 8 = 30 ∧ (1 < n ∧ b1 / 64 = 2) ∧ (2 < n ∧ b2 / 64 = 2) ∧ (3 < n ∧ b3 / 64 = 2)
  · rw [if_pos c4]
    obtain ⟨e1, ⟨e2, e3⟩, ⟨e4, e5⟩, e6, e7⟩ := c4
    split
    · rename_i d
      exact ⟨_, _, rfl, by omega, by omega, by omega, by omega, by omega, by omega, by omega, by omega, by omega, fun _ => .inr (.inr ⟨rfl, by omega⟩)⟩
    · exact ⟨_, _, rfl, by omega, by omega, by omega, by omega, by omega, by omega, by omega, by omega, by omega, fun h => absurd rfl h⟩
  rw [if_neg c4]
  exact ⟨_, _, rfl, by omega, by omega, by omega, by omega, by omega, by omega, by omega, by omega, by omega, fun h => absurd rfl h⟩

theorem ofNat_hi (n : Nat) (h : 128 ≤ n) (h2 : n < 256) : 128 ≤ (UInt8.ofNat n).toNat := by simp [UInt8.toNat_ofNat']; omega

/-- a rune beyond ASCII: every byte of its text is 128 or more. -/
theorem enc_hi (r : Nat) (h : 128 ≤ r) (h2 : r ≤ 1114111) (h3 : ¬ (55296 ≤ r ∧ r ≤ 57343)) : (∀ x ∈ (Utf8.encode (r : Int)).data.toList, 128 ≤ x.toNat) ∧
    (r < 2048 → (Utf8.encode (r : Int)).size = 2) ∧ (2048 ≤ r → r < 65536 → (Utf8.encode (r : Int)).size = 3) ∧ (65536 ≤ r → (Utf8.encode (r : Int)).size = 4) := by
  have hv : Utf8.valid (r : Int) = true := by simp [Utf8.valid]; omega
  unfold Utf8.encode
  simp only [hv, if_true, Int.toNat_natCast]
  rw [if_neg (by omega)]
  by_cases c1 : r < 2048
  · rw [if_pos c1]
    refine ⟨fun x hx => ?_, fun _ => rfl, fun h => by omega, fun h => by omega⟩
    simp only [List.mem_cons, List.not_mem_nil, or_false] at hx
    rcases hx with rfl | rfl
    · exact ofNat_hi _ (by omega) (by omega)
    · exact ofNat_hi _ (by omega) (by omega)
  rw [if_neg c1]
  by_cases c2 : r < 65536
  · rw [if_pos c2]
    refine ⟨fun x hx => ?_, fun h => by omega, fun _ _ => rfl, fun h => by omega⟩
    simp only [List.mem_cons, List.not_mem_nil, or_false] at hx
    rcases hx with rfl | rfl | rfl
    · exact ofNat_hi _ (by omega) (by omega)
    · exact ofNat_hi _ (by omega) (by omega)
    · exact ofNat_hi _ (by omega) (by omega)
  rw [if_neg c2]
  refine ⟨fun x hx => ?_, fun h => by omega, fun h h' => by omega, fun _ => rfl⟩
  simp only [List.mem_cons, List.not_mem_nil, or_false] at hx
  rcases hx with rfl | rfl | rfl | rfl
  · exact ofNat_hi _ (by omega) (by omega)
  · exact ofNat_hi _ (by omega) (by omega)
  · exact ofNat_hi _ (by omega) (by omega)
  · exact ofNat_hi _ (by omega) (by omega)

theorem get!_list (t : List UInt8) (j : Nat) : (ByteArray.mk t.toArray).get! j = t.getD j 0 := by
  show t.toArray.getD j default = _
  by_cases h : j < t.length
  · simp [List.getD, h]
  · simp [List.getD, h]; rfl

theorem u8lt (x : UInt8) : x.toNat < 256 := x.toBitVec.isLt

/-- what the decoder gives at a text whose first byte is beyond ASCII. -/
theorem dec (t : List UInt8) (h1 : 1 ≤ t.length) (h0 : 128 ≤ (t.getD 0 0).toNat) :
    ∃ r k, decodeGo (ByteArray.mk t.toArray) = (r, k) ∧ 128 ≤ r ∧ r ≤ 1114111 ∧ 1 ≤ k ∧ k ≤ t.length ∧ (∀ j, j < k → 128 ≤ (t.getD j 0).toNat) ∧ (∀ x ∈ (Utf8.encode (r : Int)).data.toList, 128 ≤ x.toNat) ∧
      (r ≠ 65533 → 2 ≤ k ∧ (Utf8.encode (r : Int)).size = k) := by
  have hsz : (ByteArray.mk t.toArray).size = t.length := by simp [ByteArray.size]
  have e : decodeGo (ByteArray.mk t.toArray) = decodeN t.length (t.getD 0 0).toNat (t.getD 1 0).toNat (t.getD 2 0).toNat (t.getD 3 0).toNat := by
    unfold decodeGo
    rw [if_neg (by omega), decode_at, get!_list, get!_list, get!_list, get!_list, hsz]
    rfl
  obtain ⟨r, k, he, a1, a2, a3, a4, a5, a6, a7, a8, a9, a10⟩ := decN t.length (t.getD 0 0).toNat (t.getD 1 0).toNat (t.getD 2 0).toNat (t.getD 3 0).toNat h1 h0 (u8lt _) (u8lt _) (u8lt _) (u8lt _)
  obtain ⟨b1, b2, b3, b4⟩ := enc_hi r a1 a2 a3
  refine ⟨r, k, e.trans he, a1, a2, a4, a5, fun j hj => ?_, b1, fun hr => ?_⟩
  · match j, hj with
    | 0, _ => exact h0
    | 1, hj => exact a6 (by omega)
    | 2, hj => exact a7 (by omega)
    | 3, hj => exact a8 (by omega)
    | j + 4, hj => omega
  · rcases a10 hr with ⟨rfl, h⟩ | ⟨rfl, h, h'⟩ | ⟨rfl, h⟩
    · exact ⟨by omega, b2 h⟩
    · exact ⟨by omega, b3 h h'⟩
    · exact ⟨by omega, b4 h⟩

/-- a text whose bytes are all beyond ASCII does not stand in an ASCII text, and is not that text. -/
theorem not_occ (cs e : List UInt8) (ha : ∀ x ∈ cs, x.toNat < 128) (he : ∀ x ∈ e, 128 ≤ x.toNat) (h1 : e ≠ []) : index cs e = -1 := by
  refine index_none fun j hj => ?_
  cases ho : occAt cs e j with
  | false => rfl
  | true =>
    exfalso
    obtain ⟨c, t, rfl⟩ := List.exists_cons_of_ne_nil h1
    have hc := occAt_head rfl ho
    have := ha c (List.mem_of_getElem? hc)
    have := he c (by simp)
    omega
theorem ne_text (cs e : List UInt8) (ha : ∀ x ∈ cs, x.toNat < 128) (he : ∀ x ∈ e, 128 ≤ x.toNat) (h1 : e ≠ []) : cs ≠ e := by
  rintro rfl
  obtain ⟨c, t, rfl⟩ := List.exists_cons_of_ne_nil h1
  have := ha c (by simp)
  have := he c (by simp)
  omega

/-- a byte beyond ASCII is not in an ASCII set; a run of them is passed over. -/
theorem no_run {l cs : List UInt8} {i k : Nat} (ha : ∀ x ∈ cs, x.toNat < 128) (h : NoAny l cs i) (hr : ∀ j, j < k → 128 ≤ ((l.drop i).getD j 0).toNat) : NoAny l cs (i + k) := by
  intro j b hj hb
  by_cases hlt : j < i
  · exact h j b hlt hb
  · have := hr (j - i) (by omega)
    rw [List.getD, List.getElem?_drop, show i + (j - i) = j by omega, hb] at this
    simp only [Option.getD_some] at this
    cases hc : cs.contains b with
    | false => rfl
    | true =>
      have := ha b (by simpa using hc)
      omega

end Go.Proofs.Qxb6601484aDoor.Dec
