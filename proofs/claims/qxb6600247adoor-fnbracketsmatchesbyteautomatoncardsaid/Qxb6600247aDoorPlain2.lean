/-
  PLAIN LAYER of seat b6600247aD, its second part: how the bracketed value's reading goes through a string, and over a stretch that holds no mark.
-/
import Derived.Test.Qxb6600247aDoorPlain
namespace Go.Proofs.Qxb6600247aDoor.Plain

theorem strM_pos : ∀ (e : Bool) (l : List UInt8), l ≠ [] → 1 ≤ (strM e l).1
  | _, [], h => absurd rfl h
  | true, c :: l, _ => by simp [strM, up]
  | false, c :: l, _ => by
    simp only [strM]
    split
    · simp [up]
    · split
      · simp
      · simp [up]

theorem bup_n (k : Nat) (r : Br) : (bup k r).n = k + r.n := rfl

/-- inside a string: what the string's reading leaves, then the rest. -/
theorem br_str : ∀ (e : Bool) (d : Int) (t : List UInt8), brM ⟨true, e, d⟩ t = bup (strM e t).1 (brM ⟨!(strM e t).2.1, (strM e t).2.2, d⟩ (t.drop (strM e t).1))
  | e, d, [] => by cases e <;> simp [strM, brM, bup]
  | true, d, c :: t => by
    have ih := br_str false d t
    have hc : closes ⟨true, true, d⟩ c = false := by simp [closes]
    have hn : next ⟨true, true, d⟩ c = ⟨true, false, d⟩ := by simp [next]
    rw [brM, hc, if_neg (by decide), hn, ih]
    simp only [strM, up, bup_bup]
    congr 2
    rw [Nat.add_comm, List.drop_succ_cons]
  | false, d, c :: t => by
    have ih1 := br_str true d t
    have ih2 := br_str false d t
    have hc : closes ⟨true, false, d⟩ c = false := by simp [closes]
    rw [brM, hc, if_neg (by decide)]
    by_cases h1 : c = 92
    · have hn : next ⟨true, false, d⟩ c = ⟨true, true, d⟩ := by simp [next, h1]
      rw [hn, ih1]
      simp only [strM, h1, if_true, up, bup_bup]
      congr 2
      rw [Nat.add_comm, List.drop_succ_cons]
    · by_cases h2 : c = 34
      · have hn : next ⟨true, false, d⟩ c = ⟨false, false, d⟩ := by simp [next, h2]
        rw [hn]
        simp [strM, h2]
      · have hn : next ⟨true, false, d⟩ c = ⟨true, false, d⟩ := by simp [next, h1, h2]
        rw [hn, ih2]
        simp only [strM, h1, h2, if_false, up, bup_bup]
        congr 2
        rw [Nat.add_comm, List.drop_succ_cons]

/-- the five marks outside a string. -/
def marks : List UInt8 := [34, 123, 125, 91, 93]
theorem marks_no {x : UInt8} (h : marks.contains x = false) : x ≠ 34 ∧ x ≠ 123 ∧ x ≠ 125 ∧ x ≠ 91 ∧ x ≠ 93 := by simpa [marks] using h
theorem marks_yes {x : UInt8} (h : marks.contains x = true) : x = 34 ∨ x = 123 ∨ x = 125 ∨ x = 91 ∨ x = 93 := by simpa [marks] using h

theorem br_none : ∀ (e : Bool) (d : Int) (t : List UInt8), (∀ x ∈ t, marks.contains x = false) → brM ⟨false, e, d⟩ t = ⟨t.length, false, ⟨false, e, d⟩⟩
  | e, d, [], _ => by simp [brM]
  | e, d, c :: t, h => by
    obtain ⟨h1, h2, h3, h4, h5⟩ := marks_no (h c (by simp))
    have hc : closes ⟨false, e, d⟩ c = false := by simp [closes, h3, h5]
    have hn : next ⟨false, e, d⟩ c = ⟨false, e, d⟩ := by simp [next, h1, h2, h3, h4, h5]
    rw [brM, hc, if_neg (by decide), hn, br_none e d t (fun x hx => h x (by simp [hx]))]
    simp [bup, Nat.add_comm]

theorem br_pre (e : Bool) (d : Int) (a t : List UInt8) (h : ∀ x ∈ a, marks.contains x = false) : brM ⟨false, e, d⟩ (a ++ t) = bup a.length (brM ⟨false, e, d⟩ t) := by
  rw [brM_app_open _ _ _ (by rw [br_none e d a h]), br_none e d a h]

end Go.Proofs.Qxb6600247aDoor.Plain
