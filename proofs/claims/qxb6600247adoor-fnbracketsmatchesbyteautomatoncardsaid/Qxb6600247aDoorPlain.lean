/-
  PLAIN LAYER of seat b6600247aD: no Go in sight. 'strM': a string's text read a byte at a time (the escape state; the count, whether it closed, the escape left). 'brM': the same for a bracketed value.
-/
namespace Go.Proofs.Qxb6600247aDoor.Plain

def up (k : Nat) (r : Nat × Bool × Bool) : Nat × Bool × Bool := (k + r.1, r.2)
theorem up_up (a b : Nat) (r : Nat × Bool × Bool) : up a (up b r) = up (a + b) r := by unfold up; simp [Nat.add_assoc]
theorem up_zero (r : Nat × Bool × Bool) : up 0 r = r := by unfold up; simp

def strM : Bool → List UInt8 → Nat × Bool × Bool
  | e, [] => (0, false, e)
  | true, _ :: l => up 1 (strM false l)
  | false, c :: l => if c = 92 then up 1 (strM true l) else if c = 34 then (1, true, false) else up 1 (strM false l)

theorem strM_le : ∀ (e : Bool) (l : List UInt8), (strM e l).1 ≤ l.length
  | e, [] => by cases e <;> simp [strM]
  | true, _ :: l => by have := strM_le false l; simp [strM, up]; omega
  | false, c :: l => by
    have h1 := strM_le true l
    have h2 := strM_le false l
    simp only [strM]
    split
    · simp [up]; omega
    · split
      · simp
      · simp [up]; omega

/-- not closed: all of it was read. -/
theorem strM_open : ∀ (e : Bool) (l : List UInt8), (strM e l).2.1 = false → (strM e l).1 = l.length
  | e, [] => by cases e <;> simp [strM]
  | true, _ :: l => by have := strM_open false l; simp [strM, up]; intro h; have := this h; omega
  | false, c :: l => by
    have h1 := strM_open true l
    have h2 := strM_open false l
    simp only [strM]
    split
    · simp [up]; intro h; have := h1 h; omega
    · split
      · simp
      · simp [up]; intro h; have := h2 h; omega

/-- two pieces: the first closes it, or the second goes on from what the first left. -/
theorem up_fst (k : Nat) (r : Nat × Bool × Bool) : (up k r).1 = k + r.1 := rfl
theorem up_snd (k : Nat) (r : Nat × Bool × Bool) : (up k r).2 = r.2 := rfl
theorem strM_app_closed : ∀ (e : Bool) (a b : List UInt8), (strM e a).2.1 = true → strM e (a ++ b) = strM e a
  | e, [], b => by cases e <;> simp [strM]
  | true, _ :: l, b => by
    have ih := strM_app_closed false l b
    simp only [List.cons_append, strM, up_snd]
    intro h; rw [ih h]
  | false, c :: l, b => by
    have h1 := strM_app_closed true l b
    have h2 := strM_app_closed false l b
    simp only [List.cons_append, strM]
    by_cases hc : c = 92
    · simp only [hc, if_true, up_snd]; intro h; rw [h1 h]
    · by_cases hd : c = 34
      · simp [hd]
      · simp only [hc, hd, if_false, up_snd]; intro h; rw [h2 h]
theorem strM_app_open : ∀ (e : Bool) (a b : List UInt8), (strM e a).2.1 = false → strM e (a ++ b) = up a.length (strM (strM e a).2.2 b)
  | e, [], b => by cases e <;> simp [strM, up_zero]
  | true, _ :: l, b => by
    have ih := strM_app_open false l b
    simp only [List.cons_append, strM, up_snd]
    intro h; rw [ih h, up_up, List.length_cons, Nat.add_comm]
  | false, c :: l, b => by
    have h1 := strM_app_open true l b
    have h2 := strM_app_open false l b
    simp only [List.cons_append, strM]
    by_cases hc : c = 92
    · simp only [hc, if_true, up_snd]; intro h; rw [h1 h, up_up, List.length_cons, Nat.add_comm]
    · by_cases hd : c = 34
      · simp [hd]
      · simp only [hc, hd, if_false, up_snd]; intro h; rw [h2 h, up_up, List.length_cons, Nat.add_comm]

/-- no mark among the bytes. -/
theorem strM_none : ∀ (l : List UInt8), (∀ x ∈ l, x ≠ 34 ∧ x ≠ 92) → strM false l = (l.length, false, false)
  | [], _ => by simp [strM]
  | c :: l, h => by
    have hc := h c (by simp)
    have := strM_none l (fun x hx => h x (by simp [hx]))
    simp [strM, hc.1, hc.2, this, up, Nat.add_comm]

theorem strM_pre (a : List UInt8) (b : List UInt8) (h : ∀ x ∈ a, x ≠ 34 ∧ x ≠ 92) : strM false (a ++ b) = up a.length (strM false b) := by
  rw [strM_app_open _ _ _ (by rw [strM_none a h]), strM_none a h]

theorem strM_quote (a b : List UInt8) (h : ∀ x ∈ a, x ≠ 34 ∧ x ≠ 92) : strM false (a ++ 34 :: b) = (a.length + 1, true, false) := by
  rw [strM_pre a _ h]; simp [strM, up]
theorem strM_slash_end (a : List UInt8) (h : ∀ x ∈ a, x ≠ 34 ∧ x ≠ 92) : strM false (a ++ [92]) = (a.length + 1, false, true) := by
  rw [strM_pre a _ h]; simp [strM, up]
theorem strM_slash (a b : List UInt8) (c : UInt8) (h : ∀ x ∈ a, x ≠ 34 ∧ x ≠ 92) : strM false (a ++ 92 :: c :: b) = up (a.length + 2) (strM false b) := by
  rw [strM_pre a _ h]; simp [strM, up_up]

/-! the bracketed value: (inside a string, escape, depth) -/
structure St where
  q : Bool
  e : Bool
  d : Int

/-- count read, closed?, the state left -/
structure Br where
  n : Nat
  c : Bool
  s : St

def bup (k : Nat) (r : Br) : Br := { r with n := k + r.n }
theorem bup_bup (a b : Nat) (r : Br) : bup a (bup b r) = bup (a + b) r := by unfold bup; simp [Nat.add_assoc]
theorem bup_zero (r : Br) : bup 0 r = r := by unfold bup; simp

/-- one byte, when the value does not close there. -/
def next (s : St) (c : UInt8) : St :=
  if s.q then (if s.e then { s with e := false } else if c = 92 then { s with e := true } else if c = 34 then { s with q := false } else s)
  else if c = 34 then { s with q := true }
  else if c = 123 ∨ c = 91 then { s with d := s.d + 1 }
  else if c = 125 ∨ c = 93 then { s with d := s.d - 1 }
  else s
def closes (s : St) (c : UInt8) : Bool := !s.q && (c == 125 || c == 93) && s.d == 1

def brM : St → List UInt8 → Br
  | s, [] => ⟨0, false, s⟩
  | s, c :: l => if closes s c then ⟨1, true, next s c⟩ else bup 1 (brM (next s c) l)

theorem brM_app_closed : ∀ (s : St) (a b : List UInt8), (brM s a).c = true → brM s (a ++ b) = brM s a
  | s, [], b => by simp [brM]
  | s, c :: l, b => by
    have ih := brM_app_closed (next s c) l b
    simp only [List.cons_append, brM]
    cases hc : closes s c
    · intro h; simp only [Bool.false_eq_true, if_false] at h ⊢; rw [ih h]
    · simp
theorem brM_app_open : ∀ (s : St) (a b : List UInt8), (brM s a).c = false → brM s (a ++ b) = bup a.length (brM (brM s a).s b)
  | s, [], b => by simp [brM, bup_zero]
  | s, c :: l, b => by
    have ih := brM_app_open (next s c) l b
    simp only [List.cons_append, brM]
    cases hc : closes s c
    · intro h; simp only [Bool.false_eq_true, if_false] at h ⊢; rw [ih h, bup_bup, List.length_cons, Nat.add_comm]; rfl
    · simp

theorem brM_open : ∀ (s : St) (l : List UInt8), (brM s l).c = false → (brM s l).n = l.length
  | s, [] => by simp [brM]
  | s, c :: l => by
    have ih := brM_open (next s c) l
    simp only [brM]
    split
    · simp
    · simp [bup]; intro h; have := ih h; omega

theorem brM_le : ∀ (s : St) (l : List UInt8), (brM s l).n ≤ l.length
  | s, [] => by simp [brM]
  | s, c :: l => by
    have ih := brM_le (next s c) l
    simp only [brM]
    split
    · simp
    · simp [bup]; omega

/-- the depth stays at 1 or more while the value is open, and moves by at most one a byte. -/
theorem next_depth (s : St) (c : UInt8) (h : 1 ≤ s.d) (hc : closes s c = false) : 1 ≤ (next s c).d ∧ (next s c).d ≤ s.d + 1 := by
  unfold next
  unfold closes at hc
  split
  · repeat' split
    all_goals (first | omega | (simp; omega))
  · rename_i hq
    split
    · simp; omega
    · split
      · simp; omega
      · split
        · rename_i h3
          have h4 : (c == 125 || c == 93) = true := by rcases h3 with h3 | h3 <;> simp [h3]
          rw [h4] at hc
          have h5 : s.q = false := by simpa using hq
          rw [h5] at hc
          simp at hc
          simp
          omega
        · omega

theorem brM_depth : ∀ (s : St) (l : List UInt8), 1 ≤ s.d → (brM s l).c = false → 1 ≤ (brM s l).s.d ∧ (brM s l).s.d ≤ s.d + l.length
  | s, [], h => by simp [brM]; exact h
  | s, c :: l, h => by
    have ih := brM_depth (next s c) l
    simp only [brM]
    split
    · simp
    · rename_i hc
      have hn := next_depth s c h (by simpa using hc)
      simp only [bup, List.length_cons]
      intro hopen
      have := ih hn.1 hopen
      omega

end Go.Proofs.Qxb6600247aDoor.Plain
