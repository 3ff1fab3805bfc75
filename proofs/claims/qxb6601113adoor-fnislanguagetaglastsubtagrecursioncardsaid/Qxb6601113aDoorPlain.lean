/-
  PLAIN LAYER of seat b6601113aD: no Go in sight: the pieces of a text between its hyphens; what is asked of each.
-/
import Derived.Lib.SplitLaws
namespace Go.Proofs.Qxb6601113aDoor.Plain

def alpha (c : UInt8) : Bool := (decide (97 ≤ c.toNat) && decide (c.toNat ≤ 122)) || (decide (65 ≤ c.toNat) && decide (c.toNat ≤ 90))
def digit (c : UInt8) : Bool := decide (48 ≤ c.toNat) && decide (c.toNat ≤ 57)
def alnum (c : UInt8) : Bool := alpha c || digit c

/-- a subtag; the first one is asked more. -/
def okP (first : Bool) (p : List UInt8) : Bool :=
  decide (1 ≤ p.length) && decide (p.length ≤ 8) && p.all alnum && (!first || (p.all alpha && decide (2 ≤ p.length) && decide (p.length ≤ 3)))
def allOk : Bool → List (List UInt8) → Bool
  | _, [] => true
  | f, p :: ps => okP f p && allOk false ps

/-- the pieces between the hyphens. -/
def cons1 (c : UInt8) : List (List UInt8) → List (List UInt8)
  | [] => [[c]]
  | p :: ps => (c :: p) :: ps
def pieces : List UInt8 → List (List UInt8)
  | [] => [[]]
  | c :: l => if c = 45 then [] :: pieces l else cons1 c (pieces l)
def isTag (s : List UInt8) : Bool := allOk true (pieces s)

theorem pieces_ne : ∀ s : List UInt8, pieces s ≠ []
  | [] => by simp [pieces]
  | c :: l => by
    unfold pieces
    split
    · simp
    · cases h : pieces l with
      | nil => simp [cons1]
      | cons p ps => simp [cons1]

/-- the shelf's cutting at hyphens gives these pieces. -/
theorem split_pieces : ∀ s : List UInt8, Lib.splitK [45] 0 (Lib.count s [45]) s = pieces s
  | [] => by simp [Lib.count_one, Lib.splitK, pieces]
  | b :: l => by
    have ih := split_pieces l
    by_cases h : b = 45
    · subst h
      rw [Lib.count_cons_eq, Nat.add_comm, Lib.splitK, pieces, if_pos rfl]
      have hi : Lib.index (45 :: l) [45] = 0 := by simp [Lib.index, List.isPrefixOf]
      rw [hi, if_neg (by decide), ← ih]
      simp
    · rw [Lib.count_cons_ne b 45 l h, pieces, if_neg h, ← ih]
      have hp : ([45] : List UInt8).isPrefixOf (b :: l) = false := by simp [List.isPrefixOf]; exact fun e => h e.symm
      cases hk : Lib.count l [45] with
      | zero => simp [Lib.splitK, cons1]
      | succ k =>
        by_cases hm : Lib.index l [45] = -1
        · have hi : Lib.index (b :: l) [45] = -1 := by simp [Lib.index, hp, hm]
          rw [Lib.splitK, Lib.splitK, hi, hm]
          simp [cons1]
        · have hge := Lib.index_ge l [45]
          have hi : Lib.index (b :: l) [45] = Lib.index l [45] + 1 := by simp [Lib.index, hp, hm]
          rw [Lib.splitK, Lib.splitK, hi, if_neg (by rw [beq_iff_eq]; omega), if_neg (by rw [beq_iff_eq]; exact hm)]
          have e1 : (Lib.index l [45] + 1).toNat = (Lib.index l [45]).toNat + 1 := by omega
          rw [e1]
          simp [cons1]

/-! the scan: at a hyphen or the end the piece so far is closed. -/
def chk (first : Bool) (p : List UInt8) : Bool :=
  decide (1 ≤ p.length) && decide (p.length ≤ 8) && (!first || (p.all alpha && decide (2 ≤ p.length) && decide (p.length ≤ 3)))
def scan (first : Bool) (cur : List UInt8) : List UInt8 → Bool
  | [] => chk first cur
  | c :: l => if c = 45 then chk first cur && scan false [] l else alnum c && scan first (cur ++ [c]) l
def onHead (cur : List UInt8) : List (List UInt8) → List (List UInt8)
  | [] => [cur]
  | p :: ps => (cur ++ p) :: ps

theorem okP_chk (f : Bool) (p : List UInt8) (h : p.all alnum = true) : okP f p = chk f p := by
  unfold okP chk
  rw [h, Bool.and_true]
theorem okP_bad (f : Bool) (p : List UInt8) (h : p.all alnum = false) : okP f p = false := by
  unfold okP
  rw [h]
  simp
theorem scan_pieces : ∀ (f : Bool) (cur l : List UInt8), cur.all alnum = true → scan f cur l = allOk f (onHead cur (pieces l))
  | f, cur, [], h => by simp [scan, pieces, onHead, allOk, okP_chk f cur h]
  | f, cur, c :: l, h => by
    unfold scan pieces
    by_cases hc : c = 45
    · rw [if_pos hc, if_pos hc, scan_pieces false [] l rfl]
      have : onHead [] (pieces l) = pieces l := by
        cases hp : pieces l with
        | nil => exact absurd hp (pieces_ne l)
        | cons p ps => simp [onHead]
      rw [this]
      simp [onHead, allOk, okP_chk f cur h]
    · rw [if_neg hc, if_neg hc]
      have e : onHead cur (cons1 c (pieces l)) = onHead (cur ++ [c]) (pieces l) := by
        cases hp : pieces l with
        | nil => exact absurd hp (pieces_ne l)
        | cons p ps => simp [onHead, cons1]
      rw [e]
      cases ha : alnum c with
      | true =>
        rw [scan_pieces f (cur ++ [c]) l (by simp [h, ha])]
        simp
      | false =>
        cases hp : pieces l with
        | nil => exact absurd hp (pieces_ne l)
        | cons p ps =>
          have : (cur ++ [c] ++ p).all alnum = false := by simp [ha]
          simp only [onHead, allOk, okP_bad f _ this, Bool.false_and]
theorem scan_tag (s : List UInt8) : scan true [] s = isTag s := by
  rw [scan_pieces true [] s rfl, isTag]
  congr 1
  cases hp : pieces s with
  | nil => exact absurd hp (pieces_ne s)
  | cons p ps => simp [onHead]

/-! the last hyphen. -/
theorem pieces_whole : ∀ s : List UInt8, (∀ x ∈ s, x ≠ 45) → pieces s = [s]
  | [], _ => rfl
  | c :: l, h => by
    rw [pieces, if_neg (h c (by simp)), pieces_whole l (fun x hx => h x (by simp [hx]))]
    rfl
theorem pieces_last : ∀ (a u : List UInt8), (∀ x ∈ u, x ≠ 45) → pieces (a ++ 45 :: u) = pieces a ++ [u]
  | [], u, h => by simp [pieces, pieces_whole u h]
  | c :: a, u, h => by
    have ih := pieces_last a u h
    rw [List.cons_append, pieces, pieces]
    by_cases hc : c = 45
    · rw [if_pos hc, if_pos hc, ih]; rfl
    · rw [if_neg hc, if_neg hc, ih]
      cases hp : pieces a with
      | nil => exact absurd hp (pieces_ne a)
      | cons p ps => rfl
theorem allOk_snoc : ∀ (f : Bool) (ps : List (List UInt8)) (u : List UInt8), ps ≠ [] → allOk f (ps ++ [u]) = (allOk f ps && okP false u)
  | f, [], u, h => absurd rfl h
  | f, [p], u, _ => by simp [allOk]
  | f, p :: q :: ps, u, _ => by
    have ih := allOk_snoc false (q :: ps) u (by simp)
    show (okP f p && allOk false (q :: ps ++ [u])) = ((okP f p && allOk false (q :: ps)) && okP false u)
    rw [ih, Bool.and_assoc]
theorem tag_last (a u : List UInt8) (h : ∀ x ∈ u, x ≠ 45) : isTag (a ++ 45 :: u) = (isTag a && okP false u) := by
  unfold isTag
  rw [pieces_last a u h, allOk_snoc _ _ _ (pieces_ne a)]
theorem alpha_alnum (p : List UInt8) (h : p.all alpha = true) : p.all alnum = true := by
  rw [List.all_eq_true] at h ⊢
  intro x hx
  simp [alnum, h x hx]
theorem tag_one (s : List UInt8) (h : ∀ x ∈ s, x ≠ 45) : isTag s = (decide (2 ≤ s.length) && decide (s.length ≤ 3) && s.all alpha) := by
  unfold isTag
  rw [pieces_whole s h]
  simp only [allOk, okP, Bool.and_true, Bool.not_true, Bool.false_or]
  cases ha : s.all alpha with
  | false => simp
  | true =>
    rw [alpha_alnum s ha]
    simp only [Bool.and_true, Bool.true_and]
    rw [Bool.eq_iff_iff]
    simp
    omega
theorem okP_sub (u : List UInt8) : okP false u = (decide (1 ≤ u.length) && decide (u.length ≤ 8) && u.all alnum) := by
  simp [okP]

end Go.Proofs.Qxb6601113aDoor.Plain
