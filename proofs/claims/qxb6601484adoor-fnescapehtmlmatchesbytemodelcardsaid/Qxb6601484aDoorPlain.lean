/-
  PLAIN LAYER of seat b6601484aD: each byte escaped on its own.
-/
namespace Go.Proofs.Qxb6601484aDoor.Plain

def escB (c : UInt8) : List UInt8 :=
  if c = 60 then [92, 117, 48, 48, 51, 99] else if c = 62 then [92, 117, 48, 48, 51, 101] else if c = 38 then [92, 117, 48, 48, 50, 54] else [c]
def esc : List UInt8 → List UInt8
  | [] => []
  | c :: l => escB c ++ esc l
def html : List UInt8 := [60, 62, 38]
theorem html_no {x : UInt8} (h : html.contains x = false) : x ≠ 60 ∧ x ≠ 62 ∧ x ≠ 38 := by simpa [html] using h
theorem html_yes {x : UInt8} (h : html.contains x = true) : x = 60 ∨ x = 62 ∨ x = 38 := by simpa [html] using h

theorem escB_len (c : UInt8) : 1 ≤ (escB c).length ∧ (escB c).length ≤ 6 := by
  unfold escB
  repeat' split
  all_goals simp
theorem esc_len : ∀ l : List UInt8, l.length ≤ (esc l).length ∧ (esc l).length ≤ 6 * l.length
  | [] => by simp [esc]
  | c :: l => by
    have h1 := escB_len c
    have h2 := esc_len l
    simp only [esc, List.length_append, List.length_cons]
    omega
theorem esc_append : ∀ a b : List UInt8, esc (a ++ b) = esc a ++ esc b
  | [], b => rfl
  | c :: a, b => by simp only [List.cons_append, esc, esc_append a b, List.append_assoc]
theorem esc_none : ∀ a : List UInt8, (∀ x ∈ a, html.contains x = false) → esc a = a
  | [], _ => rfl
  | c :: a, h => by
    obtain ⟨h1, h2, h3⟩ := html_no (h c (by simp))
    simp only [esc, escB, h1, h2, h3, if_false, esc_none a (fun x hx => h x (by simp [hx]))]
    rfl
theorem esc_mid (a u : List UInt8) (x : UInt8) (h : ∀ y ∈ a, html.contains y = false) : esc (a ++ x :: u) = a ++ (escB x ++ esc u) := by
  rw [esc_append, esc_none a h]
  rfl

end Go.Proofs.Qxb6601484aDoor.Plain
