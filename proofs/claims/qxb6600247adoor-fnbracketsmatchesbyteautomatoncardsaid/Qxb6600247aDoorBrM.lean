/-
  WALK of seat b6600247aD: zzBracketsModel.
-/
import Derived.Test.Qxb6600247aDoorStr
namespace Go.Proofs.Qxb6600247aDoor
open Go.RowKit Go.Deep Go.Lib
open Plain

theorem results_tmp5 {fn : Func} {a b c d e : Tmp} (h : fn.results = #[.tmp a, .tmp b, .tmp c, .tmp d, .tmp e]) (tmps : Array Value) (P : Program) (w : World) :
    (results fn tmps).run P w = .ok (.tuple #[tmps.getD a undef, tmps.getD b undef, tmps.getD c undef, tmps.getD d undef, tmps.getD e undef]) w := by
  simp [results, h]

/-- what the five results read as. -/
def brV (r : Br) : Value := .tuple #[.int .i64 (r.n : Int), .bool r.c, .bool r.s.q, .bool r.s.e, .int .i64 r.s.d]

/-- one byte in numbers: does the value close; the state behind it. -/
def nextZ (q e : Bool) (d n : Int) : Bool × Bool × Bool × Int :=
  if q = true then (if e = true then (false, q, false, d) else if n = 92 then (false, q, true, d) else if n = 34 then (false, false, e, d) else (false, q, e, d))
  else if n = 34 then (false, true, e, d)
  else if n = 123 ∨ n = 91 then (false, q, e, d + 1)
  else if n = 125 ∨ n = 93 then (decide (d - 1 = 0), q, e, d - 1)
  else (false, q, e, d)
theorem u8_iff (x : UInt8) (k : Nat) (hk : k < 256) : (x = UInt8.ofNat k) ↔ ((x.toNat : Int) = (k : Int)) := by
  have := u8_eq x k hk
  constructor
  · intro h; rw [decide_eq_true h] at this; simpa using this
  · intro h; rw [beq_iff_eq.2 h] at this; exact of_decide_eq_true this.symm
theorem nextZ_eq (q e : Bool) (d : Int) (x : UInt8) : nextZ q e d (x.toNat : Int) = (closes ⟨q, e, d⟩ x, (next ⟨q, e, d⟩ x).q, (next ⟨q, e, d⟩ x).e, (next ⟨q, e, d⟩ x).d) := by
  have a1 := u8_iff x 92 (by omega); have a2 := u8_iff x 34 (by omega); have a3 := u8_iff x 123 (by omega); have a4 := u8_iff x 91 (by omega); have a5 := u8_iff x 125 (by omega); have a6 := u8_iff x 93 (by omega)
  simp only [show UInt8.ofNat 92 = (92 : UInt8) from rfl, show UInt8.ofNat 34 = (34 : UInt8) from rfl, show UInt8.ofNat 123 = (123 : UInt8) from rfl, show UInt8.ofNat 91 = (91 : UInt8) from rfl, show UInt8.ofNat 125 = (125 : UInt8) from rfl, show UInt8.ofNat 93 = (93 : UInt8) from rfl] at a1 a2 a3 a4 a5 a6
  unfold nextZ next closes
  simp only [a1, a2, a3, a4, a5, a6]
  cases q
  · simp only [Bool.false_eq_true, if_false, Bool.not_false, Bool.true_and]
    have b5 : (x == 125) = decide ((x.toNat : Int) = (125 : Nat)) := by rw [Bool.eq_iff_iff]; simpa using a5
    have b6 : (x == 93) = decide ((x.toNat : Int) = (93 : Nat)) := by rw [Bool.eq_iff_iff]; simpa using a6
    rw [b5, b6]
    generalize (x.toNat : Int) = n
    by_cases h1 : n = 34
    · subst h1; simp
    · by_cases h2 : n = 123 ∨ n = 91
      · rcases h2 with rfl | rfl <;> simp
      · by_cases h3 : n = 125 ∨ n = 93
        · have hdd : decide (d - 1 = 0) = (d == 1) := by rw [Bool.eq_iff_iff]; simp; omega
          rcases h3 with rfl | rfl <;> simp [hdd]
        · have h31 : ¬ n = 125 := fun h => h3 (.inl h)
          have h32 : ¬ n = 93 := fun h => h3 (.inr h)
          have h21 : ¬ n = 123 := fun h => h2 (.inl h)
          have h22 : ¬ n = 91 := fun h => h2 (.inr h)
          simp [h1, h21, h22, h31, h32]
  · simp only [if_true, Bool.not_true, Bool.false_and]
    generalize (x.toNat : Int) = n
    cases e
    · by_cases h1 : n = 92
      · subst h1; simp
      · by_cases h2 : n = 34
        · subst h2; simp
        · simp [h1, h2]
    · simp
theorem nxt {s0 : St} {l : List UInt8} {k : Nat} {q e : Bool} {d : Int} {x : UInt8} {q' e' : Bool} {d' : Int} (hs : brM s0 l = bup k (brM ⟨q, e, d⟩ (l.drop k))) (hd : l.drop k = x :: l.drop (k + 1))
    (h : nextZ q e d (x.toNat : Int) = (false, q', e', d')) : brM s0 l = bup (k + 1) (brM ⟨q', e', d'⟩ (l.drop (k + 1))) := by
  rw [nextZ_eq] at h
  simp only [Prod.mk.injEq] at h
  obtain ⟨h1, rfl, rfl, rfl⟩ := h
  rw [hs, hd, brM, h1, if_neg (by decide), bup_bup]
theorem cls {s0 : St} {l : List UInt8} {k : Nat} {q e : Bool} {d : Int} {x : UInt8} {q' e' : Bool} {d' : Int} (hs : brM s0 l = bup k (brM ⟨q, e, d⟩ (l.drop k))) (hd : l.drop k = x :: l.drop (k + 1))
    (h : nextZ q e d (x.toNat : Int) = (true, q', e', d')) : brM s0 l = ⟨k + 1, true, ⟨q', e', d'⟩⟩ := by
  rw [nextZ_eq] at h
  simp only [Prod.mk.injEq] at h
  obtain ⟨h1, rfl, rfl, rfl⟩ := h
  rw [hs, hd, brM, h1, if_pos rfl, bup]
theorem brEnd {s0 : St} {l : List UInt8} {k : Nat} {s : St} (hs : brM s0 l = bup k (brM s (l.drop k))) (hk : k = l.length) : brM s0 l = ⟨l.length, false, s⟩ := by
  subst hk
  rw [hs, List.drop_length, brM]; rfl
theorem retBr {r : Br} {n : Int} {c q e : Bool} {d : Int} {m : Nat} (h : r = ⟨m, c, ⟨q, e, d⟩⟩) (hn : n = m) : Ending.returned (.tuple #[.int .i64 n, .bool c, .bool q, .bool e, .int .i64 d]) = .returned (brV r) := by
  rw [h, hn]; rfl

set_option maxHeartbeats 4000000 in
theorem brModel_any (q e : Bool) (d : Int) (p : Option Addr) (c : Nat) (l : List UInt8) (w : World) (hl : l.length ≤ 1048576) (hd1 : 1 ≤ d) (hd2 : d ≤ 1073741824) (hb : Bts w p l) :
    Calls Tryd.prog 19 #[.bool q, .bool e, .int .i64 d, .slice p l.length c] w fun x w' => x = .returned (brV (brM ⟨q, e, d⟩ l)) ∧ w' = w := by
  have HB := hide hb
  clear hb
  go_enter Tryd.func19, Tryd.ntmps19
  go_wp2
  go_loop [0, 1, 2, 13] (fun tq te td i => ∃ (k : Nat) (qk ek : Bool) (dk : Int), k ≤ l.length ∧ i = .int .i64 k ∧ tq = .bool qk ∧ te = .bool ek ∧ td = .int .i64 dk ∧ 1 ≤ dk ∧ dk ≤ d + k ∧ brM ⟨q, e, d⟩ l = bup k (brM ⟨qk, ek, dk⟩ (l.drop k))) (fun _ _ _ i => l.length - (intOf i).toNat)
  case atStart => exact ⟨0, q, e, d, Nat.zero_le _, rfl, rfl, rfl, rfl, hd1, by omega, by simp [bup_zero]⟩
  case round =>
    obtain ⟨k, qk, ek, dk, hk, rfl, rfl, rfl, rfl, hk1, hk2, hs⟩ := hrel
    have HS := hide hs
    clear hs
    by_cases hlt : k < l.length
    · obtain ⟨b, o, rfl, hc⟩ := unhide HB (by omega)
      have hck := hc k hlt
      clear hc
      have hd := drop_getD l k hlt
      generalize l.getD k 0 = x at hck hd
      have HD := hide hd
      clear hd
      go_wp2
      all_goals first
        | (go_round
           case measure => simp [intOf]; omega
           case rel =>
             refine ⟨k + 1, _, _, _, by omega, by go_num, rfl, rfl, rfl, ?_, ?_, nxt (unhide HS) (unhide HD) ?_⟩
             all_goals (clear HS HD HB)
             · first | omega | (simp_all; done) | (simp_all; omega)
             · first | omega | (simp_all; done) | (simp_all; omega)
             · simp_all [nextZ])
        | ((try simp only [Exit.inBlock, Exit.then]); refine bodyPost_ret (results_tmp5 rfl _ _ _) rfl ?_
           refine ⟨retBr (m := k + 1) (cls (unhide HS) (unhide HD) ?_) (by omega), rfl⟩
           clear HS HD HB
           simp_all [nextZ])
    · go_wp2
      ((try simp only [Exit.inBlock, Exit.then]); refine bodyPost_ret (results_tmp5 rfl _ _ _) rfl ?_)
      exact ⟨retBr (brEnd (unhide HS) (by omega)) rfl, rfl⟩
end Go.Proofs.Qxb6600247aDoor
