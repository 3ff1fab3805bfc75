/-
  THE CARD of FnEscapeHTMLMatchesByteModel.
-/
import Derived.Test.Qxb6601484aDoorBase
namespace Go.Proofs.Qxb6601484aDoor
open Go.ChangeShapes Go.WideShapes Go.ChangeAt Go.RowKit
open Go.ChangeMaps (open_string shut_string)
set_option maxRecDepth 100000


/-- THE LAW, at every argument. -/
theorem law3 (p : Option Addr) (c : Nat) (l : List UInt8) (fr : Int) (w : World) (m : Int) (hg : Gl w m) (hb : Bts w p l) (hml : l.length ≤ maxLen) (_hw : (Lit.int .i64 fr).wf = true) :
    Calls Tryd.prog 3 #[.slice p l.length c, .int .i64 fr] w fun x w' => x = .returned (.bool true) ∧ Below w.heap.size w w' := by
  have hml' : l.length ≤ 9223372036854775807 := Nat.le_trans hml (by decide +kernel)
  by_cases h : 1048576 < l.length
  · exact (law3_long p l.length c fr w h hml').mono fun x w' hx => ⟨hx.1, by rw [hx.2]; exact Below.refl _ _⟩
  · by_cases hd : fr < 0 ∨ (l.length : Int) < fr
    · exact (law3_out p l.length c fr w (by omega) hd).mono fun x w' hx => ⟨hx.1, by rw [hx.2]; exact Below.refl _ _⟩
    · obtain ⟨f, rfl⟩ : ∃ f : Nat, fr = (f : Int) := ⟨fr.toNat, by omega⟩
      cases p with
      | some a =>
        refine law3_some a c l f w m hg (fun i hi => ?_) (by omega) (by omega)
        obtain ⟨b, o, hp, hc⟩ := hb (by omega)
        cases hp
        rw [show (⟨b, o, none⟩ : Addr).add i = ⟨b, o + i, none⟩ by simp [Addr.add]]
        exact hc i hi
      | none =>
        cases l with
        | nil =>
          have e : f = 0 := by simp at hd; omega
          subst e
          exact law3_nil w m hg c
        | cons x t => exact absurd (hb (by simp)) (by rintro ⟨b, o, hp, _⟩; cases hp)


theorem lifted3 (os : Os) (started : os.Started) (H : Type) (enc : TypeId × Value → H) :
    ReturnsInHanded {} Tryd.checked os 3 .any (fun w args => (Rows.fnEscapeHTMLMatchesByteModelSpec.pre enc Tryd.prog Tryd.f3 [] false w args ∧ laidMetH Tryd.prog laid w) ∧ sizedMet enc Tryd.prog Tryd.f3 (OpenSpec.ofChange Rows.fnEscapeHTMLMatchesByteModelSpec) false w args)
      (Rows.fnEscapeHTMLMatchesByteModelSpec.post enc Tryd.prog Tryd.f3 false true false false) := by
  refine returns_laid_shaped (C := Tryd.checked) (X := fun w _ => laidMetH Tryd.prog laid w) (fun _ _ _ hh h => h.of_heap hh) own started (by kernel_rfl) Tryd.func3
    (ChangeSpec.witness_shaped (enc := enc) (C := Tryd.checked) (os := os) (X := fun w _ => laidMetH Tryd.prog laid w) false (World.laidAll Tryd.prog os laid) #[.slice none 0 0, .int .i64 0] 8 (World.laidAll_os _ _ _)
      (World.shaped_of_ZipB (by kernel_rfl) (by kernel_rfl)) (by kernel_rfl) (by kernel_rfl) (by kernel_rfl)
      (by rw [MakeChecks.laidMetH_plain _ _ _ (by kernel_rfl)]; exact laidMet_laidAll _ (by kernel_rfl) (by kernel_rfl))) ?_
  intro W base args ds gs before hval0 hW hL hsh
  have hval : ∀ (j : Nat) t v, Tryd.f3.params[j]? = some t → args[j]? = some v → Value.okWide Tryd.prog W .any base t v := hval0
  have hW' := hW
  obtain ⟨p, q, hA0, hV, rfl, _, _⟩ := hW
  have hA : DataW.TrodAll enc Tryd.prog W 0 (fun _ => true) true Tryd.f3.params.toList args.toList ds p := hA0
  rw [Tryd.params3] at hA hval
  obtain ⟨v0, vs0, d0, ds0, p0, q0, hargs, rfl, rfl, h0, r0⟩ := trodAll_cons hA
  obtain ⟨v1, vs1, d1, ds1, p1, q1, rfl, rfl, rfl, h1, r1⟩ := trodAll_cons r0
  obtain ⟨rfl, rfl, rfl⟩ := trodAll_nil r1
  obtain rfl : args = #[v0, v1] := by cases args; simp_all
  obtain ⟨rfl, rfl⟩ := trodVars_none hV
  obtain ⟨a0, len0, cap0, rfl⟩ := okWide_slice Tryd.underlying22 (hval 0 22 v0 rfl rfl)
  have k0 := h0
  have lt0 : ∀ x ∈ p0, x.block < W.heap.size := by obtain ⟨m, hm⟩ := k0; exact DataW.trod_lt m _ _ _ hm
  obtain ⟨l0, rfl, hb0, hml0⟩ := open_bytes h0
  obtain ⟨a1, rfl, rfl, rfl, w1⟩ := open_int Tryd.underlying3 (hval 1 3 v1 rfl rfl) h1
  obtain ⟨m, hg⟩ := gl_of hL hsh
  clear hA0 hval0
  refine (law3 a0 cap0 l0 a1 W m hg hb0 hml0 w1).mono fun e W' ⟨he, bel⟩ => ?_
  subst he
  exact ⟨_, rfl, _, _, _, [], _, [], hW', trodAll_mk1 (shut_bool Tryd.underlying4 _), (trodAll_cons_mk (Below.trod laidOut (by kernel_rfl) (of_decide_eq_true (by kernel_rfl)) k0 bel lt0) (trodAll_cons_mk (shut_int Tryd.underlying3 w1) trodAll_mk0)), rfl, bel.frame _, fun h => by cases h⟩

theorem said3 : Rows.FnEscapeHTMLMatchesByteModelSaid :=
  OpenClaim.holds_of_wide 3 Tryd.f3 rfl rfl rfl rfl rfl rfl rfl ⟨rfl, rfl, rfl, rfl, rfl⟩ rfl rfl rfl rfl rfl (by kernel_rfl) Tryd.func3 (by kernel_rfl)
    (of_decide_eq_true (by kernel_rfl)) (by unfold Func.isWrapper; first | (rw [if_pos (by decide +kernel)]; kernel_rfl) | (rw [if_neg (by decide +kernel)]; exact ⟨rfl, rfl⟩))
    (fun os started H enc _ => lifted3 os started H enc)

theorem card3 : Rows.FnEscapeHTMLMatchesByteModelCardSaid :=
  Claim7.holds_tied_plain_at .later [] [.data, .pinned] true (true, "87d68016c941abd6dd9c0b814d33b44dd9c501f79d43e43e911852dedbd3ed77") false
    said3 (fun _ h => by cases h) (by kernel_rfl) (fun _ h => by cases h) fnEscapeHTMLMatchesByteModel_row_tie rfl ⟨rfl, rfl⟩ (by kernel_rfl) rfl
    (fun f fn hf hfn => by
      obtain rfl : f = 3 := Option.some.inj ((show Tryd.prog.funcNamed Rows.fnEscapeHTMLMatchesByteModelRow.func = some 3 by kernel_rfl).symm.trans hf) |>.symm
      obtain rfl : fn = Tryd.f3 := (Option.some.inj (Tryd.func3.symm.trans hfn)).symm
      exact ⟨by kernel_rfl, fun j t ht => by
        rw [Tryd.params3] at ht
        have hm : t ∈ [22, 3] := by simpa using Array.mem_of_getElem? ht
        have hall : ([22, 3].all fun u => !Tryd.prog.wantsStandIn u) = true := by kernel_rfl
        exact (show Tryd.prog.wantsStandIn t = false by simpa using List.all_eq_true.1 hall t hm)⟩)
    (by kernel_rfl)
end Go.Proofs.Qxb6601484aDoor
