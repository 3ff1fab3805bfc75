/-
  THE ROWS' FRAME of seat b6601484aD: what the row's condition and the world's shape give the walks; the witness's world; the wrap that keeps both.
-/
import Derived.Test.Qxb6601484aDoorTie
import Derived.Test.Qxb6601484aDoorCards
import Derived.Test.Qxb6601484aDoorL3
import Derived.ProofKit
import Derived.OpenShut
import Derived.ChangeOld
import Derived.Below
import Derived.Lay
import Derived.LaidMore
import Derived.Lib.LaidU8T
import Derived.PinnedBridge
import Derived.Shelf.Vars
import Derived.SevenTiedAt
namespace Go.Proofs.Qxb6601484aDoor
open Go.ChangeShapes Go.WideShapes Go.ChangeAt Go.RowKit Go.Lib
set_option maxRecDepth 100000

theorem own : ownKnob Tryd.prog.godebug = none := by kernel_rfl
theorem laidOut : laidOutB Tryd.prog = true := by kernel_rfl

def laid : List (String × DataW Unit) := Rows.fnEscapeHTMLMatchesByteModelRow.laid

theorem accept_eq : (Rows.laid_unicode_utf8_acceptRanges : DataW Unit) = acceptData := by kernel_rfl
theorem first_eq : Rows.laid_unicode_utf8_first = firstData := Pinned.utf8First_eq

/-- the wrap: the row's listed variables AND the world's shape are handed to the contract. -/
theorem returns_laid_shaped {H : Type} {enc : TypeId × Value → H} {a : Assume} {C : Checked} {os : Os} {f : FuncId} {fn : Func} {s : ChangeSpec} {conds : List PathCond} {apart fresh handsOn again : Bool} {X : World → Array Value → Prop}
    (hX : ∀ (w w' : World) (args : Array Value), w.heap = w'.heap → X w args → X w' args)
    (own : ownKnob C.prog.godebug = none) (started : os.Started) (noInit : C.prog.inits.idxOf? f = none) (hfn : C.prog.funcs[f]? = some fn)
    (witness : ∃ (w : World) (tape : Tape) (i : Input), w.os = os ∧ (w.forCall tape i).Shaped C.prog ∧ i.vars = [] ∧ Input.okWide C.prog (w.forCall tape i) .any w.heap.size f i ∧
      ((s.pre enc C.prog fn conds apart (w.forCall tape i).memory i.args ∧ X (w.forCall tape i).memory i.args) ∧ sizedMet enc C.prog fn (OpenSpec.ofChange s) apart (w.forCall tape i).memory i.args) ∧ a.holds C.prog (lone (Frame.enter C.prog f i.args .normal) [] (w.forCall tape i)))
    (contract : ∀ (W : World) (base : Nat) (args : Array Value) (ds gs : List (DataW H)) (before : List MemPlace),
      (∀ (j : Nat) t v, fn.params[j]? = some t → args[j]? = some v → Value.okWide C.prog W .any base t v) →
      DataW.Whole enc C.prog fn.params.toList s.vars apart W args.toList ds gs before →
      X W args → W.ShapedOpen C.prog →
      Calls C.prog f args W fun e W' => ∃ v, e = .returned v ∧ s.post enc C.prog fn apart fresh handsOn again W args v W') :
    ReturnsInHanded a C os f .any (fun w args => (s.pre enc C.prog fn conds apart w args ∧ X w args) ∧ sizedMet enc C.prog fn (OpenSpec.ofChange s) apart w args) (s.post enc C.prog fn apart fresh handsOn again) := by
  refine returnsInHanded_of_calls own started noInit witness ?_
  intro w tape i _ hsh _ hok hpre _
  obtain ⟨_, _, _, fn', hfn', _, _, _, _, hval⟩ := hok
  have e : fn' = fn := Option.some.inj (hfn'.symm.trans hfn)
  subst e
  obtain ⟨⟨⟨ds, gs, before, hw, _⟩, hx⟩, _⟩ := hpre
  have hw' := DataW.Whole.of_heap (w' := w.forCall tape i) (by rfl) hw
  refine (contract (w.forCall tape i) w.heap.size i.args ds gs before hval hw' (hX _ _ _ (by rfl) hx) hsh).mono fun e W' ⟨v, he, hp⟩ => ?_
  subst he
  exact ChangeSpec.post_blind hp

/-- the two tables' types, at this translation. -/
def renU : Go.Shelf.Ren := ⟨fun n => n, fun | 5 => 5 | 119 => 48 | 138 => 50 | 139 => 51 | n => n, fun | 3 => 1 | 4 => 2 | n => n⟩
theorem u8types : U8Types Tryd.prog renU := ⟨Tryd.underlying5, Tryd.underlying48, Tryd.underlying50, Tryd.underlying51⟩
theorem u8extra : U8Extra Tryd.prog renU := ⟨by kernel_rfl, by kernel_rfl, by kernel_rfl, by kernel_rfl, by kernel_rfl, by kernel_rfl, by kernel_rfl⟩
theorem gl_of {W : World} (hL : laidMetH Tryd.prog laid W) (hsh : W.ShapedOpen Tryd.prog) : ∃ m, Gl W m := by
  rw [MakeChecks.laidMetH_plain _ _ _ (by kernel_rfl)] at hL
  have hT : Lib.Utf8Tabs 1 2 W := utf8Tabs_of_readsT u8types u8extra (by rw [← first_eq]; exact laidMet.reads hL (.tail _ (.head _))) (by rw [← accept_eq]; exact laidMet.reads hL (.head _))
  obtain ⟨m, hm⟩ : ∃ m, W.cell? ⟨0, 0, none⟩ = some (.int .i64 m) := cell_of_shapedOpen_int (P := Tryd.prog) (g := 0) (t := 3) (zero := #[.int .i64 0]) hsh (of_decide_eq_true (by kernel_rfl)) (by kernel_rfl) rfl (by kernel_rfl) (by kernel_rfl) Tryd.underlying3
  exact ⟨m, hT, hm⟩

/-- a slice of bytes that came in, opened. -/
theorem open_bytes {H : Type} {enc : TypeId × Value → H} {W : World} {base : Nat} {sp : Nat → Bool} {held : Bool} {a : Option Addr} {len cap : Nat} {d : DataW H} {p : List MemPlace}
    (h : DataW.Trod enc Tryd.prog W base sp held 22 (.slice a len cap) d p) : ∃ l : List UInt8, l.length = len ∧ Bts W a l ∧ len ≤ maxLen := by
  obtain ⟨fuel, hf⟩ := h
  rcases open_ints Tryd.underlying22 Tryd.underlying5 (by kernel_rfl) hf with ⟨hcs, _⟩ | ⟨x, l, c, zs, hcs, _, hl, hm, hz, _, hcell, hwz⟩
  · simp [Value.cells] at hcs
    obtain ⟨rfl, rfl, rfl⟩ := hcs
    exact ⟨[], rfl, fun h => by simp at h, Nat.zero_le _⟩
  · simp [Value.cells] at hcs
    obtain ⟨rfl, rfl, rfl⟩ := hcs
    refine ⟨(zs.take len).map fun z => z.toNat.toUInt8, ?_, fun h0 => ?_, by omega⟩
    · have hz' : len ≤ zs.length := by rw [hz]; split <;> omega
      rw [List.length_map, List.length_take]
      omega
    · have hz' : len ≤ zs.length := by rw [hz]; split <;> omega
      rw [List.length_map, List.length_take] at h0
      obtain ⟨b, o, hx, hc⟩ := ints_at hcell (by omega)
      refine ⟨b, o, by rw [hx], fun i hi => ?_⟩
      rw [List.length_map, List.length_take] at hi
      rw [hc i (by omega)]
      have hr := range_u8 hwz i
      rw [List.getD, List.getD, List.getElem?_map, List.getElem?_take, if_pos (by omega)]
      have hlt : i < zs.length := by omega
      rw [List.getElem?_eq_getElem hlt] at hr ⊢
      simp only [Option.getD_some, Option.map_some] at hr ⊢
      congr 2
      rw [UInt8.toNat_ofNat']
      omega
end Go.Proofs.Qxb6601484aDoor
