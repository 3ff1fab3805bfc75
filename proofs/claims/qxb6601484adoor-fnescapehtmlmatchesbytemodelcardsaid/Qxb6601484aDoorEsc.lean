/-
  WALK of seat b6601484aD: escapeHTML.
-/
import Derived.Test.Qxb6601484aDoorModel
import Derived.Test.Qxb6601484aDoorIdx
import Derived.Lib.AppendStr
namespace Go.Proofs.Qxb6601484aDoor
open Go.RowKit Go.Deep
open Plain

/-- what the library's text reads: two tables that are laid, and one open variable. -/
structure Gl (w : World) (m : Int) : Prop where
  T : Lib.Utf8Tabs 1 2 w
  m : w.cell? ⟨0, 0, none⟩ = some (.int .i64 m)
theorem Gl.below {w w' : World} {m : Int} (h : Gl w m) (hb : Below w.heap.size w w') : Gl w' m :=
  ⟨tabs_below h.T hb, (hb.cell (p := ⟨0, 0, none⟩) (World.block_lt_of_cell? _ _ h.m)).trans h.m⟩
theorem grown_cell {w w' : World} {N : Nat} (h : w.grownBy w' (some N)) {a : Addr} {v : Value} (hc : w.cell? a = some v) (hn : a.block ≠ N) : w'.cell? a = some v :=
  h.cell hc (fun e => hn (Option.some.inj e))
theorem Gl.grown {w w' : World} {m : Int} {N : Nat} (h : Gl w m) (hb : w.grownBy w' (some N)) (hN : 2 < N) : Gl w' m :=
  ⟨⟨fun c hc => grown_cell hb (h.T.1 c hc) (by show 1 ≠ N; omega), fun i hi => ⟨grown_cell hb (h.T.2 i hi).1 (by show 2 ≠ N; omega), grown_cell hb (h.T.2 i hi).2 (by show 2 ≠ N; omega)⟩⟩, grown_cell hb h.m (by show 0 ≠ N; omega)⟩

/-- the state of the replacing loop: 'b' owns what has been gathered, in its first row N or in a row of the call's own; the text that is left lies in a row of the call's own that 'b' does not write. -/
structure St (w wr : World) (N tb : Nat) (v : Value) (acc t : List UInt8) (off : Nat) : Prop where
  own : wr.ownsRow N 5 1 v acc.length (bcells acc)
  blk : ∃ g, v.ownBlock = some g ∧ (g = N ∨ w.heap.size ≤ g) ∧ g ≠ tb
  txt : ∀ i, i < t.length → wr.cell? ⟨tb, off + i, none⟩ = some (.int .u8 ((t.getD i 0).toNat : Int))
  lo : w.heap.size ≤ tb
  hi : tb < wr.heap.size
  gr : w.grownBy wr (some N)
  nn : N ≤ wr.heap.size

theorem St.append {w wr w1 : World} {N tb : Nat} {v v' : Value} {acc t nb : List UInt8} {off : Nat} (h : St w wr N tb v acc t off)
    (h1 : w1.ownsRow N 5 1 v' (acc ++ nb).length (bcells (acc ++ nb))) (h2 : wr.grownBy w1 v.ownBlock) (h3 : v'.ownBlock = v.ownBlock ∨ v'.ownBlock = some wr.heap.size) : St w w1 N tb v' (acc ++ nb) t off := by
  obtain ⟨g, hg, hg1, hg2⟩ := h.blk
  refine ⟨h1, ?_, fun i hi => h2.cell (h.txt i hi) (by rw [hg]; intro e; exact hg2 (Option.some.inj e).symm), h.lo, Nat.lt_of_lt_of_le h.hi h2.size, ?_, Nat.le_trans h.nn h2.size⟩
  · rcases h3 with h3 | h3
    · exact ⟨g, h3.trans hg, hg1, hg2⟩
    · exact ⟨wr.heap.size, h3, .inr h.gr.size, fun e => by have := h.hi; omega⟩
  · refine ⟨h2.os.trans h.gr.os, h2.tape.trans h.gr.tape, h2.output.trans h.gr.output, Nat.le_trans h.gr.size h2.size, fun k hk hne => ?_⟩
    rw [h2.block k (Nat.lt_of_lt_of_le hk h.gr.size) (by
      rw [hg]
      intro e
      have := Option.some.inj e
      rcases hg1 with rfl | hg1
      · exact hne e
      · omega), h.gr.block k hk hne]
theorem St.below {w wr w1 : World} {N tb : Nat} {v : Value} {acc t : List UInt8} {off : Nat} (h : St w wr N tb v acc t off) (hb : Below wr.heap.size wr w1) : St w w1 N tb v acc t off := by
  have hk : wr.grownBy w1 none := ⟨hb.os, hb.tape, hb.output, hb.size, fun k hk _ => hb.block k hk⟩
  refine ⟨h.own.kept hk (by cases hv : v.ownBlock <;> simp), h.blk, fun i hi => hk.cell (h.txt i hi) (by simp), h.lo, Nat.lt_of_lt_of_le h.hi hb.size, ?_, Nat.le_trans h.nn hb.size⟩
  exact ⟨hb.os.trans h.gr.os, hb.tape.trans h.gr.tape, hb.output.trans h.gr.output, Nat.le_trans h.gr.size hb.size, fun k hk hne => (hb.block k (Nat.lt_of_lt_of_le hk h.gr.size)).trans (h.gr.block k hk hne)⟩
theorem St.text {w wr : World} {N tb : Nat} {v : Value} {acc t : List UInt8} {off : Nat} (h : St w wr N tb v acc t off) {u : List UInt8} {off' : Nat}
    (hu : ∀ i, i < u.length → wr.cell? ⟨tb, off' + i, none⟩ = some (.int .u8 ((u.getD i 0).toNat : Int))) : St w wr N tb v acc u off' := ⟨h.own, h.blk, hu, h.lo, h.hi, h.gr, h.nn⟩
/-- what is owned, read. -/
theorem owned_bts {w : World} {N : Nat} {v : Value} {l : List UInt8} (h : w.ownsRow N 5 1 v l.length (bcells l)) : ∃ p c, v = .slice p l.length c ∧ Bts w p l := by
  rcases h.2 with ⟨rfl, h0⟩ | ⟨g, cap, cur, rfl, _, _, _⟩
  · exact ⟨none, 0, by rw [h0], fun hp => by omega⟩
  · refine ⟨_, cap, rfl, fun _ => ⟨g, 0, rfl, fun i hi => ?_⟩⟩
    have := h.cells (g := g) rfl i _ (bcells_at l i hi)
    have e : (⟨g, 0, none⟩ : Addr).add i = ⟨g, 0 + i, none⟩ := by unfold Addr.add; split <;> simp_all
    rwa [e] at this

/-- append of a string's bytes onto an owned row that is not nil: where the new slice lies (by the same run's two arms). -/
theorem append_str_at (w : World) (base g n cap : Nat) (xs : List Value) (s : ByteArray) (ty : TypeId) (i0 : TypeInfo) (hi : Tryd.prog.info? 5 = some i0) (hz0 : i0.zero = some (.int .u8 0)) (hz1 : i0.size = 1) (hz2 : i0.bytes = 1)
    (hown : w.ownsRow base 5 1 (.slice (some ⟨g, 0, none⟩) n cap) n xs) (hb : n + s.size ≤ 140737488355328) (hbase : base ≤ w.heap.size) :
    ∃ v' w', (Builtin.append_ #[22, 9] ty #[.slice (some ⟨g, 0, none⟩) n cap, .string s]).run Tryd.prog w = .ok v' w' ∧ w'.ownsRow base 5 1 v' (n + s.size) (xs ++ Lib.strCells s) ∧ w.grownBy w' (some g) ∧ (v'.ownBlock = some g ∨ v'.ownBlock = some w.heap.size) := by
  obtain ⟨v', w', hr, h1, h2, _⟩ := Lib.run_append_own_string (P := Tryd.prog) w base 22 9 ty 5 i0 Tryd.underlying22 Tryd.underlying9 hi hz0 hz1 hz2 _ n xs hown s (by unfold maxLen; omega) hb hbase
  refine ⟨v', w', hr, h1, h2, ?_⟩
  rcases hown.2 with ⟨h0, _⟩ | ⟨g', cap', cur, hv, _, hg, _, _, hcs, _⟩
  · cases h0
  · cases hv
    by_cases hroom : n + s.size ≤ cap
    · have hr2 := Lib.run_append_room_string (P := Tryd.prog) w 22 9 ty 5 i0 Tryd.underlying22 Tryd.underlying9 hi hz1 g n cap cur hg s hroom (by omega)
      rw [hr2] at hr
      cases hr
      exact .inl rfl
    · have hr2 := Lib.run_append_grow_string (P := Tryd.prog) w 22 9 ty 5 i0 (.int .u8 0) Tryd.underlying22 Tryd.underlying9 hi hz0 ⟨g, 0, none⟩ n cap xs (by rw [hz1]; exact hown.1) (hown.cells (g := g) rfl) s (by omega) (by omega) (by rw [hz2]; exact growslice_fits (by omega) (by omega))
      rw [hr2] at hr
      cases hr
      exact .inr rfl
end Go.Proofs.Qxb6601484aDoor
