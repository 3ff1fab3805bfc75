/-
  WALK of seat b6601484aD: escapeHTML, whole; ZZEscapeHTML.
-/
import Derived.Test.Qxb6601484aDoorEsc
namespace Go.Proofs.Qxb6601484aDoor
open Go.RowKit Go.Deep
open Plain

theorem St.form {w wr : World} {N tb : Nat} {v : Value} {acc t : List UInt8} {off : Nat} (h : St w wr N tb v acc t off) : ∃ g cap, v = .slice (some ⟨g, 0, none⟩) acc.length cap := by
  obtain ⟨g, hg, _, _⟩ := h.blk
  rcases h.own.2 with ⟨rfl, _⟩ | ⟨g', cap, cur, rfl, _⟩
  · cases hg
  · exact ⟨g', cap, rfl⟩

theorem wpList_str_at {ops : Array Oper} {rest : List Oper} {o : Oper} {a : Act} {Q : Exit → Act → World → Prop} (w : World) (hgd : o.guard = none) (sl x : Operand)
    (ho : o.op = .call { callee := .builtin .append, args := #[sl, x], argTypes := #[22, 9] })
    (base g n cap : Nat) (xs : List Value) (s : ByteArray) (i0 : TypeInfo) (hi : Tryd.prog.info? 5 = some i0) (hz0 : i0.zero = some (.int .u8 0)) (hz1 : i0.size = 1) (hz2 : i0.bytes = 1)
    (hs : a.eval sl = .slice (some ⟨g, 0, none⟩) n cap) (hown : w.ownsRow base 5 1 (.slice (some ⟨g, 0, none⟩) n cap) n xs) (hx : a.eval x = .string s) (hb : n + s.size ≤ 140737488355328) (hbase : base ≤ w.heap.size)
    (h : ∀ v' w', w'.ownsRow base 5 1 v' (n + s.size) (xs ++ Lib.strCells s) → w.grownBy w' (some g) → (v'.ownBlock = some g ∨ v'.ownBlock = some w.heap.size) → wpList Tryd.prog ops Q rest (a.put o.dst v') w') : wpList Tryd.prog ops Q (o :: rest) a w := by
  refine wpList_plain hgd fun K hK => ?_
  obtain ⟨v', w', hr, h1, h2, h3⟩ := append_str_at w base g n cap xs s o.type i0 hi hz0 hz1 hz2 hown hb hbase
  unfold Oper.wp execOp
  simp only [ho, resolve, invoke, builtin, Sem.run_bind, Sem.run_pure, Result.andThen_ok, List.map_toArray, List.map_cons, List.map_nil, hs, hx, hr]
  exact hK _ _ (h v' w' h1 h2 h3)

theorem row_own {w : World} {N : Nat} {l : List UInt8} (h : Row w N l) (hl : l.length ≤ 1048576) {f : Nat} (hf : f ≤ l.length) : w.ownsRow N 5 1 (.slice (some ⟨N, 0, none⟩) f l.length) f (bcells (l.take f)) := by
  refine ⟨by rw [bcells_len, List.length_take]; omega, .inr ⟨N, l.length, (bcells l).toArray, rfl, Nat.le_refl _, h, hf, by unfold maxLen; omega, by rw [List.size_toArray, bcells_len]; omega, ?_⟩⟩
  simp [bcells, List.map_take]

def three : ByteArray := ⟨#[60, 62, 38]⟩
theorem three_asc : Asc three := fun j h => by
  have h' : j < 3 := h
  have : j = 0 ∨ j = 1 ∨ j = 2 := by omega
  rcases this with rfl | rfl | rfl
  · exact (show (60 : UInt8).toNat < 128 from by decide)
  · exact (show (62 : UInt8).toNat < 128 from by decide)
  · exact (show (38 : UInt8).toNat < 128 from by decide)

/-- the search in any slice of bytes. -/
theorem ia_html (p : Option Addr) (c : Nat) (l : List UInt8) (w : World) (m : Int) (hg : Gl w m) (hb : Bts w p l) (hl : l.length ≤ 1048576) (hlc : l.length ≤ c) (hcb : c ≤ 9223372036854775807) (n : Nat) (hn : l.length = n) (r : Int) (hr : Lib.indexAny l html = r) :
    Calls Tryd.prog 12 #[.slice p n c, .string ⟨#[60, 62, 38]⟩] w fun e w' => e = .returned (.int .i64 r) ∧ Below w.heap.size w w' := by
  have := ia_any p c l three w m hb hl hlc hcb hg.T hg.m (by decide) (by decide) three_asc
  rw [hn] at this
  rw [← hr]
  exact this

def lenV : Value → Nat | .slice _ n _ => n | _ => 0

/-- bytes.Clone, by the shelf's contract. -/
theorem clone_lib (b o c : Nat) (t : List UInt8) (n : Nat) (hn : t.length = n) (w : World) (hl : t.length ≤ 1048576) (hc : ∀ i, i < t.length → w.cell? ⟨b, o + i, none⟩ = some (.int .u8 ((t.getD i 0).toNat : Int))) :
    Calls Tryd.prog 13 #[.slice (some ⟨b, o, none⟩) n c] w fun e w' => ∃ v', e = .returned v' ∧ w'.ownsRow w.heap.size 5 1 v' t.length (bcells t) ∧ v' ≠ .slice none 0 0 ∧ Below w.heap.size w w' := by
  have := Any.bytes_Clone_at Tryd.laysK4 ⟨b, o, none⟩ t.length c (t.map fun x => (x.toNat : Int)) w (by simp) (by omega) (fun i hi => by
    have e : (⟨b, o, none⟩ : Addr).add i = ⟨b, o + i, none⟩ := by simp [Addr.add]
    rw [e, hc i hi]
    simp [List.getD, hi])
  rw [hn] at this
  have e2 : (t.map fun x => (x.toNat : Int)).map (Value.int .u8) = bcells t := by simp [bcells, bv]
  rw [e2] at this
  rw [hn]
  exact this

theorem at_mid0 {t a u : List UInt8} {x : UInt8} (h : t = a ++ x :: u) : t.getD a.length 0 = x ∧ a.length < t.length ∧ t.drop (a.length + 1) = u ∧ t.length = a.length + 1 + u.length := by
  subst h
  refine ⟨by simp [List.getD], by simp, ?_, by simp; omega⟩
  rw [← List.drop_drop]
  simp

/-- the cells of the text's first bytes, as 'append' asks them. -/
theorem txt_news {w wr : World} {N tb : Nat} {v : Value} {acc t : List UInt8} {off : Nat} (h : St w wr N tb v acc t off) (n : Nat) (hn : n ≤ t.length) (a : List UInt8) (ha : t.take n = a) :
    ∀ j u, (bcells a)[j]? = some u → wr.cell? ((⟨tb, off, none⟩ : Addr).add j) = some u := by
  intro j u hj
  have hlt : j < a.length := by have := (List.getElem?_eq_some_iff.1 hj).1; rwa [bcells_len] at this
  have hla : a.length = n := by rw [← ha, List.length_take]; omega
  rw [bcells_at a j hlt] at hj
  cases hj
  have e : (⟨tb, off, none⟩ : Addr).add j = ⟨tb, off + j, none⟩ := by simp [Addr.add]
  rw [e, h.txt j (by omega), ← ha]
  simp [List.getD, show j < n by omega]

set_option maxRecDepth 100000 in
set_option maxHeartbeats 4000000 in
theorem esc_some (N : Nat) (l : List UInt8) (f : Nat) (w : World) (m : Int) (hg : Gl w m) (hrow : Row w N l) (hN : 2 < N) (hf : f < l.length) (hl : l.length ≤ 1048576) :
    Calls Tryd.prog 11 #[.slice (some ⟨N, 0, none⟩) l.length l.length, .int .i64 (f : Int)] w fun e w' => ∃ p c, e = .returned (.slice p (l.take f ++ esc (l.drop f)).length c) ∧ Bts w' p (l.take f ++ esc (l.drop f)) ∧ w.grownBy w' (some N) := by
  obtain ⟨i0, hi, hz0, hz1, hz2⟩ := info_parts Tryd.info5
  have hNw : N < w.heap.size := (Array.getElem?_eq_some_iff.1 hrow).1
  have hrc : ∀ i, i < l.length → w.cell? ⟨N, 0 + i, none⟩ = some (.int .u8 ((l.getD i 0).toNat : Int)) := fun i hi => by
    rw [Nat.zero_add, cell_of_row w N i _ 5 (0, 0) hrow]
    simpa using bcells_at l i hi
  have hdc : ∀ i, i < (l.drop f).length → w.cell? ⟨N, f + i, none⟩ = some (.int .u8 (((l.drop f).getD i 0).toNat : Int)) := fun i hi => by
    rw [List.length_drop] at hi
    have := hrc (f + i) (by omega)
    rw [Nat.zero_add] at this
    rw [this]
    simp [List.getD]
  have HG := hide hg
  have HRC := hide hrc
  have HDC := hide hdc
  have HRW := hide hrow
  clear hrc hdc hrow hg
  rcases idx_cases html (l.drop f) with ⟨hj, hall⟩ | ⟨a, x, t, hsplit, hj, hall, hx⟩
  · have C1 := hide (ia_html (some ⟨N, f, none⟩) (l.length - f) (l.drop f) w m (unhide HG) (fun _ => ⟨N, f, rfl, unhide HDC⟩) (by rw [List.length_drop]; omega) (by rw [List.length_drop]; omega) (by omega) (l.length - f) List.length_drop (-1) hj)
    have HF := hide (show l.take f ++ esc (l.drop f) = l by rw [esc_none _ hall, List.take_append_drop])
    clear hj hall
    go_enter Tryd.func11, Tryd.ntmps11
    go_wp2_with (go_at_call 12; refine (unhide C1).mono ?_; rintro e w1 ⟨rfl, hb1⟩)
    go_ret
    rw [unhide HF]
    exact ⟨_, _, rfl, fun _ => ⟨N, 0, rfl, fun i hi => (hb1.cell (p := ⟨N, 0 + i, none⟩) hNw).trans ((unhide HRC) i hi)⟩, ⟨hb1.os, hb1.tape, hb1.output, hb1.size, fun k hk _ => hb1.block k hk⟩⟩
  · have C1 := hide (ia_html (some ⟨N, f, none⟩) (l.length - f) (l.drop f) w m (unhide HG) (fun _ => ⟨N, f, rfl, unhide HDC⟩) (by rw [List.length_drop]; omega) (by rw [List.length_drop]; omega) (by omega) (l.length - f) List.length_drop (a.length : Int) hj)
    clear hj hall hx hsplit
    have HO : Hid (∀ w' : World, Row w' N l → w'.ownsRow N 5 1 (.slice (some ⟨N, 0, none⟩) f l.length) f (bcells (l.take f))) := fun w' h => row_own h hl (by omega)
    have hP0 : (l.take f).length = f := by rw [List.length_take]; omega
    have lenT : (l.drop f).length + f = l.length := by rw [List.length_drop]; omega
    generalize l.take f = pre at HO hP0 ⊢
    generalize l.drop f = t0 at HDC lenT ⊢
    have HLT : Hid (t0.length = l.length - f) := by show t0.length = l.length - f; omega
    have HLP := hide hP0
    clear hP0
    have hneg : decide ((a.length : Int) < 0) = false := decide_eq_false (by omega)
    go_enter Tryd.func11, Tryd.ntmps11
    go_wp2_with fail
    refine (unhide C1).mono ?_
    rintro e w1 ⟨rfl, hb1⟩
    have C2 := hide (clone_lib N f (l.length - f) t0 (l.length - f) (unhide HLT) w1 (by omega) (fun i hi => (hb1.cell (p := ⟨N, f + i, none⟩) hNw).trans ((unhide HDC) i hi)))
    have HB1 := hide hb1
    clear hb1 C1
    go_wp2_with fail
    refine (unhide C2).mono ?_
    rintro e w2 ⟨vt, rfl, hot, hnn, hb2⟩
    obtain ⟨tb, ct, htv, htb1, htb2, hct1, hct2⟩ : ∃ tb ct, vt = .slice (some ⟨tb, 0, none⟩) t0.length ct ∧ w1.heap.size ≤ tb ∧ tb < w2.heap.size ∧ t0.length ≤ ct ∧ ct ≤ 9223372036854775807 := by
      rcases hot.2 with ⟨h, _⟩ | ⟨g, cap, cur, h, hg1, hg2, hc1, hc2, _⟩
      · exact absurd h hnn
      · exact ⟨g, cap, h, hg1, (Array.getElem?_eq_some_iff.1 hg2).1, hc1, hc2⟩
    subst htv
    have hst0 : St w w2 N tb (.slice (some ⟨N, 0, none⟩) f l.length) pre t0 0 := by
      have hbw : Below w.heap.size w w2 := (unhide HB1).trans (hb2.mono (unhide HB1).size)
      refine ⟨?_, ⟨N, rfl, .inl rfl, by have := (unhide HB1).size; omega⟩, fun i hi => ?_, Nat.le_trans (unhide HB1).size htb1, htb2, ⟨hbw.os, hbw.tape, hbw.output, hbw.size, fun k hk _ => hbw.block k hk⟩, by have := hbw.size; omega⟩
      · rw [unhide HLP]
        exact (unhide HO) w2 (by unfold Row; rw [hbw.block N hNw]; exact unhide HRW)
      · have h := hot.cells (g := tb) rfl i _ (bcells_at t0 i hi)
        have e : (⟨tb, 0, none⟩ : Addr).add i = ⟨tb, 0 + i, none⟩ := by unfold Addr.add; split <;> simp_all
        rwa [e] at h
    have HST0 := hide hst0
    clear hot hnn hb2 hst0 C2
    have C3 := hide (ia_html (some ⟨tb, 0, none⟩) ct t0 w2 m ((unhide HG).grown (unhide HST0).gr hN) (fun _ => ⟨tb, 0, rfl, (unhide HST0).txt⟩) (by omega) hct1 hct2 t0.length rfl (Lib.indexAny t0 html) rfl)
    go_wp2_with fail
    refine (unhide C3).mono ?_
    rintro e w3 ⟨rfl, hb3⟩
    have HST := hide ((unhide HST0).below hb3)
    clear hb3 C3 HST0
    have HLB : Hid (pre.length + 6 * t0.length ≤ 8000000) := by show _ ≤ _; have := unhide HLP; omega
    have hT1 : t0.length ≤ 1048576 := by omega
    go_wp2_with fail
    go_loopw [0, 5, 6] (fun v tx kk wr => ∃ (acc t : List UInt8) (off ct : Nat), tx = .slice (some ⟨tb, off, none⟩) t.length ct ∧ t.length ≤ ct ∧ ct ≤ 9223372036854775807 ∧ kk = .int .i64 (Lib.indexAny t html) ∧ St w wr N tb v acc t off ∧ pre ++ esc t0 = acc ++ esc t ∧ acc.length + 6 * t.length ≤ 8000000 ∧ t.length ≤ 1048576) (fun _ tx _ _ => lenV tx)
    case atStart => exact ⟨pre, t0, 0, ct, rfl, hct1, hct2, rfl, unhide HST, rfl, unhide HLB, hT1⟩
    case round =>
      clear HST HLB hT1 hct1 hct2 htb1 htb2 HB1 HLT HLP HO HDC HRC HRW
      obtain ⟨acc, t, off, ct, rfl, htc, hct, rfl, hst, hR, hbnd, htl⟩ := hrel
      obtain ⟨g, cap, rfl⟩ := hst.form
      have HST := hide hst
      have HR := hide hR
      clear hst hR
      rcases idx_cases html t with ⟨hj, hall⟩ | ⟨a, x, u, hsplit, hj, hall, hx⟩
      · rw [hj]
        have HF := hide (esc_none t hall)
        clear hj hall
        go_wp2_with (at_builtin; refine wpList_append_own_at _ rfl (.tmp 51) (.tmp 52) 22 rfl N 5 i0 (.int .u8 0) 1 1 Tryd.underlying22 hi hz0 hz1 hz2 rfl (by decide) _ _ _ rfl (unhide HST).own ⟨tb, off, none⟩ t.length ct (bcells t) rfl ?q1 ?q2 ?q3 ?q4 ?q5 ?q6 ?_)
        case q1 => rw [bcells_len]; omega
        case q2 => exact txt_news (unhide HST) t.length (Nat.le_refl _) t (List.take_length)
        case q3 => exact bcells_one t
        case q4 => unfold maxLen; omega
        case q5 => omega
        case q6 => exact (unhide HST).nn
        intro v' w1 h1 h2 _ h5
        have hs2 := (unhide HST).append (nb := t) (by rw [List.length_append, bcells_app]; exact h1) h2 h5
        have HS2 := hide hs2
        clear hs2 h1 h2 h5
        go_wp2
        go_ret
        rw [unhide HR, unhide HF]
        obtain ⟨p, c, hv, hb⟩ := owned_bts (unhide HS2).own
        exact ⟨p, c, congrArg Ending.returned hv, hb, (unhide HS2).gr⟩
      · rw [hj]
        obtain ⟨hxa, hlt2, hrest, hlen⟩ := at_mid0 hsplit
        have HTA := hide (show t.take a.length = a by rw [hsplit]; simp)
        have HUD : Hid (∀ i, t.getD (a.length + 1 + i) 0 = u.getD i 0) := fun i => by rw [← hrest]; simp [List.getD]
        have HUL : Hid (u.length = t.length - (a.length + 1)) := by show _ = _; omega
        have HMID := hide (show esc t = a ++ (escB x ++ esc u) by rw [hsplit, esc_mid a u x hall])
        have HXX := hide (html_yes hx)
        have hle1 : a.length + 1 + u.length ≤ t.length := by omega
        have hle2 : t.length ≤ a.length + 1 + u.length := by omega
        have HXA := hide hxa
        clear hj hall hx hsplit hrest hlen hxa
        go_wp2_with (at_builtin; refine wpList_append_own_at _ rfl (.tmp 26) (.tmp 29) 22 rfl N 5 i0 (.int .u8 0) 1 1 Tryd.underlying22 hi hz0 hz1 hz2 rfl (by decide) _ _ _ rfl (unhide HST).own ⟨tb, off, none⟩ a.length ct (bcells a) rfl ?q1 ?q2 ?q3 ?q4 ?q5 ?q6 ?_)
        case q1 => rw [bcells_len]; omega
        case q2 => exact txt_news (unhide HST) a.length (by omega) a (unhide HTA)
        case q3 => exact bcells_one a
        case q4 => unfold maxLen; omega
        case q5 => omega
        case q6 => exact (unhide HST).nn
        intro v1 w1 h1 h2 _ h5
        have hs1 := (unhide HST).append (nb := a) (by rw [List.length_append, bcells_app]; exact h1) h2 h5
        obtain ⟨g1, cap1, rfl⟩ := hs1.form
        have hcx : w1.cell? ⟨tb, off + a.length, none⟩ = some (.int .u8 (x.toNat : Int)) := by rw [hs1.txt a.length hlt2, unhide HXA]
        have HST1 := hide hs1
        clear hs1 h1 h2 h5 HST
        rcases unhide HXX with hx1 | hx1 | hx1
        · have t60 : ((x.toNat : Int) == 60) = true := by rw [hx1]; rfl
          have hes : escB x = [92, 117, 48, 48, 51, 99] := by rw [hx1]; rfl
          have HES := hide hes
          clear hes hx1
          go_wp2_with (at_builtin; refine wpList_str_at _ rfl (.tmp 37) _ rfl N g1 (acc ++ a).length cap1 (bcells (acc ++ a)) ⟨#[92, 117, 48, 48, 51, 99]⟩ i0 hi hz0 hz1 hz2 rfl (unhide HST1).own rfl ?r1 ?r2 ?_)
          case r1 => rw [List.length_append]; show _ + 6 ≤ _; omega
          case r2 => exact (unhide HST1).nn
          intro v2 w2 h1 h2 h5
          have hs2 : St w w2 N tb v2 ((acc ++ a) ++ escB x) t off := (unhide HST1).append (by rw [unhide HES, bcells_app, List.length_append, List.length_append]; exact h1) h2 h5
          have HST2 := hide hs2
          clear hs2 h1 h2 h5 HST1 hcx
          have hgl := hide ((unhide HG).grown (unhide HST2).gr hN)
          have C4 : Hid (∀ off' c', (∀ i, i < u.length → w2.cell? ⟨tb, off' + i, none⟩ = some (.int .u8 ((u.getD i 0).toNat : Int))) → u.length ≤ c' → c' ≤ 9223372036854775807 → Calls Tryd.prog 12 #[.slice (some ⟨tb, off', none⟩) (t.length - (a.length + 1)) c', .string ⟨#[60, 62, 38]⟩] w2 fun e w' => e = .returned (.int .i64 (Lib.indexAny u html)) ∧ Below w2.heap.size w2 w') := fun off' c' hc h1 h2 => ia_html (some ⟨tb, off', none⟩) c' u w2 m (unhide hgl) (fun _ => ⟨tb, off', rfl, hc⟩) (by omega) h1 h2 _ (by omega) _ rfl
          have HUT : Hid (∀ i, i < u.length → w2.cell? ⟨tb, off + (a.length + 1) + i, none⟩ = some (.int .u8 ((u.getD i 0).toNat : Int))) := fun i hi => by
            rw [Nat.add_assoc, (unhide HST2).txt (a.length + 1 + i) (by omega), (unhide HUD) i]
          have hes6 := (escB_len x).2
          have HBD : Hid ((acc ++ a ++ escB x).length + 6 * u.length ≤ 8000000) := by
            show _ ≤ _
            rw [List.length_append, List.length_append]
            omega
          have HR3 : Hid (pre ++ esc t0 = acc ++ a ++ escB x ++ esc u) := by
            show _ = _
            rw [unhide HR, unhide HMID, ← List.append_assoc, ← List.append_assoc]
          clear hes6
          go_wp2_with fail
          · refine ((unhide C4) off 0 (fun i hi => by omega) (by omega) (by omega)).mono ?_
            rintro e w4 ⟨rfl, hb4⟩
            have HST4 := hide (((unhide HST2).text (u := u) (off' := off) (fun i hi => by omega)).below hb4)
            clear hb4
            go_wp2
            go_roundw
            case measure => simp [lenV]; omega
            case rel => first
              | exact ⟨_, u, _, _, by rw [unhide HUL], by omega, by omega, rfl, unhide HST4, unhide HR3, unhide HBD, by omega⟩
              | ((repeat apply Exists.intro); exact ⟨⟨_, u, _, _, by rw [unhide HUL], by omega, by omega, rfl, unhide HST4, unhide HR3, unhide HBD, by omega⟩, rfl⟩)
          · refine ((unhide C4) (off + (a.length + 1)) (ct - (a.length + 1)) (unhide HUT) (by omega) (by omega)).mono ?_
            rintro e w4 ⟨rfl, hb4⟩
            have HST4 := hide (((unhide HST2).text (unhide HUT)).below hb4)
            clear hb4
            go_wp2
            go_roundw
            case measure => simp [lenV]; omega
            case rel => first
              | exact ⟨_, u, _, _, by rw [unhide HUL], by omega, by omega, rfl, unhide HST4, unhide HR3, unhide HBD, by omega⟩
              | ((repeat apply Exists.intro); exact ⟨⟨_, u, _, _, by rw [unhide HUL], by omega, by omega, rfl, unhide HST4, unhide HR3, unhide HBD, by omega⟩, rfl⟩)
        · have t60 : ((x.toNat : Int) == 60) = false := by rw [hx1]; rfl
          have t62 : ((x.toNat : Int) == 62) = true := by rw [hx1]; rfl
          have hes : escB x = [92, 117, 48, 48, 51, 101] := by rw [hx1]; rfl
          have HES := hide hes
          clear hes hx1
          go_wp2_with (at_builtin; refine wpList_str_at _ rfl (.tmp 41) _ rfl N g1 (acc ++ a).length cap1 (bcells (acc ++ a)) ⟨#[92, 117, 48, 48, 51, 101]⟩ i0 hi hz0 hz1 hz2 rfl (unhide HST1).own rfl ?r1 ?r2 ?_)
          case r1 => rw [List.length_append]; show _ + 6 ≤ _; omega
          case r2 => exact (unhide HST1).nn
          intro v2 w2 h1 h2 h5
          have hs2 : St w w2 N tb v2 ((acc ++ a) ++ escB x) t off := (unhide HST1).append (by rw [unhide HES, bcells_app, List.length_append, List.length_append]; exact h1) h2 h5
          have HST2 := hide hs2
          clear hs2 h1 h2 h5 HST1 hcx
          have hgl := hide ((unhide HG).grown (unhide HST2).gr hN)
          have C4 : Hid (∀ off' c', (∀ i, i < u.length → w2.cell? ⟨tb, off' + i, none⟩ = some (.int .u8 ((u.getD i 0).toNat : Int))) → u.length ≤ c' → c' ≤ 9223372036854775807 → Calls Tryd.prog 12 #[.slice (some ⟨tb, off', none⟩) (t.length - (a.length + 1)) c', .string ⟨#[60, 62, 38]⟩] w2 fun e w' => e = .returned (.int .i64 (Lib.indexAny u html)) ∧ Below w2.heap.size w2 w') := fun off' c' hc h1 h2 => ia_html (some ⟨tb, off', none⟩) c' u w2 m (unhide hgl) (fun _ => ⟨tb, off', rfl, hc⟩) (by omega) h1 h2 _ (by omega) _ rfl
          have HUT : Hid (∀ i, i < u.length → w2.cell? ⟨tb, off + (a.length + 1) + i, none⟩ = some (.int .u8 ((u.getD i 0).toNat : Int))) := fun i hi => by
            rw [Nat.add_assoc, (unhide HST2).txt (a.length + 1 + i) (by omega), (unhide HUD) i]
          have hes6 := (escB_len x).2
          have HBD : Hid ((acc ++ a ++ escB x).length + 6 * u.length ≤ 8000000) := by
            show _ ≤ _
            rw [List.length_append, List.length_append]
            omega
          have HR3 : Hid (pre ++ esc t0 = acc ++ a ++ escB x ++ esc u) := by
            show _ = _
            rw [unhide HR, unhide HMID, ← List.append_assoc, ← List.append_assoc]
          clear hes6
          go_wp2_with fail
          · refine ((unhide C4) off 0 (fun i hi => by omega) (by omega) (by omega)).mono ?_
            rintro e w4 ⟨rfl, hb4⟩
            have HST4 := hide (((unhide HST2).text (u := u) (off' := off) (fun i hi => by omega)).below hb4)
            clear hb4
            go_wp2
            go_roundw
            case measure => simp [lenV]; omega
            case rel => first
              | exact ⟨_, u, _, _, by rw [unhide HUL], by omega, by omega, rfl, unhide HST4, unhide HR3, unhide HBD, by omega⟩
              | ((repeat apply Exists.intro); exact ⟨⟨_, u, _, _, by rw [unhide HUL], by omega, by omega, rfl, unhide HST4, unhide HR3, unhide HBD, by omega⟩, rfl⟩)
          · refine ((unhide C4) (off + (a.length + 1)) (ct - (a.length + 1)) (unhide HUT) (by omega) (by omega)).mono ?_
            rintro e w4 ⟨rfl, hb4⟩
            have HST4 := hide (((unhide HST2).text (unhide HUT)).below hb4)
            clear hb4
            go_wp2
            go_roundw
            case measure => simp [lenV]; omega
            case rel => first
              | exact ⟨_, u, _, _, by rw [unhide HUL], by omega, by omega, rfl, unhide HST4, unhide HR3, unhide HBD, by omega⟩
              | ((repeat apply Exists.intro); exact ⟨⟨_, u, _, _, by rw [unhide HUL], by omega, by omega, rfl, unhide HST4, unhide HR3, unhide HBD, by omega⟩, rfl⟩)
        · have t60 : ((x.toNat : Int) == 60) = false := by rw [hx1]; rfl
          have t62 : ((x.toNat : Int) == 62) = false := by rw [hx1]; rfl
          have t38 : ((x.toNat : Int) == 38) = true := by rw [hx1]; rfl
          have hes : escB x = [92, 117, 48, 48, 50, 54] := by rw [hx1]; rfl
          have HES := hide hes
          clear hes hx1
          go_wp2_with (at_builtin; refine wpList_str_at _ rfl (.tmp 45) _ rfl N g1 (acc ++ a).length cap1 (bcells (acc ++ a)) ⟨#[92, 117, 48, 48, 50, 54]⟩ i0 hi hz0 hz1 hz2 rfl (unhide HST1).own rfl ?r1 ?r2 ?_)
          case r1 => rw [List.length_append]; show _ + 6 ≤ _; omega
          case r2 => exact (unhide HST1).nn
          intro v2 w2 h1 h2 h5
          have hs2 : St w w2 N tb v2 ((acc ++ a) ++ escB x) t off := (unhide HST1).append (by rw [unhide HES, bcells_app, List.length_append, List.length_append]; exact h1) h2 h5
          have HST2 := hide hs2
          clear hs2 h1 h2 h5 HST1 hcx
          have hgl := hide ((unhide HG).grown (unhide HST2).gr hN)
          have C4 : Hid (∀ off' c', (∀ i, i < u.length → w2.cell? ⟨tb, off' + i, none⟩ = some (.int .u8 ((u.getD i 0).toNat : Int))) → u.length ≤ c' → c' ≤ 9223372036854775807 → Calls Tryd.prog 12 #[.slice (some ⟨tb, off', none⟩) (t.length - (a.length + 1)) c', .string ⟨#[60, 62, 38]⟩] w2 fun e w' => e = .returned (.int .i64 (Lib.indexAny u html)) ∧ Below w2.heap.size w2 w') := fun off' c' hc h1 h2 => ia_html (some ⟨tb, off', none⟩) c' u w2 m (unhide hgl) (fun _ => ⟨tb, off', rfl, hc⟩) (by omega) h1 h2 _ (by omega) _ rfl
          have HUT : Hid (∀ i, i < u.length → w2.cell? ⟨tb, off + (a.length + 1) + i, none⟩ = some (.int .u8 ((u.getD i 0).toNat : Int))) := fun i hi => by
            rw [Nat.add_assoc, (unhide HST2).txt (a.length + 1 + i) (by omega), (unhide HUD) i]
          have hes6 := (escB_len x).2
          have HBD : Hid ((acc ++ a ++ escB x).length + 6 * u.length ≤ 8000000) := by
            show _ ≤ _
            rw [List.length_append, List.length_append]
            omega
          have HR3 : Hid (pre ++ esc t0 = acc ++ a ++ escB x ++ esc u) := by
            show _ = _
            rw [unhide HR, unhide HMID, ← List.append_assoc, ← List.append_assoc]
          clear hes6
          go_wp2_with fail
          · refine ((unhide C4) off 0 (fun i hi => by omega) (by omega) (by omega)).mono ?_
            rintro e w4 ⟨rfl, hb4⟩
            have HST4 := hide (((unhide HST2).text (u := u) (off' := off) (fun i hi => by omega)).below hb4)
            clear hb4
            go_wp2
            go_roundw
            case measure => simp [lenV]; omega
            case rel => first
              | exact ⟨_, u, _, _, by rw [unhide HUL], by omega, by omega, rfl, unhide HST4, unhide HR3, unhide HBD, by omega⟩
              | ((repeat apply Exists.intro); exact ⟨⟨_, u, _, _, by rw [unhide HUL], by omega, by omega, rfl, unhide HST4, unhide HR3, unhide HBD, by omega⟩, rfl⟩)
          · refine ((unhide C4) (off + (a.length + 1)) (ct - (a.length + 1)) (unhide HUT) (by omega) (by omega)).mono ?_
            rintro e w4 ⟨rfl, hb4⟩
            have HST4 := hide (((unhide HST2).text (unhide HUT)).below hb4)
            clear hb4
            go_wp2
            go_roundw
            case measure => simp [lenV]; omega
            case rel => first
              | exact ⟨_, u, _, _, by rw [unhide HUL], by omega, by omega, rfl, unhide HST4, unhide HR3, unhide HBD, by omega⟩
              | ((repeat apply Exists.intro); exact ⟨⟨_, u, _, _, by rw [unhide HUL], by omega, by omega, rfl, unhide HST4, unhide HR3, unhide HBD, by omega⟩, rfl⟩)
end Go.Proofs.Qxb6601484aDoor
