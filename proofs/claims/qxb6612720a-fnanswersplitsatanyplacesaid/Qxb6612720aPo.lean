import Derived.Test.Qxb6612720aRows
import Derived.Test.Qxb6612720aPl
import Derived.ProofKit
import Derived.OpenShut
import Derived.ShutString
import Derived.ChangeOld
import Derived.Deep.Strs
import Derived.Deep.Grids
namespace Go.Proofs.Qxb6612720a
open Go.ChangeShapes Go.WideShapes Go.ChangeAt Go.RowKit
open Go.ChangeMaps (open_string shut_string)
open Go.Deep
set_option linter.unusedVariables false

theorem own : ownKnob Try.prog.godebug = none := by kernel_rfl
theorem laidOut : laidOutB Try.prog = true := by kernel_rfl
theorem cells76 : Try.prog.cellsOf 76 = 8 := by kernel_rfl
theorem cells9 : Try.prog.cellsOf 9 = 1 := by kernel_rfl
theorem cells23 : Try.prog.cellsOf 23 = 1 := by kernel_rfl
theorem cells4 : Try.prog.cellsOf 4 = 1 := by kernel_rfl

theorem spot_none {w : World} {a : Addr} {v : Value} (h : w.cell? a = some v) : a = ⟨a.block, a.off, none⟩ := by
  obtain ⟨b, o, sp⟩ := a
  cases sp with
  | none => rfl
  | some q =>
    unfold World.cell? at h
    split at h <;> simp at h

section
variable {H : Type} {enc : TypeId × Value → H} {w : World} {base : Nat} {spare : Nat → Bool} {held : Bool}

/-- A []string that came in. -/
theorem open_list {fuel : Nat} {cs : List Value} {x : DataW H × List MemPlace} (h : DataW.trod enc Try.prog w base spare held fuel 23 cs = some x) : ∃ l : Ls, cs = [.slice l.a l.n l.c] ∧ Lst w l := by
  rcases open_strs Try.underlying23 Try.underlying9 cells9 h with ⟨hcs, _⟩ | ⟨ad, l, cp, mm, Sx, hcs, _, hl, hm, hmm, _, hc⟩
  · exact ⟨⟨none, 0, 0, fun _ => em⟩, hcs, by show 0 ≤ maxLen; unfold maxLen; omega, Or.inl rfl⟩
  · have hlm : l ≤ mm := by rw [hmm]; split <;> omega
    refine ⟨⟨some ad, l, cp, Sx⟩, hcs, by show l ≤ maxLen; omega, ?_⟩
    show Strs w (some ad) l Sx
    by_cases h0 : l = 0
    · exact Or.inl h0
    · have hs := spot_none (hc 0 (by omega)).1
      have e0 : ad.add 0 = ad := by simp [Addr.add]
      rw [e0] at hs
      refine Or.inr ⟨ad.block, ad.off, by rw [← hs], fun j hj => ?_⟩
      have := (hc j (by omega)).1
      rw [hs, Addr.add_lit] at this
      exact this
set_option maxRecDepth 100000 in
theorem open_pol {fuel : Nat} {cs : List Value} {x : DataW H × List MemPlace} (h : DataW.trod enc Try.prog w base spare held fuel 76 cs = some x) : ∃ p : Pl, cs = [.string p.T, .slice p.i.a p.i.n p.i.c, .slice p.j.a p.j.n p.j.c, .slice p.k.a p.k.n p.k.c, .bool p.e, .slice p.s.a p.s.n p.s.c, .slice p.d.a p.d.n p.d.c, .slice p.y.a p.y.n p.y.c] ∧ Lst w p.i ∧ Lst w p.j ∧ Lst w p.k ∧ Lst w p.s ∧ Lst w p.d ∧ Lst w p.y := by
  obtain ⟨xs, k, _, _, hlen, hxl, hf⟩ := DataW.trod_struct Try.underlying76 h
  rw [cells76] at hlen
  match cs, hlen with
  | [v0, v1, v2, v3, v4, v5, v6, v7], _ =>
    match xs, hxl with
    | [y0, y1, y2, y3, y4, y5, y6, y7], _ =>
      have f0 := hf 0 _ rfl
      have f1 := hf 1 _ rfl
      have f2 := hf 2 _ rfl
      have f3 := hf 3 _ rfl
      have f4 := hf 4 _ rfl
      have f5 := hf 5 _ rfl
      have f6 := hf 6 _ rfl
      have f7 := hf 7 _ rfl
      simp [cells9, cells23, cells4] at f0 f1 f2 f3 f4 f5 f6 f7
      obtain ⟨s0, e0, _⟩ := DataW.trod_string Try.underlying9 f0
      obtain ⟨l1, e1, g1⟩ := open_list f1
      obtain ⟨l2, e2, g2⟩ := open_list f2
      obtain ⟨l3, e3, g3⟩ := open_list f3
      obtain ⟨s4, e4, _⟩ := DataW.trod_bool Try.underlying4 f4
      obtain ⟨l5, e5, g5⟩ := open_list f5
      obtain ⟨l6, e6, g6⟩ := open_list f6
      obtain ⟨l7, e7, g7⟩ := open_list f7
      simp at e0 e1 e2 e3 e4 e5 e6 e7
      exact ⟨⟨s0, l1, l2, l3, s4, l5, l6, l7⟩, by rw [e0, e1, e2, e3, e4, e5, e6, e7], g1, g2, g3, g5, g6, g7⟩
instance : Inhabited Pl := ⟨⟨em, ⟨none, 0, 0, fun _ => em⟩, ⟨none, 0, 0, fun _ => em⟩, ⟨none, 0, 0, fun _ => em⟩, false, ⟨none, 0, 0, fun _ => em⟩, ⟨none, 0, 0, fun _ => em⟩, ⟨none, 0, 0, fun _ => em⟩⟩⟩

set_option maxRecDepth 100000 in
/-- A []Pol that came in. -/
theorem open_pols {fuel : Nat} {a : Option Addr} {n c : Nat} {x : DataW H × List MemPlace} (h : DataW.trod enc Try.prog w base spare held fuel 22 (Value.slice a n c).cells.toList = some x) : ∃ P, n ≤ maxLen ∧ Pols w a n P := by
  rcases open_slice Try.underlying22 h with ⟨hcs, _⟩ | ⟨ad, l, cp, mm, nn, D, Pp, hcs, _, hl, hm, hmm, _, hc⟩
  · simp [Value.cells] at hcs
    obtain ⟨rfl, rfl, rfl⟩ := hcs
    exact ⟨fun _ => default, by unfold maxLen; omega, Or.inl rfl⟩
  · simp [Value.cells] at hcs
    obtain ⟨rfl, rfl, rfl⟩ := hcs
    have hlm : n ≤ mm := by rw [hmm]; split <;> omega
    have each : ∀ i, i < n → ∃ p : Pl, (∀ q v, [Value.string p.T, .slice p.i.a p.i.n p.i.c, .slice p.j.a p.j.n p.j.c, .slice p.k.a p.k.n p.k.c, .bool p.e, .slice p.s.a p.s.n p.s.c, .slice p.d.a p.d.n p.d.c, .slice p.y.a p.y.n p.y.c][q]? = some v → w.cell? (ad.add (i * 8 + q)) = some v) ∧ Lst w p.i ∧ Lst w p.j ∧ Lst w p.k ∧ Lst w p.s ∧ Lst w p.d ∧ Lst w p.y := by
      intro i hi
      obtain ⟨cs', h1, h2⟩ := hc i (by omega)
      rw [cells76] at h1
      obtain ⟨_, hlen, hcell⟩ := World.cells?_some h1
      obtain ⟨p, rfl, hp⟩ := open_pol h2
      refine ⟨p, fun q v hv => ?_, hp⟩
      have hq : q < 8 := (List.getElem?_eq_some_iff.1 hv).1
      have := hcell q (by omega)
      rw [add_add] at this
      rw [this]
      exact hv
    obtain ⟨F, hF⟩ := choose_lt (α := Pl) each
    refine ⟨F, by omega, ?_⟩
    by_cases h0 : n = 0
    · exact Or.inl h0
    · have hs := spot_none ((hF 0 (by omega)).1 0 _ rfl)
      have e0 : ad.add (0 * 8 + 0) = ad := by simp [Addr.add]
      rw [e0] at hs
      refine Or.inr ⟨ad.block, ad.off, by rw [← hs], fun i hi => ?_⟩
      obtain ⟨g, l1, l2, l3, l5, l6, l7⟩ := hF i hi
      have g' : ∀ q v, [Value.string (F i).T, .slice (F i).i.a (F i).i.n (F i).i.c, .slice (F i).j.a (F i).j.n (F i).j.c, .slice (F i).k.a (F i).k.n (F i).k.c, .bool (F i).e, .slice (F i).s.a (F i).s.n (F i).s.c, .slice (F i).d.a (F i).d.n (F i).d.c, .slice (F i).y.a (F i).y.n (F i).y.c][q]? = some v → w.cell? ⟨ad.block, ad.off + i * 8 + q, none⟩ = some v := fun q v hv => by
        have := g q v hv
        rw [hs, Addr.add_lit, ← Nat.add_assoc] at this
        exact this
      exact ⟨g' 0 _ rfl, g' 1 _ rfl, g' 2 _ rfl, g' 3 _ rfl, g' 4 _ rfl, g' 5 _ rfl, g' 6 _ rfl, g' 7 _ rfl, l1, l2, l3, l5, l6, l7⟩
/-- A []bool that came in. -/
theorem open_flags {fuel : Nat} {a : Option Addr} {n c : Nat} {x : DataW H × List MemPlace} (h : DataW.trod enc Try.prog w base spare held fuel 24 (Value.slice a n c).cells.toList = some x) : ∃ B, n ≤ maxLen ∧ Bls w a n B ∧ (a = none → n = 0 ∧ c = 0) := by
  rcases open_slice1 Try.underlying24 cells4 h with ⟨hcs, _⟩ | ⟨ad, l, cp, mm, nn, V, D, Pp, hcs, _, hl, hm, hmm, _, hc⟩
  · simp [Value.cells] at hcs
    obtain ⟨rfl, rfl, rfl⟩ := hcs
    exact ⟨fun _ => false, by unfold maxLen; omega, Or.inl rfl, fun _ => ⟨rfl, rfl⟩⟩
  · simp [Value.cells] at hcs
    obtain ⟨rfl, rfl, rfl⟩ := hcs
    have hlm : n ≤ mm := by rw [hmm]; split <;> omega
    have each : ∀ i, i < n → ∃ b : Bool, w.cell? (ad.add i) = some (.bool b) := by
      intro i hi
      obtain ⟨h1, h2⟩ := hc i (by omega)
      obtain ⟨b, e, _⟩ := DataW.trod_bool Try.underlying4 h2
      simp at e
      exact ⟨b, by rw [h1, e]⟩
    obtain ⟨B, hB⟩ := choose_lt (α := Bool) each
    refine ⟨B, by omega, ?_, fun e => by cases e⟩
    by_cases h0 : n = 0
    · exact Or.inl h0
    · have hs := spot_none (hB 0 (by omega))
      have e0 : ad.add 0 = ad := by simp [Addr.add]
      rw [e0] at hs
      refine Or.inr ⟨ad.block, ad.off, by rw [← hs], fun i hi => ?_⟩
      have := hB i hi
      rw [hs, Addr.add_lit] at this
      exact this
end

set_option maxRecDepth 100000 in
theorem liftedSplits (os : Os) (started : os.Started) (H : Type) (enc : TypeId × Value → H) :
    ReturnsInHanded {} Try.checked os 3 .any (Rows.fnAnswerSplitsAtAnyPlaceSpec.pre6 enc Try.prog Try.f3 Rows.fnAnswerSplitsAtAnyPlaceRow.domain false) (Rows.fnAnswerSplitsAtAnyPlaceSpec.post enc Try.prog Try.f3 false true false false) := by
  refine returnsInHanded_of_change (C := Try.checked) own started (by kernel_rfl) Try.func3
    (ChangeSpec.witness6 (enc := enc) (C := Try.checked) false ⟨#[], #[.slice none 0 0, .int .i64 0, .slice none 0 0, .slice none 0 0, .int .i64 0], []⟩ 8 (by kernel_rfl) (by kernel_rfl) (by kernel_rfl) (by kernel_rfl)) ?_
  intro W base args ds gs before hval0 hW hcnd _
  have hval : ∀ (j : Nat) t v, Try.f3.params[j]? = some t → args[j]? = some v → Value.okWide Try.prog W .any base t v := hval0
  have hW' := hW
  obtain ⟨p, q, hA0, hV, rfl, hfz, hnd⟩ := hW
  have hA : DataW.TrodAll enc Try.prog W 0 (fun _ => true) true Try.f3.params.toList args.toList ds p := hA0
  rw [Try.params3] at hA hval
  obtain ⟨v0, vs0, d0, ds0, p0, q0, hargs, rfl, rfl, h0, r0⟩ := trodAll_cons hA
  obtain ⟨v1, vs1, d1, ds1, p1, q1, rfl, rfl, rfl, h1, r1⟩ := trodAll_cons r0
  obtain ⟨v2, vs2, d2, ds2, p2, q2, rfl, rfl, rfl, h2, r2⟩ := trodAll_cons r1
  obtain ⟨v3, vs3, d3, ds3, p3, q3, rfl, rfl, rfl, h3, r3⟩ := trodAll_cons r2
  obtain ⟨v4, vs4, d4, ds4, p4, q4, rfl, rfl, rfl, h4, r4⟩ := trodAll_cons r3
  obtain ⟨rfl, rfl, rfl⟩ := trodAll_nil r4
  obtain rfl : args = #[v0, v1, v2, v3, v4] := by cases args; simp_all
  obtain ⟨rfl, rfl⟩ := trodVars_none hV
  obtain ⟨a0, n, c, rfl⟩ := okWide_slice Try.underlying22 (hval 0 22 v0 rfl rfl)
  obtain ⟨a2, sn, sc, rfl⟩ := okWide_slice Try.underlying23 (hval 2 23 v2 rfl rfl)
  obtain ⟨a3, m, mc, rfl⟩ := okWide_slice Try.underlying24 (hval 3 24 v3 rfl rfl)
  have k0 := h0
  have k2 := h2
  have k3 := h3
  have lt0 : ∀ x ∈ p0, x.block < W.heap.size := by obtain ⟨m, hm⟩ := k0; exact DataW.trod_lt m _ _ _ hm
  have lt2 : ∀ x ∈ p2, x.block < W.heap.size := by obtain ⟨m, hm⟩ := k2; exact DataW.trod_lt m _ _ _ hm
  have lt3 : ∀ x ∈ p3, x.block < W.heap.size := by obtain ⟨m, hm⟩ := k3; exact DataW.trod_lt m _ _ _ hm
  obtain ⟨P, hn, hP⟩ : ∃ P, n ≤ maxLen ∧ Pols W a0 n P := by obtain ⟨f, hf⟩ := h0; exact open_pols hf
  obtain ⟨Ru, hsn, hS⟩ : ∃ Ru, sn ≤ maxLen ∧ Strs W a2 sn Ru := by
    obtain ⟨f, hf⟩ := h2
    obtain ⟨l, e, hl⟩ := open_list hf
    simp [Value.cells] at e
    obtain ⟨rfl, rfl, rfl⟩ := e
    exact ⟨l.s, hl.le, hl.st⟩
  obtain ⟨B, hm, hB, hq⟩ : ∃ B, m ≤ maxLen ∧ Bls W a3 m B ∧ (a3 = none → m = 0 ∧ mc = 0) := by obtain ⟨f, hf⟩ := h3; exact open_flags hf
  obtain ⟨x1, rfl, rfl, rfl, w1⟩ := open_int Try.underlying3 (hval 1 3 v1 rfl rfl) h1
  obtain ⟨x4, rfl, rfl, rfl, w4⟩ := open_int Try.underlying3 (hval 4 3 v4 rfl rfl) h4
  clear hA0 hval0
  refine (splits_walk a0 a2 a3 n c sn sc m mc x1 x4 P Ru B W hn hsn hm hP hS hB hq).mono fun e W' ⟨he, bel⟩ => ?_
  subst he
  exact ⟨_, rfl, _, _, _, [], _, [], hW', trodAll_mk1 (shut_bool Try.underlying4 _), (trodAll_cons_mk (Below.trod laidOut (by kernel_rfl) (of_decide_eq_true (by kernel_rfl)) k0 bel lt0) (trodAll_cons_mk (shut_int Try.underlying3 w1) (trodAll_cons_mk (Below.trod laidOut (by kernel_rfl) (of_decide_eq_true (by kernel_rfl)) k2 bel lt2) (trodAll_cons_mk (Below.trod laidOut (by kernel_rfl) (of_decide_eq_true (by kernel_rfl)) k3 bel lt3) (trodAll_cons_mk (shut_int Try.underlying3 w4) trodAll_mk0))))), rfl, bel.frame _, fun h => by cases h⟩

/-- THE STATEMENT. -/
theorem answerSplits_proved : Rows.FnAnswerSplitsAtAnyPlaceSaid :=
  OpenClaim.holds_of_wide 3 Try.f3 rfl rfl rfl rfl rfl rfl rfl ⟨rfl, rfl, rfl, rfl, rfl⟩ rfl rfl rfl rfl rfl (by kernel_rfl) Try.func3 (by kernel_rfl)
    (of_decide_eq_true (by kernel_rfl)) (by unfold Func.isWrapper; first | (rw [if_pos (by decide +kernel)]; kernel_rfl) | (rw [if_neg (by decide +kernel)]; exact ⟨rfl, rfl⟩))
    (fun os started H enc _ => liftedSplits os started H enc)
end Go.Proofs.Qxb6612720a
