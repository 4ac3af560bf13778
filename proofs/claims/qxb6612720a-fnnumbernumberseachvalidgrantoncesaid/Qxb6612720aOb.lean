import Derived.Test.Qxb6612720aRows
import Derived.Test.Qxb6612720aOa
import Derived.ProofKit
import Derived.OpenShut
import Derived.ShutString
import Derived.ChangeOld
import Derived.Deep.Strs
import Derived.Deep.Grids
namespace Go.Proofs.Qxb6612720a
open Go.ChangeShapes Go.WideShapes Go.ChangeAt Go.RowKit
open Go.ChangeMaps (open_string shut_string)
open Go.Deep
set_option linter.unusedVariables false

theorem ownN : ownKnob Try.prog.godebug = none := by kernel_rfl
theorem cells60 : Try.prog.cellsOf 60 = 2 := by kernel_rfl
theorem cells63 : Try.prog.cellsOf 63 = 2 := by kernel_rfl
theorem cells65 : Try.prog.cellsOf 65 = 3 := by kernel_rfl
theorem cells68 : Try.prog.cellsOf 68 = 2 := by kernel_rfl
theorem cells2 : Try.prog.cellsOf 2 = 1 := by kernel_rfl
theorem cells55 : Try.prog.cellsOf 55 = 1 := by kernel_rfl

theorem spot_none {w : World} {a : Addr} {v : Value} (h : w.cell? a = some v) : a = ⟨a.block, a.off, none⟩ := by
  obtain ⟨b, o, sp⟩ := a
  cases sp with
  | none => rfl
  | some q =>
    unfold World.cell? at h
    split at h <;> simp at h

section
variable {H : Type} {enc : TypeId × Value → H} {w : World} {base : Nat} {spare : Nat → Bool} {held : Bool}

set_option maxRecDepth 100000 in
/-- A slice that came in, element by element. -/
theorem open_rows {t e : TypeId} {K : Nat} (ht : Try.prog.underlying t = some (.slice e)) (hK : Try.prog.cellsOf e = K) (hK0 : 0 < K) {fuel : Nat} {cs : List Value} {x : DataW H × List MemPlace} (h : DataW.trod enc Try.prog w base spare held fuel t cs = some x) :
    ∃ a n c, cs = [.slice a n c] ∧ n ≤ maxLen ∧ (n = 0 ∨ ∃ b off, a = some ⟨b, off, none⟩ ∧ ∀ i, i < n → ∃ (cs' : List Value) (m : Nat) (y : DataW H × List MemPlace), DataW.trod enc Try.prog w base spare held m e cs' = some y ∧ cs'.length = K ∧ ∀ (q : Nat) v, cs'[q]? = some v → w.cell? ⟨b, off + i * K + q, none⟩ = some v) := by
  rcases open_slice ht h with ⟨hcs, _⟩ | ⟨ad, l, cp, mm, nn, D, Pp, hcs, _, hl, hm, hmm, _, hc⟩
  · exact ⟨none, 0, 0, hcs, by unfold maxLen; omega, Or.inl rfl⟩
  · have hlm : l ≤ mm := by rw [hmm]; split <;> omega
    refine ⟨some ad, l, cp, hcs, by omega, ?_⟩
    by_cases h0 : l = 0
    · exact Or.inl h0
    · have each : ∀ i, i < l → ∃ (cs' : List Value) (y : DataW H × List MemPlace), DataW.trod enc Try.prog w base spare held nn e cs' = some y ∧ cs'.length = K ∧ ∀ (q : Nat) v, cs'[q]? = some v → w.cell? (ad.add (i * K + q)) = some v := by
        intro i hi
        obtain ⟨cs', h1, h2⟩ := hc i (by omega)
        rw [hK] at h1
        obtain ⟨_, hlen, hcell⟩ := World.cells?_some h1
        refine ⟨cs', _, h2, hlen, fun q v hv => ?_⟩
        have hq : q < K := by have := (List.getElem?_eq_some_iff.1 hv).1; omega
        have := hcell q (by omega)
        rw [add_add] at this
        rw [this]
        exact hv
      obtain ⟨cs0, y0, _, hl0, hc0⟩ := each 0 (by omega)
      obtain ⟨v, hv⟩ : ∃ v, cs0[0]? = some v := ⟨cs0[0], by simp [hl0, hK0]⟩
      have hs := spot_none (hc0 0 v hv)
      have e0 : ad.add (0 * K + 0) = ad := by simp [Addr.add]
      rw [e0] at hs
      refine Or.inr ⟨ad.block, ad.off, by rw [← hs], fun i hi => ?_⟩
      obtain ⟨cs', y, g1, g2, g3⟩ := each i hi
      refine ⟨cs', nn, y, g1, g2, fun q v hv => ?_⟩
      have := g3 q v hv
      rw [hs, Addr.add_lit, ← Nat.add_assoc] at this
      exact this
set_option maxRecDepth 100000 in
theorem open_pair {t e1 e2 : TypeId} {nm1 nm2 tg1 tg2 pk1 pk2 : String} {em1 em2 : Bool} {bo1 bo2 : Nat} (ht : Try.prog.underlying t = some (.struct #[⟨nm1, e1, 0, em1, tg1, pk1, bo1⟩, ⟨nm2, e2, 1, em2, tg2, pk2, bo2⟩])) (hc : Try.prog.cellsOf t = 2) (h1 : Try.prog.cellsOf e1 = 1) (h2 : Try.prog.cellsOf e2 = 1) {fuel : Nat} {cs : List Value} {x : DataW H × List MemPlace} (h : DataW.trod enc Try.prog w base spare held fuel t cs = some x) :
    ∃ v0 v1 m y0 y1, cs = [v0, v1] ∧ DataW.trod enc Try.prog w base spare held m e1 [v0] = some y0 ∧ DataW.trod enc Try.prog w base spare held m e2 [v1] = some y1 := by
  obtain ⟨xs, k, _, _, hlen, hxl, hf⟩ := DataW.trod_struct ht h
  rw [hc] at hlen
  match cs, hlen with
  | [v0, v1], _ =>
    match xs, hxl with
    | [y0, y1], _ =>
      have f0 := hf 0 _ rfl
      have f1 := hf 1 _ rfl
      simp [h1, h2] at f0 f1
      exact ⟨v0, v1, k, y0, y1, rfl, f0, f1⟩
set_option maxRecDepth 100000 in
/-- A []Ref that came in. -/
theorem open_refs {fuel : Nat} {cs : List Value} {x : DataW H × List MemPlace} (h : DataW.trod enc Try.prog w base spare held fuel 55 cs = some x) : ∃ a n c R, cs = [.slice a n c] ∧ n ≤ maxLen ∧ Rfs w a n R ∧ ∀ i, i < n → wfR (R i) := by
  obtain ⟨a, n, c, hcs, hn, h0 | ⟨b, off, ha, hc⟩⟩ := open_rows Try.underlying55 cells60 (by decide) h
  · exact ⟨a, n, c, fun _ => (0, 0), hcs, hn, Or.inl h0, fun i hi => by omega⟩
  · have each : ∀ i, i < n → ∃ r : Rf, wfR r ∧ w.cell? ⟨b, off + i * 2, none⟩ = some (.int .i64 r.1) ∧ w.cell? ⟨b, off + i * 2 + 1, none⟩ = some (.int .i64 r.2) := fun i hi => by
      obtain ⟨cs', m, y, g1, g2, g3⟩ := hc i hi
      obtain ⟨v0, v1, m', y0, y1, rfl, t0, t1⟩ := open_pair Try.underlying60 cells60 cells3' cells3' g1
      obtain ⟨z0, e0, _, w0⟩ := DataW.trod_int Try.underlying3 t0
      obtain ⟨z1, e1, _, w1⟩ := DataW.trod_int Try.underlying3 t1
      simp at e0 e1
      subst e0 e1
      exact ⟨(z0, z1), ⟨w0, w1⟩, g3 0 _ rfl, g3 1 _ rfl⟩
    obtain ⟨R, hR⟩ := choose_lt (α := Rf) each
    exact ⟨a, n, c, R, hcs, hn, Or.inr ⟨b, off, ha, fun i hi => (hR i hi).2⟩, fun i hi => (hR i hi).1⟩
set_option maxRecDepth 100000 in
/-- A []Window that came in. -/
theorem open_wins {fuel : Nat} {a : Option Addr} {n c : Nat} {x : DataW H × List MemPlace} (h : DataW.trod enc Try.prog w base spare held fuel 50 (Value.slice a n c).cells.toList = some x) : ∃ nb na, n ≤ maxLen ∧ Wins w a n nb na := by
  obtain ⟨a', n', c', hcs, hn, hh⟩ := open_rows Try.underlying50 cells63 (by decide) h
  simp [Value.cells] at hcs
  obtain ⟨rfl, rfl, rfl⟩ := hcs
  rcases hh with h0 | ⟨b, off, ha, hc⟩
  · exact ⟨fun _ => 0, fun _ => 0, hn, Or.inl h0⟩
  · have each : ∀ i, i < n → ∃ r : Rf, w.cell? ⟨b, off + i * 2, none⟩ = some (.int .i64 r.1) ∧ w.cell? ⟨b, off + i * 2 + 1, none⟩ = some (.int .i64 r.2) := fun i hi => by
      obtain ⟨cs', m, y, g1, g2, g3⟩ := hc i hi
      obtain ⟨v0, v1, m', y0, y1, rfl, t0, t1⟩ := open_pair Try.underlying63 cells63 cells2 cells2 g1
      obtain ⟨z0, e0, _, w0⟩ := DataW.trod_int Try.underlying2 t0
      obtain ⟨z1, e1, _, w1⟩ := DataW.trod_int Try.underlying2 t1
      simp at e0 e1
      subst e0 e1
      exact ⟨(z0, z1), g3 0 _ rfl, g3 1 _ rfl⟩
    obtain ⟨R, hR⟩ := choose_lt (α := Rf) each
    exact ⟨fun i => (R i).1, fun i => (R i).2, hn, Or.inr ⟨b, off, ha, hR⟩⟩
instance : Inhabited En := ⟨⟨⟨#[]⟩, ⟨#[]⟩, none, 0, 0, fun _ => (0, 0)⟩⟩
set_option maxRecDepth 100000 in
theorem open_lis {fuel : Nat} {a : Option Addr} {n c : Nat} {x : DataW H × List MemPlace} (h : DataW.trod enc Try.prog w base spare held fuel 51 (Value.slice a n c).cells.toList = some x) : ∃ P, n ≤ maxLen ∧ Lis w a n P ∧ ∀ i, i < n → ∀ j, j < (P i).n → wfR ((P i).R j) := by
  obtain ⟨a', n', c', hcs, hn, hh⟩ := open_rows Try.underlying51 cells65 (by decide) h
  simp [Value.cells] at hcs
  obtain ⟨rfl, rfl, rfl⟩ := hcs
  rcases hh with h0 | ⟨b, off, ha, hc⟩
  · exact ⟨fun _ => default, hn, Or.inl h0, fun i hi => by omega⟩
  · have each : ∀ i, i < n → ∃ p : En, LAt w b (off + i * 3) p ∧ ∀ j, j < p.n → wfR (p.R j) := fun i hi => by
      obtain ⟨cs', m, y, g1, g2, g3⟩ := hc i hi
      obtain ⟨xs, k, _, _, hlen, hxl, hf⟩ := DataW.trod_struct Try.underlying65 g1
      rw [cells65] at hlen
      match cs', hlen with
      | [v0, v1, v2], _ =>
        match xs, hxl with
        | [y0, y1, y2], _ =>
          have f0 := hf 0 _ rfl
          have f1 := hf 1 _ rfl
          have f2 := hf 2 _ rfl
          simp [cells9', cells55] at f0 f1 f2
          obtain ⟨s0, e0, _⟩ := DataW.trod_string Try.underlying9 f0
          obtain ⟨s1, e1, _⟩ := DataW.trod_string Try.underlying9 f1
          obtain ⟨ra, rn, rc, R, e2, hrn, hR, hwf⟩ := open_refs f2
          simp at e0 e1 e2
          subst e0 e1 e2
          exact ⟨⟨s0, s1, ra, rn, rc, R⟩, ⟨g3 0 _ rfl, g3 1 _ rfl, g3 2 _ rfl, hR, hrn⟩, hwf⟩
    obtain ⟨P, hP⟩ := choose_lt (α := En) each
    exact ⟨P, hn, Or.inr ⟨b, off, ha, fun i hi => (hP i hi).1⟩, fun i hi => (hP i hi).2⟩
set_option maxRecDepth 100000 in
theorem open_uns {fuel : Nat} {a : Option Addr} {n c : Nat} {x : DataW H × List MemPlace} (h : DataW.trod enc Try.prog w base spare held fuel 52 (Value.slice a n c).cells.toList = some x) : ∃ P, n ≤ maxLen ∧ Uns w a n P ∧ ∀ i, i < n → ∀ j, j < (P i).n → wfR ((P i).R j) := by
  obtain ⟨a', n', c', hcs, hn, hh⟩ := open_rows Try.underlying52 cells68 (by decide) h
  simp [Value.cells] at hcs
  obtain ⟨rfl, rfl, rfl⟩ := hcs
  rcases hh with h0 | ⟨b, off, ha, hc⟩
  · exact ⟨fun _ => default, hn, Or.inl h0, fun i hi => by omega⟩
  · have each : ∀ i, i < n → ∃ p : En, UAt w b (off + i * 2) p ∧ ∀ j, j < p.n → wfR (p.R j) := fun i hi => by
      obtain ⟨cs', m, y, g1, g2, g3⟩ := hc i hi
      obtain ⟨v0, v1, m', y0, y1, rfl, t0, t1⟩ := open_pair Try.underlying68 cells68 cells9' cells55 g1
      obtain ⟨s0, e0, _⟩ := DataW.trod_string Try.underlying9 t0
      obtain ⟨ra, rn, rc, R, e2, hrn, hR, hwf⟩ := open_refs t1
      simp at e0 e2
      subst e0 e2
      exact ⟨⟨s0, ⟨#[]⟩, ra, rn, rc, R⟩, ⟨g3 0 _ rfl, g3 1 _ rfl, hR, hrn⟩, hwf⟩
    obtain ⟨P, hP⟩ := choose_lt (α := En) each
    exact ⟨P, hn, Or.inr ⟨b, off, ha, fun i hi => (hP i hi).1⟩, fun i hi => (hP i hi).2⟩
end

set_option maxRecDepth 100000 in
theorem liftedNumber (os : Os) (started : os.Started) (H : Type) (enc : TypeId × Value → H) :
    ReturnsInHanded {} Try.checked os 4 .any (Rows.fnNumberNumbersEachValidGrantOnceSpec.pre6 enc Try.prog Try.f4 Rows.fnNumberNumbersEachValidGrantOnceRow.domain false) (Rows.fnNumberNumbersEachValidGrantOnceSpec.post enc Try.prog Try.f4 false true false false) := by
  refine returnsInHanded_of_change (C := Try.checked) ownN started (by kernel_rfl) Try.func4
    (ChangeSpec.witness6 (enc := enc) (C := Try.checked) false ⟨#[], #[.slice none 0 0, .slice none 0 0, .slice none 0 0, .int .i64 0], []⟩ 8 (by kernel_rfl) (by kernel_rfl) (by kernel_rfl) (by kernel_rfl)) ?_
  intro W base args ds gs before hval0 hW hcnd _
  have hval : ∀ (j : Nat) t v, Try.f4.params[j]? = some t → args[j]? = some v → Value.okWide Try.prog W .any base t v := hval0
  have hW' := hW
  obtain ⟨p, q, hA0, hV, rfl, hfz, hnd⟩ := hW
  have hA : DataW.TrodAll enc Try.prog W 0 (fun _ => true) true Try.f4.params.toList args.toList ds p := hA0
  rw [Try.params4] at hA hval
  obtain ⟨v0, vs0, d0, ds0, p0, q0, hargs, rfl, rfl, h0, r0⟩ := trodAll_cons hA
  obtain ⟨v1, vs1, d1, ds1, p1, q1, rfl, rfl, rfl, h1, r1⟩ := trodAll_cons r0
  obtain ⟨v2, vs2, d2, ds2, p2, q2, rfl, rfl, rfl, h2, r2⟩ := trodAll_cons r1
  obtain ⟨v3, vs3, d3, ds3, p3, q3, rfl, rfl, rfl, h3, r3⟩ := trodAll_cons r2
  obtain ⟨rfl, rfl, rfl⟩ := trodAll_nil r3
  obtain rfl : args = #[v0, v1, v2, v3] := by cases args; simp_all
  obtain ⟨rfl, rfl⟩ := trodVars_none hV
  obtain ⟨a0, ns, sc, rfl⟩ := okWide_slice Try.underlying50 (hval 0 50 v0 rfl rfl)
  obtain ⟨a1, nl, lc, rfl⟩ := okWide_slice Try.underlying51 (hval 1 51 v1 rfl rfl)
  obtain ⟨a2, nu, uc, rfl⟩ := okWide_slice Try.underlying52 (hval 2 52 v2 rfl rfl)
  have k0 := h0
  have k1 := h1
  have k2 := h2
  have lt0 : ∀ x ∈ p0, x.block < W.heap.size := by obtain ⟨m, hm⟩ := k0; exact DataW.trod_lt m _ _ _ hm
  have lt1 : ∀ x ∈ p1, x.block < W.heap.size := by obtain ⟨m, hm⟩ := k1; exact DataW.trod_lt m _ _ _ hm
  have lt2 : ∀ x ∈ p2, x.block < W.heap.size := by obtain ⟨m, hm⟩ := k2; exact DataW.trod_lt m _ _ _ hm
  obtain ⟨nb, na, hn, hWi⟩ : ∃ nb na, ns ≤ maxLen ∧ Wins W a0 ns nb na := by obtain ⟨f, hf⟩ := h0; exact open_wins hf
  obtain ⟨P, hl, hP, f1⟩ : ∃ P, nl ≤ maxLen ∧ Lis W a1 nl P ∧ ∀ i, i < nl → ∀ j, j < (P i).n → wfR ((P i).R j) := by obtain ⟨f, hf⟩ := h1; exact open_lis hf
  obtain ⟨U, hu, hU, f2⟩ : ∃ U, nu ≤ maxLen ∧ Uns W a2 nu U ∧ ∀ i, i < nu → ∀ j, j < (U i).n → wfR ((U i).R j) := by obtain ⟨f, hf⟩ := h2; exact open_uns hf
  obtain ⟨x3, rfl, rfl, rfl, w3⟩ := open_int Try.underlying2 (hval 3 2 v3 rfl rfl) h3
  clear hA0 hval0
  refine (law_walk a0 a1 a2 ns sc nl lc nu uc x3 nb na P U W hn hl hu hWi hP hU f1 f2).mono fun e W' ⟨he, bel⟩ => ?_
  subst he
  exact ⟨_, rfl, _, _, _, [], _, [], hW', trodAll_mk1 (shut_bool Try.underlying4 _), (trodAll_cons_mk (Below.trod laidOutN (by kernel_rfl) (of_decide_eq_true (by kernel_rfl)) k0 bel lt0) (trodAll_cons_mk (Below.trod laidOutN (by kernel_rfl) (of_decide_eq_true (by kernel_rfl)) k1 bel lt1) (trodAll_cons_mk (Below.trod laidOutN (by kernel_rfl) (of_decide_eq_true (by kernel_rfl)) k2 bel lt2) (trodAll_cons_mk (shut_int Try.underlying2 w3) trodAll_mk0)))), rfl, bel.frame _, fun h => by cases h⟩

/-- THE STATEMENT. -/
theorem number_proved : Rows.FnNumberNumbersEachValidGrantOnceSaid :=
  OpenClaim.holds_of_wide 4 Try.f4 rfl rfl rfl rfl rfl rfl rfl ⟨rfl, rfl, rfl, rfl, rfl⟩ rfl rfl rfl rfl rfl (by kernel_rfl) Try.func4 (by kernel_rfl)
    (of_decide_eq_true (by kernel_rfl)) (by unfold Func.isWrapper; first | (rw [if_pos (by decide +kernel)]; kernel_rfl) | (rw [if_neg (by decide +kernel)]; exact ⟨rfl, rfl⟩))
    (fun os started H enc _ => liftedNumber os started H enc)
end Go.Proofs.Qxb6612720a
