import Derived.Test.Qxb6612468aRows
import Derived.Test.Qxb6612468aWh
import Derived.ProofKit
import Derived.OpenShut
import Derived.ShutString
import Derived.ChangeOld
import Derived.Deep.Strs
namespace Go.Proofs.Qxb6612468a
open Go.ChangeShapes Go.WideShapes Go.ChangeAt Go.RowKit
open Go.ChangeMaps (open_string shut_string)
open Go.Deep
set_option linter.unusedVariables false

theorem own : ownKnob Try.prog.godebug = none := by kernel_rfl
theorem laidOut : laidOutB Try.prog = true := by kernel_rfl
theorem cells44 : Try.prog.cellsOf 44 = 4 := by kernel_rfl
theorem cells9 : Try.prog.cellsOf 9 = 1 := by kernel_rfl

theorem spot_none {w : World} {a : Addr} {v : Value} (h : w.cell? a = some v) : a = ⟨a.block, a.off, none⟩ := by
  obtain ⟨b, o, sp⟩ := a
  cases sp with
  | none => rfl
  | some q =>
    unfold World.cell? at h
    split at h <;> simp at h

section
variable {H : Type} {enc : TypeId × Value → H} {w : World} {base : Nat} {spare : Nat → Bool} {held : Bool}

/-- A []string that came in. -/
theorem open_names {fuel : Nat} {a : Option Addr} {n c : Nat} {x : DataW H × List MemPlace} (h : DataW.trod enc Try.prog w base spare held fuel 23 (Value.slice a n c).cells.toList = some x) : ∃ Ru, n ≤ maxLen ∧ Strs w a n Ru := by
  rcases open_strs Try.underlying23 Try.underlying9 cells9 h with ⟨hcs, _⟩ | ⟨ad, l, cp, mm, Sx, hcs, _, hl, hm, hmm, _, hc⟩
  · simp [Value.cells] at hcs
    obtain ⟨rfl, rfl, rfl⟩ := hcs
    exact ⟨fun _ => em, by unfold maxLen; omega, Or.inl rfl⟩
  · simp [Value.cells] at hcs
    obtain ⟨rfl, rfl, rfl⟩ := hcs
    have hlm : n ≤ mm := by rw [hmm]; split <;> omega
    refine ⟨Sx, by omega, ?_⟩
    by_cases h0 : n = 0
    · exact Or.inl h0
    · have hs := spot_none (hc 0 (by omega)).1
      have e0 : ad.add 0 = ad := by simp [Addr.add]
      rw [e0] at hs
      refine Or.inr ⟨ad.block, ad.off, by rw [← hs], fun j hj => ?_⟩
      have := (hc j (by omega)).1
      rw [hs, Addr.add_lit] at this
      exact this

theorem open_ref {fuel : Nat} {cs : List Value} {x : DataW H × List MemPlace} (h : DataW.trod enc Try.prog w base spare held fuel 44 cs = some x) : ∃ s0 s1 s2 s3 : ByteArray, cs = [.string s0, .string s1, .string s2, .string s3] := by
  obtain ⟨xs, k, _, _, hlen, hxl, hf⟩ := DataW.trod_struct Try.underlying44 h
  rw [cells44] at hlen
  match cs, hlen with
  | [v0, v1, v2, v3], _ =>
    match xs, hxl with
    | [y0, y1, y2, y3], _ =>
      have f0 := hf 0 _ rfl
      have f1 := hf 1 _ rfl
      have f2 := hf 2 _ rfl
      have f3 := hf 3 _ rfl
      simp [cells9] at f0 f1 f2 f3
      obtain ⟨s0, e0, _⟩ := DataW.trod_string Try.underlying9 f0
      obtain ⟨s1, e1, _⟩ := DataW.trod_string Try.underlying9 f1
      obtain ⟨s2, e2, _⟩ := DataW.trod_string Try.underlying9 f2
      obtain ⟨s3, e3, _⟩ := DataW.trod_string Try.underlying9 f3
      simp at e0 e1 e2 e3
      exact ⟨s0, s1, s2, s3, by rw [e0, e1, e2, e3]⟩

/-- A []AttachedRef that came in. -/
theorem open_refs {fuel : Nat} {a : Option Addr} {n c : Nat} {x : DataW H × List MemPlace} (h : DataW.trod enc Try.prog w base spare held fuel 22 (Value.slice a n c).cells.toList = some x) : ∃ F, n ≤ maxLen ∧ Refs w a n F := by
  rcases open_slice Try.underlying22 h with ⟨hcs, _⟩ | ⟨ad, l, cp, mm, nn, D, Pl, hcs, _, hl, hm, hmm, _, hc⟩
  · simp [Value.cells] at hcs
    obtain ⟨rfl, rfl, rfl⟩ := hcs
    exact ⟨fun _ _ => em, by unfold maxLen; omega, Or.inl rfl⟩
  · simp [Value.cells] at hcs
    obtain ⟨rfl, rfl, rfl⟩ := hcs
    have hlm : n ≤ mm := by rw [hmm]; split <;> omega
    have each : ∀ i, i < n → ∃ G : Nat → ByteArray, ∀ q, q < 4 → w.cell? (ad.add (i * 4 + q)) = some (.string (G q)) := by
      intro i hi
      obtain ⟨cs', h1, h2⟩ := hc i (by omega)
      rw [cells44] at h1
      obtain ⟨_, hlen, hcell⟩ := World.cells?_some h1
      obtain ⟨s0, s1, s2, s3, rfl⟩ := open_ref h2
      refine ⟨fun q => match q with | 0 => s0 | 1 => s1 | 2 => s2 | _ => s3, fun q hq => ?_⟩
      have := hcell q (by omega)
      rw [add_add] at this
      rw [this]
      rcases (show q = 0 ∨ q = 1 ∨ q = 2 ∨ q = 3 from by omega) with rfl | rfl | rfl | rfl <;> rfl
    obtain ⟨F, hF⟩ := choose_lt (α := Nat → ByteArray) each
    refine ⟨F, by omega, ?_⟩
    by_cases h0 : n = 0
    · exact Or.inl h0
    · have hs := spot_none (hF 0 (by omega) 0 (by omega))
      have e0 : ad.add (0 * 4 + 0) = ad := by simp [Addr.add]
      rw [e0] at hs
      refine Or.inr ⟨ad.block, ad.off, by rw [← hs], fun i q hi hq => ?_⟩
      have := hF i hi q hq
      rw [hs, Addr.add_lit, ← Nat.add_assoc] at this
      exact this
end

set_option maxRecDepth 100000 in
theorem liftedWhole (os : Os) (started : os.Started) (H : Type) (enc : TypeId × Value → H) :
    ReturnsInHanded {} Try.checked os 4 .any (Rows.fnAttachedRulesWholeRouteRefCoversEveryRuleSpec.pre6 enc Try.prog Try.f4 Rows.fnAttachedRulesWholeRouteRefCoversEveryRuleRow.domain false) (Rows.fnAttachedRulesWholeRouteRefCoversEveryRuleSpec.post enc Try.prog Try.f4 false true false false) := by
  refine returnsInHanded_of_change (C := Try.checked) own started (by kernel_rfl) Try.func4
    (ChangeSpec.witness6 (enc := enc) (C := Try.checked) false ⟨#[], #[.slice none 0 0, .string ByteArray.empty, .slice none 0 0], []⟩ 8 (by kernel_rfl) (by kernel_rfl) (by kernel_rfl) (by kernel_rfl)) ?_
  intro W base args ds gs before hval0 hW hcnd _
  have hval : ∀ (j : Nat) t v, Try.f4.params[j]? = some t → args[j]? = some v → Value.okWide Try.prog W .any base t v := hval0
  have hW' := hW
  obtain ⟨p, q, hA0, hV, rfl, hfz, hnd⟩ := hW
  have hA : DataW.TrodAll enc Try.prog W 0 (fun _ => true) true Try.f4.params.toList args.toList ds p := hA0
  rw [Try.params4] at hA hval
  obtain ⟨v0, vs0, d0, ds0, p0, q0, hargs, rfl, rfl, h0, r0⟩ := trodAll_cons hA
  obtain ⟨v1, vs1, d1, ds1, p1, q1, rfl, rfl, rfl, h1, r1⟩ := trodAll_cons r0
  obtain ⟨v2, vs2, d2, ds2, p2, q2, rfl, rfl, rfl, h2, r2⟩ := trodAll_cons r1
  obtain ⟨rfl, rfl, rfl⟩ := trodAll_nil r2
  obtain rfl : args = #[v0, v1, v2] := by cases args; simp_all
  obtain ⟨rfl, rfl⟩ := trodVars_none hV
  obtain ⟨a0, n, c, rfl⟩ := okWide_slice Try.underlying22 (hval 0 22 v0 rfl rfl)
  obtain ⟨a2, m, mc, rfl⟩ := okWide_slice Try.underlying23 (hval 2 23 v2 rfl rfl)
  have k0 := h0
  have k2 := h2
  have lt0 : ∀ x ∈ p0, x.block < W.heap.size := by obtain ⟨m, hm⟩ := k0; exact DataW.trod_lt m _ _ _ hm
  have lt2 : ∀ x ∈ p2, x.block < W.heap.size := by obtain ⟨m, hm⟩ := k2; exact DataW.trod_lt m _ _ _ hm
  obtain ⟨F, hn, hR⟩ : ∃ F, n ≤ maxLen ∧ Refs W a0 n F := by obtain ⟨f, hf⟩ := h0; exact open_refs hf
  obtain ⟨Ru, hm, hS⟩ : ∃ Ru, m ≤ maxLen ∧ Strs W a2 m Ru := by obtain ⟨f, hf⟩ := h2; exact open_names hf
  obtain ⟨a1, rfl, rfl, rfl, w1⟩ := open_string Try.underlying9 (hval 1 9 v1 rfl rfl) h1
  clear hA0 hval0
  refine (whole_walk a0 a2 n c m mc F a1 Ru W hn hm hR hS).mono fun e W' ⟨he, bel⟩ => ?_
  subst he
  exact ⟨_, rfl, _, _, _, [], _, [], hW', trodAll_mk1 (shut_bool Try.underlying4 _), (trodAll_cons_mk (Below.trod laidOut (by kernel_rfl) (of_decide_eq_true (by kernel_rfl)) k0 bel lt0) (trodAll_cons_mk (shut_string Try.underlying9 w1) (trodAll_cons_mk (Below.trod laidOut (by kernel_rfl) (of_decide_eq_true (by kernel_rfl)) k2 bel lt2) trodAll_mk0))), rfl, bel.frame _, fun h => by cases h⟩

/-- THE STATEMENT. -/
theorem wholeRoute_proved : Rows.FnAttachedRulesWholeRouteRefCoversEveryRuleSaid :=
  OpenClaim.holds_of_wide 4 Try.f4 rfl rfl rfl rfl rfl rfl rfl ⟨rfl, rfl, rfl, rfl, rfl⟩ rfl rfl rfl rfl rfl (by kernel_rfl) Try.func4 (by kernel_rfl)
    (of_decide_eq_true (by kernel_rfl)) (by unfold Func.isWrapper; first | (rw [if_pos (by decide +kernel)]; kernel_rfl) | (rw [if_neg (by decide +kernel)]; exact ⟨rfl, rfl⟩))
    (fun os started H enc _ => liftedWhole os started H enc)
end Go.Proofs.Qxb6612468a
