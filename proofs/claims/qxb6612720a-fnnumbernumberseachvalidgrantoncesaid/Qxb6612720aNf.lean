import Derived.Test.Qxb6612720aNe
import Derived.Deep.RegionHeld3
import Derived.Deep.AppendLies
namespace Go.Proofs.Qxb6612720a
open Go.RowKit
open Go.Maps (Keyed)
set_option linter.unusedVariables false

/-! ### The plain numbering -/
/-- One reference met: it is numbered if its set is valid and it is new. -/
def addRef (v : Rf → Bool) (L : List Rf) (r : Rf) : List Rf := if r ∈ L then L else if v r then L ++ [r] else L
def addAll (v : Rf → Bool) (R : Nat → Rf) : Nat → List Rf → List Rf
  | 0, L => L
  | n + 1, L => addRef v (addAll v R n L) (R n)
def wfR (r : Rf) : Prop := (Lit.int .i64 r.1).wf = true ∧ (Lit.int .i64 r.2).wf = true
def flatR : List Rf → List Value
  | [] => []
  | r :: l => .int .i64 r.1 :: .int .i64 r.2 :: flatR l
theorem flatR_len : ∀ l : List Rf, (flatR l).length = l.length * 2
  | [] => rfl
  | r :: l => by simp [flatR, flatR_len l]; omega
theorem flatR_app : ∀ (l m : List Rf), flatR (l ++ m) = flatR l ++ flatR m
  | [], _ => rfl
  | r :: l, m => by simp [flatR, flatR_app l m]
theorem flatR_at : ∀ (l : List Rf) (i : Nat) (h : i < l.length), (flatR l)[i * 2]? = some (.int .i64 (l[i]).1) ∧ (flatR l)[i * 2 + 1]? = some (.int .i64 (l[i]).2)
  | r :: l, 0, _ => by simp [flatR]
  | r :: l, i + 1, h => by
    have := flatR_at l i (by simpa using h)
    rw [show (i + 1) * 2 = i * 2 + 2 from by omega]
    simpa [flatR] using this

theorem kR_inj {r s : Rf} (hr : wfR r) (hs : wfR s) (h : kR r = kR s) : r = s := by
  have h1 := key118 r hr.1 hr.2
  have h2 := key118 s hs.1 hs.2
  rw [h] at h1
  have := law118.inj h1 h2
  simp at this
  exact Prod.ext this.1 this.2
theorem kR_key {r : Rf} (hr : wfR r) : WideAt.IsKeyLit (kR r) := law118.key (key118 r hr.1 hr.2)

/-- The map M gives every reference of L its place in L. -/
def NumMap (w : World) (M : Nat) (L : List Rf) : Prop :=
  (∀ r ∈ L, wfR r) ∧ ∃ D : DataW Unit, w.ownsMap Try.prog 118 (plainElem Try.prog 3) M L.length D ∧ Maps.size D = L.length ∧ (∀ r, wfR r → Maps.has D (kR r) = decide (r ∈ L)) ∧ ∀ r ∈ L, D.atKey (kR r) (.lit (.int .i64 0)) = .lit (.int .i64 (L.idxOf r))
theorem NumMap.lt {w : World} {M : Nat} {L : List Rf} (h : NumMap w M L) : M < w.heap.size := by
  obtain ⟨_, D, h, _⟩ := h; exact h.lt
theorem NumMap.same {w w' : World} {M : Nat} {L : List Rf} (h : NumMap w M L) (e : w'.heap[M]? = w.heap[M]?) : NumMap w' M L := by
  obtain ⟨hw, D, ⟨es, clock, hb, r⟩, r2⟩ := h
  exact ⟨hw, D, ⟨es, clock, e.trans hb, r⟩, r2⟩
theorem zero3 (w : World) : (zeroValue 3).run Try.prog w = .ok (.int .i64 0) w := by
  have h : Try.t3.zero = some (.int .i64 0) := by rfl
  simp [zeroValue, h]
/-- A look-up. -/
theorem NumMap.look {w : World} {M : Nat} {L : List Rf} (h : NumMap w M L) (r : Rf) (hr : wfR r) :
    ∃ c : Int, (Instr.lookup 120 (.map (some M)) (.agg #[.int .i64 r.1, .int .i64 r.2]) true).run Try.prog w = .ok (.tuple #[.int .i64 c, .bool (decide (r ∈ L))]) w ∧ (r ∈ L → c = L.idxOf r) := by
  obtain ⟨hw, D, ho, hsz, hhas, hat⟩ := h
  obtain ⟨v, ps, hrun, hv⟩ := ho.look_ok law118 Try.underlying120 (zero3 w) (plainElem_int Try.underlying3 (by decide)) (key118 r hr.1 hr.2)
  obtain ⟨c, rfl, hc, hwc⟩ := plainElem_int_inv Try.underlying3 hv
  rw [hhas r hr] at hrun
  refine ⟨c, hrun, fun hm => ?_⟩
  simp only [Prod.mk.injEq] at hc
  have := hc.1
  rw [hat r hm] at this
  simp at this
  exact this.symm
/-- A new number. -/
theorem NumMap.put {w : World} {M : Nat} {L : List Rf} (h : NumMap w M L) (r : Rf) (hr : wfR r) (hn : r ∉ L) (hl : L.length ≤ 17179869184) :
    ∃ w', (Instr.mapUpdate 120 (.map (some M)) (.agg #[.int .i64 r.1, .int .i64 r.2]) (.int .i64 L.length)).run Try.prog w = .ok () w' ∧ NumMap w' M (L ++ [r]) ∧ w.mapTurned w' M := by
  obtain ⟨hw, D, ho, hsz, hhas, hat⟩ := h
  have hwf : (Lit.int .i64 (L.length : Int)).wf = true := by
    have h0 : IntKind.i64.min = -9223372036854775808 := by rfl
    simp only [Lit.wf, h0]; simp; omega
  obtain ⟨w', hrun, ho', ht⟩ := ho.store law118 Try.underlying120 (by simp [maxLen]; omega) (key118 r hr.1 hr.2) (plainElem_int Try.underlying3 hwf)
  have hM := ho.isMap
  have hk := kR_key hr
  have hno : Maps.has D (kR r) = false := by rw [hhas r hr]; simpa using hn
  refine ⟨w', hrun, ⟨fun s hs => ?_, _, by simpa using ho', ?_, fun s hs => ?_, fun s hs => ?_⟩, ht⟩
  · rcases List.mem_append.1 hs with h1 | h1
    · exact hw s h1
    · simp at h1; subst h1; exact hr
  · rw [Maps.size_put (ho.tidy law118), hno]; simp [hsz]
  · by_cases e : s = r
    · subst e
      rw [Maps.has_put_same hM hk]; simp
    · rw [Maps.has_put_other (fun e' => e (kR_inj hs hr e')), hhas s hs]
      simp [e]
  · by_cases e : s = r
    · subst e
      rw [Maps.atKey_put_same hM hk, List.idxOf_append]; simp [hn]
    · have hsL : s ∈ L := by
        rcases List.mem_append.1 hs with h1 | h1
        · exact h1
        · simp at h1; exact absurd h1 e
      rw [Maps.atKey_put_other (fun e' => e (kR_inj (hw s hsL) hr e')), hat s hsL, List.idxOf_append]; simp [hsL]
theorem NumMap.len {w : World} {M : Nat} {L : List Rf} (h : NumMap w M L) (ty : TypeId) : (Builtin.len_ #[120] ty #[.map (some M)]).run Try.prog w = .ok (.int .i64 L.length) w := by
  obtain ⟨hw, D, ho, hsz, hhas, hat⟩ := h
  have := ho.len Try.underlying120 ty
  rwa [hsz] at this

/-! ### The closure's surroundings -/
structure Env where
  base : Nat
  V1 : Nat
  V2 : Nat
  V3 : Nat
  E : Nat
  M : Nat
  SB : Nat
  ns : Nat
  now : Int
  nb : Nat → Int
  na : Nat → Int
  q : Value
  pm : Value
structure Env.Ok (v : Env) : Prop where
  l1 : v.V1 < v.base
  l2 : v.V2 < v.base
  l3 : v.V3 < v.base
  le : v.E < v.base
  lm : v.M < v.base
  ls : v.SB < v.base
  e1 : v.V1 ≠ v.E
  e2 : v.V2 ≠ v.E
  e3 : v.V3 ≠ v.E
  em : v.M ≠ v.E
  es : v.SB ≠ v.E
  m1 : v.V1 ≠ v.M
  m2 : v.V2 ≠ v.M
  m3 : v.V3 ≠ v.M
  ms : v.SB ≠ v.M
  ns : v.ns ≤ 65536
/-- What was there is as it was, but for the evaluation, the map and the row of the numbered. -/
structure Kb (v : Env) (w w' : World) : Prop where
  os : w'.os = w.os
  tape : w'.tape = w.tape
  output : w'.output = w.output
  size : w.heap.size ≤ w'.heap.size
  block : ∀ k, k < w.heap.size → k ≠ v.E → k ≠ v.M → (k < v.base ∨ ∀ cs fz, w.heap[k]? ≠ some (.cells cs 118 fz)) → w'.heap[k]? = w.heap[k]?
theorem Kb.refl (v : Env) (w : World) : Kb v w w := ⟨rfl, rfl, rfl, Nat.le_refl _, fun _ _ _ _ _ => rfl⟩
theorem Kb.trans {v : Env} {a b c : World} (h : Kb v a b) (k : Kb v b c) : Kb v a c :=
  ⟨k.os.trans h.os, k.tape.trans h.tape, k.output.trans h.output, Nat.le_trans h.size k.size, fun i hi h1 h2 h3 => by
    have e := h.block i hi h1 h2 h3
    rw [← e]
    refine k.block i (Nat.lt_of_lt_of_le hi h.size) h1 h2 ?_
    rw [e]; exact h3⟩
structure NSt (v : Env) (w : World) (L : List Rf) (ao : Option Addr) (c : Nat) : Prop where
  v1 : w.heap[v.V1]? = some (.cells #[.pointer (some ⟨v.E, 0, none⟩)] 96 (0, 0))
  v2 : w.heap[v.V2]? = some (.cells #[.map (some v.M)] 120 (0, 0))
  v3 : w.heap[v.V3]? = some (.cells #[.int .i64 v.now] 2 (0, 0))
  e : w.heap[v.E]? = some (.cells #[v.q, .slice (some ⟨v.SB, 0, none⟩) v.ns v.ns, .slice ao L.length c, v.pm] 102 (0, 0))
  own : w.ownsRow v.base 118 2 (.slice ao L.length c) L.length (flatR L)
  map : NumMap w v.M L
  sets : ∀ i, i < v.ns → w.cell? ⟨v.SB, i * 5, none⟩ = some (.int .i64 (v.nb i)) ∧ w.cell? ⟨v.SB, i * 5 + 1, none⟩ = some (.int .i64 (v.na i))
  bs : v.base ≤ w.heap.size
/-- A world with the same blocks, but perhaps more. -/
theorem NSt.more {v : Env} (ok : v.Ok) {w w' : World} {L : List Rf} {ao : Option Addr} {c : Nat} (h : NSt v w L ao c) (hs : w.heap.size ≤ w'.heap.size) (hb : ∀ k, k < w.heap.size → w'.heap[k]? = w.heap[k]?) : NSt v w' L ao c := by
  have hl : ∀ k, k < v.base → w'.heap[k]? = w.heap[k]? := fun k hk => hb k (Nat.lt_of_lt_of_le hk h.bs)
  have hc : ∀ k o, k < v.base → w'.cell? ⟨k, o, none⟩ = w.cell? ⟨k, o, none⟩ := fun k o hk => by simp [World.cell?, hl k hk]
  refine ⟨(hl _ ok.l1).trans h.v1, (hl _ ok.l2).trans h.v2, (hl _ ok.l3).trans h.v3, (hl _ ok.le).trans h.e, ?_, h.map.same (hl _ ok.lm), fun i hi => ?_, Nat.le_trans h.bs hs⟩
  · obtain ⟨h1, h2⟩ := h.own
    refine ⟨h1, ?_⟩
    rcases h2 with h2 | ⟨g, cap, cur, hv, hbg, hg, r⟩
    · exact Or.inl h2
    · exact Or.inr ⟨g, cap, cur, hv, hbg, (hb g (lt_of_block hg)).trans hg, r⟩
  · obtain ⟨a, b⟩ := h.sets i hi
    exact ⟨(hc _ _ ok.ls).trans a, (hc _ _ ok.ls).trans b⟩
end Go.Proofs.Qxb6612720a
