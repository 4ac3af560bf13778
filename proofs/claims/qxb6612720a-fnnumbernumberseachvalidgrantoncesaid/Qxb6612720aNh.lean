import Derived.Test.Qxb6612720aNf
namespace Go.Proofs.Qxb6612720a
open Go.RowKit
open Go.Maps (Keyed)
set_option linter.unusedVariables false

set_option maxRecDepth 100000 in
theorem inv112 {key : Value} {kl : Lit} (h : keyOf Try.prog 112 key = some kl) : ∃ s t : ByteArray, key = .agg #[.string s, .string t] := by
  obtain ⟨d, hd⟩ := size_pos
  unfold keyOf at h
  rw [Try.underlying112, hd] at h
  cases key <;> simp [Value.formed, Try.underlying112, kt112, cells112] at h
  rename_i cs
  obtain ⟨hsz, ls, hk, _⟩ := h
  obtain ⟨x, y, rfl⟩ : ∃ x y, cs = #[x, y] := by
    rcases cs with ⟨l⟩
    match l, hsz with
    | [x, y], _ => exact ⟨x, y, rfl⟩
  simp [Program.keyLits, Try.underlying112, Try.underlying9, cells9', Value.cells] at hk
  cases x <;> simp at hk
  cases y <;> first | exact ⟨_, _, rfl⟩ | (exfalso; obtain ⟨_, hk⟩ := hk; split at hk <;> simp at hk)
theorem inv9 {key : Value} {kl : Lit} (h : keyOf Try.prog 9 key = some kl) : ∃ s : ByteArray, key = .string s := by
  cases key <;> simp [keyOf, Try.underlying9, mapKey] at h
  exact ⟨_, rfl⟩

/-- Elements are held as they are. -/
def RV (v : Value) : Option (DataW Value × List MemPlace) := some (.held v, [])

/-! ### The numbers of a list -/
def nums (L : List Rf) (R : Nat → Rf) : Nat → List Nat
  | 0 => []
  | j + 1 => if R j ∈ L then nums L R j ++ [L.idxOf (R j)] else nums L R j
theorem mem_nums (L : List Rf) (R : Nat → Rf) (g : Nat) : ∀ m, g ∈ nums L R m ↔ ∃ j, j < m ∧ R j ∈ L ∧ L.idxOf (R j) = g
  | 0 => by simp [nums]
  | m + 1 => by
    unfold nums
    by_cases e : R m ∈ L
    · rw [if_pos e, List.mem_append, mem_nums L R g m]
      constructor
      · rintro (⟨j, h, r⟩ | h)
        · exact ⟨j, by omega, r⟩
        · simp at h; exact ⟨m, by omega, e, h.symm⟩
      · rintro ⟨j, h, r1, r2⟩
        by_cases ej : j = m
        · subst ej; right; simp [r2]
        · exact Or.inl ⟨j, by omega, r1, r2⟩
    · rw [if_neg e, mem_nums L R g m]
      constructor
      · rintro ⟨j, h, r⟩; exact ⟨j, by omega, r⟩
      · rintro ⟨j, h, r1, r2⟩
        by_cases ej : j = m
        · subst ej; exact absurd r1 e
        · exact ⟨j, by omega, r1, r2⟩
theorem nums_bit (L : List Rf) (hnd : L.Nodup) (R : Nat → Rf) (m g : Nat) : bitOf (word (nums L R m)) g = (decide (g < L.length) && inR R m (L.getD g (0, 0))) := by
  rw [bitOf_word, Bool.eq_iff_iff]
  simp only [decide_eq_true_eq, Bool.and_eq_true]
  rw [mem_nums, inR_iff]
  constructor
  · rintro ⟨j, hj, hm, rfl⟩
    have hlt := List.idxOf_lt_length_of_mem hm
    exact ⟨hlt, j, hj, by simp [List.getD, hlt]⟩
  · rintro ⟨hg, j, hj, hR⟩
    have : L.getD g (0, 0) = L[g] := by simp [List.getD, hg]
    rw [this] at hR
    exact ⟨j, hj, by rw [hR]; exact List.getElem_mem hg, by rw [hR]; exact hnd.idxOf_getElem g hg⟩
theorem word_nil : word [] = fun _ => 0 := rfl

/-! ### numbered -/
def Wd (L : List Rf) : Nat := (L.length + 63) / 64
/-- The bits under key kl. -/
def Ent (w : World) (D2 : DataW Value) (kl : Lit) (R : Nat → Rf) (m : Nat) (L : List Rf) : Prop :=
  ∃ (xb : Nat) (X : Nat → Nat), (∀ z, D2.atKey kl z = .held (.slice (some ⟨xb, 0, none⟩) (Wd L) (Wd L))) ∧ w.rowIs xb 91 (Wd L) (fun q => .int .u64 (X q)) ∧ (∀ q, X q < 2 ^ 64) ∧ ∀ g, bitOf X g = (decide (g < L.length) && inR R m (L.getD g (0, 0)))
structure NO (kt : TypeId) (D : DataW Value) (mm : Lit → Nat) (R : Lit → Nat → Rf) (L : List Rf) (B nB r M2 : Nat) (w wr : World) (left : Lit → Bool) (cnt : Nat) : Prop where
  rg : wr.ranges Try.prog kt RV B r nB D left cnt
  bl : Below w.heap.size w wr
  lf : ∀ kl, left kl = true → Maps.has D kl = true
  ex : ∃ D2 n2, wr.ownsMap Try.prog kt RV M2 n2 D2 ∧ n2 + cnt ≤ nB ∧ ∀ kl, Maps.has D kl = true → left kl = false → Ent wr D2 kl (R kl) (mm kl) L
theorem no_step {kt mt : TypeId} (K : Keyed Try.prog kt) (hmt : Try.prog.underlying mt = some (.map kt 119)) {D : DataW Value} {mm : Lit → Nat} {R : Lit → Nat → Rf} {L : List Rf} {B nB r M2 : Nat} {w wr w1 wr2 : World} {left : Lit → Bool} {cnt cnt' : Nat}
    (h : NO kt D mm R L B nB r M2 w wr left cnt) (hM2 : w.heap.size ≤ M2) (hr : w.heap.size ≤ r) (hBw : B < w.heap.size) (hnB : nB ≤ 65536) {key : Value} {kl : Lit} (hkey : keyOf Try.prog kt key = some kl) (hrg : w1.ranges Try.prog kt RV B r nB D (fun z => left z && !z.sameKey kl) cnt') (hlt : cnt' < cnt) (hgr : wr.grownBy w1 (some r)) (hb1 : Below w1.heap.size w1 wr2)
    {xb : Nat} (hxb : w1.heap.size ≤ xb) {X : Nat → Nat} (hX : ∀ q, X q < 2 ^ 64) (hrow : wr2.rowIs xb 91 (Wd L) (fun q => .int .u64 (X q))) (hbit : ∀ g, bitOf X g = (decide (g < L.length) && inR (R kl) (mm kl) (L.getD g (0, 0)))) :
    ∃ w3, (Instr.mapUpdate mt (.map (some M2)) key (.slice (some ⟨xb, 0, none⟩) (Wd L) (Wd L))).run Try.prog wr2 = .ok () w3 ∧ NO kt D mm R L B nB r M2 w w3 (fun z => left z && !z.sameKey kl) cnt' := by
  obtain ⟨D2, n2, hown, hn2, hent⟩ := h.ex
  have hne : M2 ≠ r := by
    rintro rfl
    obtain ⟨es, clock, hb, _⟩ := hown
    obtain ⟨es', clock', since, seen, c0, _, _, _, _, hr, _⟩ := h.rg
    rw [hb] at hr; cases hr
  have s1 := hgr.size
  have o1 : w1.ownsMap Try.prog kt RV M2 n2 D2 := hown.kept hgr (by simpa using hne)
  have o2 : wr2.ownsMap Try.prog kt RV M2 n2 D2 := by
    obtain ⟨es, clock, hb, r⟩ := o1
    exact ⟨es, clock, (hb1.block M2 (lt_of_block hb)).trans hb, r⟩
  obtain ⟨w3, hrun, o3, ht⟩ := o2.store K hmt (by simp [maxLen]; omega) hkey (d := .held (.slice (some ⟨xb, 0, none⟩) (Wd L) (Wd L))) (ps := []) rfl
  have hM := o2.isMap
  have hB : B ≠ M2 := by omega
  have g3 : ∀ k, k < wr2.heap.size → k ≠ M2 → w3.heap[k]? = wr2.heap[k]? := fun k hk h1 => ht.grown.block k hk (by simpa using h1)
  have hrM : r ≠ M2 := hne.symm
  have s2 := hb1.size
  have all : ∀ k, k < wr.heap.size → k ≠ r → k ≠ M2 → w3.heap[k]? = wr.heap[k]? := fun k hk h1 h2 => by
    rw [g3 k (by omega) h2, hb1.block k (by omega), hgr.block k hk (by simpa using h1)]
  have hrlt := hrg.lt
  have hBlt := hrg.owns.lt
  refine ⟨w3, hrun, ⟨?_, ?_, fun kl' h' => h.lf kl' (by simp at h'; exact h'.1), ⟨_, n2 + 1, o3, by omega, fun kl' hkl' hl' => ?_⟩⟩⟩
  · obtain ⟨es, clock, since, seen, c0, hb, F, hs, hD, hr0, rest⟩ := hrg
    exact ⟨es, clock, since, seen, c0, (g3 B (by omega) hB).trans ((hb1.block B (by omega)).trans hb), F, hs, hD, (g3 r (by omega) hrM).trans ((hb1.block r (by omega)).trans hr0), rest⟩
  · refine ⟨ht.grown.os.trans (hb1.os.trans (hgr.os.trans h.bl.os)), ht.grown.tape.trans (hb1.tape.trans (hgr.tape.trans h.bl.tape)), ht.grown.output.trans (hb1.output.trans (hgr.output.trans h.bl.output)), ?_, fun k hk => ?_⟩
    · have := ht.grown.size; have := h.bl.size; omega
    · rw [all k (Nat.lt_of_lt_of_le hk h.bl.size) (by omega) (by omega)]
      exact h.bl.block k hk
  · by_cases e : kl' = kl
    · subst e
      refine ⟨xb, X, fun z => Maps.atKey_put_same hM (K.key hkey) _ z, hrow.of_block (g3 xb hrow.lt ?_), hX, hbit⟩
      have := hown.lt
      omega
    · have hl2 : left kl' = false := by simpa [Maps.sameKey_ne e] using hl'
      obtain ⟨xb', X', h1, h2, h3, h4⟩ := hent kl' hkl' hl2
      refine ⟨xb', X', fun z => by rw [Maps.atKey_put_other e]; exact h1 z, h2.of_block (all xb' h2.lt ?_ ?_), h3, h4⟩
      · rintro rfl
        obtain ⟨cs, hb, _⟩ := h2
        obtain ⟨es', clock', since, seen, c0, _, _, _, _, hr, _⟩ := h.rg
        rw [hb] at hr; cases hr
      · rintro rfl
        obtain ⟨cs, hb, _⟩ := h2
        obtain ⟨es, clock, hb', _⟩ := hown
        rw [hb] at hb'; cases hb'
end Go.Proofs.Qxb6612720a
