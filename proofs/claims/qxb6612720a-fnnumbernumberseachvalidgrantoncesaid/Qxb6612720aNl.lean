import Derived.Test.Qxb6612720aNk
namespace Go.Proofs.Qxb6612720a
open Go.RowKit
open Go.Maps (Keyed)
set_option linter.unusedVariables false

/-! ### The stored sets -/
def setAt (nb na : Nat → Int) (k j : Nat) : Value :=
  if j % 5 = 0 then .int .i64 (if j / 5 < k then nb (j / 5) else 0) else if j % 5 = 1 then .int .i64 (if j / 5 < k then na (j / 5) else 0) else if j % 5 = 2 then .int .i64 0 else .slice none 0 0
theorem info105 : (Try.prog.info? 105).map (fun i => (i.zero, i.size, i.bytes)) = some (some (.agg #[.int .i64 0, .int .i64 0, .int .i64 0, .slice none 0 0, .slice none 0 0]), 5, 72) := by kernel_rfl
theorem make105 (n : Nat) (h : n ≤ 65536) (w : World) : (Instr.makeSlice 97 (.int .i64 n) (.int .i64 n)).run Try.prog w = .ok (.slice (some ⟨w.heap.size, 0, none⟩) n n) (w.alloc (.cells (madeCells #[.int .i64 0, .int .i64 0, .int .i64 0, .slice none 0 0, .slice none 0 0] (n * 5)) 105)) := by
  obtain ⟨i0, hi, hz0, hz1, hz2⟩ := info_parts info105
  have := run_make (P := Try.prog) w 97 105 i0 _ Try.underlying97 hi hz0 .i64 .i64 n n (by omega) (by omega) (by rw [hz2]; omega) (by omega)
  rw [hz1] at this
  simpa [Value.cells] using this
theorem made105 (w : World) (n : Nat) (nb na : Nat → Int) : (w.alloc (.cells (madeCells #[.int .i64 0, .int .i64 0, .int .i64 0, .slice none 0 0, .slice none 0 0] (n * 5)) 105)).rowIs w.heap.size 105 (n * 5) (setAt nb na 0) := by
  have := World.rowIs_alloc w (madeCells #[.int .i64 0, .int .i64 0, .int .i64 0, .slice none 0 0, .slice none 0 0] (n * 5)) 105 (setAt nb na 0) (fun i hi => by
    rw [size_madeCells] at hi
    have : i % 5 = 0 ∨ i % 5 = 1 ∨ i % 5 = 2 ∨ i % 5 = 3 ∨ i % 5 = 4 := by omega
    rcases this with e | e | e | e | e <;> simp [madeCells, hi, setAt, e])
  rwa [size_madeCells] at this
theorem set_step {w : World} {O N k : Nat} {nb na : Nat → Int} (h : w.rowIs O 105 N (setAt nb na k)) : (((((w.setCell ⟨O, k * 5, none⟩ (.int .i64 (nb k))).setCell ⟨O, k * 5 + 1, none⟩ (.int .i64 (na k))).setCell ⟨O, k * 5 + 2, none⟩ (.int .i64 0)).setCell ⟨O, k * 5 + 3, none⟩ (.slice none 0 0)).setCell ⟨O, k * 5 + 4, none⟩ (.slice none 0 0)).rowIs O 105 N (setAt nb na (k + 1)) := by
  refine (((((h.set _ _).set _ _).set _ _).set _ _).set _ _).congr fun j _ => ?_
  unfold setAt
  by_cases e : j / 5 = k
  · have hj : j / 5 < k + 1 := by omega
    have : j % 5 = 0 ∨ j % 5 = 1 ∨ j % 5 = 2 ∨ j % 5 = 3 ∨ j % 5 = 4 := by omega
    rcases this with q | q | q | q | q
    · have : j = k * 5 := by omega
      subst this; simp [e]
    · have : j = k * 5 + 1 := by omega
      subst this; simp [q, e]
    · have : j = k * 5 + 2 := by omega
      subst this; simp [q]
    · have : j = k * 5 + 3 := by omega
      subst this; simp [q]
    · have : j = k * 5 + 4 := by omega
      subst this; simp [q]
  · rw [if_neg (by omega), if_neg (by omega), if_neg (by omega), if_neg (by omega), if_neg (by omega)]
    have : (j / 5 < k + 1) = (j / 5 < k) := by rw [eq_iff_iff]; omega
    simp only [this]
theorem set_cells {w : World} {b n : Nat} {nb na : Nat → Int} (h : w.rowIs b 105 (n * 5) (setAt nb na n)) : ∀ i, i < n → w.cell? ⟨b, i * 5, none⟩ = some (.int .i64 (nb i)) ∧ w.cell? ⟨b, i * 5 + 1, none⟩ = some (.int .i64 (na i)) := fun i hi => by
  have h0 := h.cell (i := i * 5) (by omega)
  have h1 := h.cell (i := i * 5 + 1) (by omega)
  have e1 : (i * 5 + 1) / 5 = i := by omega
  have e2 : (i * 5 + 1) % 5 = 1 := by omega
  exact ⟨h0.trans (by simp [setAt, hi]), h1.trans (by simp [setAt, hi, e1, e2])⟩

/-! ### The lists under their keys -/
def DM (w : World) (kt : TypeId) (keys : Nat → Lit) (k B : Nat) (m : Nat → Nat) (R : Nat → Nat → Rf) : Prop :=
  ∃ D : DataW Value, w.ownsMap Try.prog kt RV B k D ∧ (∀ kl, Maps.has D kl = true → ∃ i, i < k ∧ keys i = kl) ∧ ∀ i, i < k → Maps.has D (keys i) = true ∧ ∃ lb, (∀ z, D.atKey (keys i) z = .held (.slice (some ⟨lb, 0, none⟩) (m i) (m i))) ∧ w.rowIs lb 118 (m i * 2) (refAt (R i) (m i))
theorem DM.lt {w : World} {kt : TypeId} {keys : Nat → Lit} {k B : Nat} {m : Nat → Nat} {R : Nat → Nat → Rf} (h : DM w kt keys k B m R) : B < w.heap.size := by
  obtain ⟨D, h, _⟩ := h; exact h.lt
theorem DM.not {w : World} {kt : TypeId} {keys : Nat → Lit} {k B : Nat} {m : Nat → Nat} {R : Nat → Nat → Rf} (h : DM w kt keys k B m R) : ∀ cs t fz, w.heap[B]? ≠ some (.cells cs t fz) := by
  obtain ⟨D, h, _⟩ := h; exact map_not h
theorem DM.same {w w' : World} {kt : TypeId} {keys : Nat → Lit} {k B : Nat} {m : Nat → Nat} {R : Nat → Nat → Rf} (h : DM w kt keys k B m R) (hB : w'.heap[B]? = w.heap[B]?) (hs : ∀ (j : Nat) (cs : Array Value), w.heap[j]? = some (Obj.cells cs 118 (0, 0)) → w'.heap[j]? = w.heap[j]?) : DM w' kt keys k B m R := by
  obtain ⟨D, ⟨es, clock, hb, r⟩, h2, h3⟩ := h
  refine ⟨D, ⟨es, clock, hB.trans hb, r⟩, h2, fun i hi => ?_⟩
  obtain ⟨a, lb, b, c⟩ := h3 i hi
  refine ⟨a, lb, b, c.of_block ?_⟩
  obtain ⟨cs, hc, _⟩ := c
  exact hs lb cs hc
theorem DM.below {w w' : World} {kt : TypeId} {keys : Nat → Lit} {k B : Nat} {m : Nat → Nat} {R : Nat → Nat → Rf} (h : DM w kt keys k B m R) (hb : Below w.heap.size w w') : DM w' kt keys k B m R :=
  h.same (hb.block B h.lt) fun j cs hj => hb.block j (lt_of_block hj)
theorem DM.turned {w w' : World} {kt : TypeId} {keys : Nat → Lit} {k B X : Nat} {m : Nat → Nat} {R : Nat → Nat → Rf} (h : DM w kt keys k B m R) (ht : w.mapTurned w' X) (hX : B ≠ X) : DM w' kt keys k B m R := by
  refine h.same (ht.grown.block B h.lt (by simpa using hX)) fun j cs hj => ht.grown.block j (lt_of_block hj) ?_
  rintro e
  simp at e
  subst e
  obtain ⟨es, clock, es', clock', hb, _⟩ := ht
  rw [hb] at hj; cases hj
theorem dm_made (w : World) (kt : TypeId) (keys : Nat → Lit) (m : Nat → Nat) (R : Nat → Nat → Rf) : DM (w.alloc (.map #[] 0)) kt keys 0 w.heap.size m R :=
  ⟨.map [], World.ownsMap_made w Try.prog kt RV, fun kl h => by simp [Maps.has] at h, fun i hi => by omega⟩
theorem dm_step {kt mt : TypeId} (K : Keyed Try.prog kt) (hmt : Try.prog.underlying mt = some (.map kt 99)) {w w1 : World} {keys : Nat → Lit} {k B lb : Nat} {m : Nat → Nat} {R : Nat → Nat → Rf} (h : DM w kt keys k B m R) (hk : k ≤ 65536) (hb : Below w.heap.size w w1) {key : Value} (hkey : keyOf Try.prog kt key = some (keys k)) (hnew : ∀ i, i < k → keys i ≠ keys k)
    (hrow : w1.rowIs lb 118 (m k * 2) (refAt (R k) (m k))) :
    ∃ w3, (Instr.mapUpdate mt (.map (some B)) key (.slice (some ⟨lb, 0, none⟩) (m k) (m k))).run Try.prog w1 = .ok () w3 ∧ DM w3 kt keys (k + 1) B m R ∧ w1.mapTurned w3 B := by
  obtain ⟨D, ho, h2, h3⟩ := h.below hb
  obtain ⟨w3, hrun, o3, ht⟩ := ho.store K hmt (by simp [maxLen]; omega) hkey (d := .held (.slice (some ⟨lb, 0, none⟩) (m k) (m k))) (ps := []) rfl
  have hM := ho.isMap
  have hK := K.key hkey
  have hno := map_not ho
  have row : ∀ {b N f}, w1.rowIs b 118 N f → w3.rowIs b 118 N f := fun {b N f} hr => by
    refine hr.of_block (ht.grown.block b hr.lt ?_)
    rintro e
    simp at e
    subst e
    obtain ⟨cs, hc, _⟩ := hr
    exact hno _ _ _ hc
  refine ⟨w3, hrun, ⟨_, o3, fun kl hkl => ?_, fun i hi => ?_⟩, ht⟩
  · by_cases e : kl = keys k
    · exact ⟨k, by omega, e.symm⟩
    · rw [Maps.has_put_other e] at hkl
      obtain ⟨i, hi, he⟩ := h2 kl hkl
      exact ⟨i, by omega, he⟩
  · by_cases e : i = k
    · subst e
      exact ⟨Maps.has_put_same hM hK _, lb, fun z => Maps.atKey_put_same hM hK _ z, row hrow⟩
    · obtain ⟨a, lb', b, c⟩ := h3 i (by omega)
      have hne := hnew i (by omega)
      exact ⟨by rw [Maps.has_put_other hne]; exact a, lb', fun z => by rw [Maps.atKey_put_other hne]; exact b z, row c⟩
/-- For number. -/
theorem dm_lists {w : World} {kt : TypeId} {keys : Nat → Lit} {n B : Nat} {m : Nat → Nat} {R : Nat → Nat → Rf} (h : DM w kt keys n B m R) (hd : ∀ i j, i < n → j < n → keys i = keys j → i = j) (hm : ∀ i, i < n → m i ≤ 65536) (hwf : ∀ i, i < n → ∀ j, j < m i → wfR (R i j)) :
    ∃ (D : DataW Value) (bb : Lit → Nat) (idx : Lit → Nat), w.ownsMap Try.prog kt RV B n D ∧ Lists w D bb (fun kl => m (idx kl)) (fun kl => R (idx kl)) ∧ (∀ kl, Maps.has D kl = true → idx kl < n) ∧ ∀ i, i < n → Maps.has D (keys i) = true ∧ idx (keys i) = i := by
  obtain ⟨D, ho, h2, h3⟩ := h
  have h2' : ∀ kl, ∃ i, Maps.has D kl = true → i < n ∧ keys i = kl := fun kl => by
    by_cases e : Maps.has D kl = true
    · obtain ⟨i, hi⟩ := h2 kl e; exact ⟨i, fun _ => hi⟩
    · exact ⟨0, fun h => absurd h e⟩
  obtain ⟨idx, hidx⟩ := Classical.skolem.1 h2'
  have h3' : ∀ i, ∃ lb, i < n → (∀ z, D.atKey (keys i) z = .held (.slice (some ⟨lb, 0, none⟩) (m i) (m i))) ∧ w.rowIs lb 118 (m i * 2) (refAt (R i) (m i)) := fun i => by
    by_cases e : i < n
    · obtain ⟨_, lb, hl⟩ := h3 i e; exact ⟨lb, fun _ => hl⟩
    · exact ⟨0, fun h => absurd h e⟩
  obtain ⟨lb, hlb⟩ := Classical.skolem.1 h3'
  refine ⟨D, fun kl => lb (idx kl), idx, ho, fun kl hk => ?_, fun kl hk => (hidx kl hk).1, fun i hi => ⟨(h3 i hi).1, ?_⟩⟩
  · obtain ⟨hi, he⟩ := hidx kl hk
    obtain ⟨a, b⟩ := hlb (idx kl) hi
    refine ⟨fun z => ?_, b, hm _ hi, hwf _ hi⟩
    have := a z
    rw [he] at this
    exact this
  · obtain ⟨h4, h5⟩ := hidx (keys i) (h3 i hi).1
    exact hd _ _ h4 hi h5
end Go.Proofs.Qxb6612720a
