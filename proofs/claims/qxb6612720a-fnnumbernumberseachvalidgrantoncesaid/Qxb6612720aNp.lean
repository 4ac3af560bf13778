import Derived.Test.Qxb6612720aNo
namespace Go.Proofs.Qxb6612720a
open Go.RowKit
open Go.Maps (Keyed)
set_option linter.unusedVariables false

theorem info70 : (Try.prog.info? 70).map (fun i => (i.zero, i.size, i.bytes)) = some (some (.slice none 0 0), 1, 24) := by kernel_rfl
theorem zero119 (w : World) : (zeroValue 119).run Try.prog w = .ok (.slice none 0 0) w := by
  have h : Try.t119.zero = some (.slice none 0 0) := by rfl
  simp [zeroValue, h]
/-- The bitsets laid out so far. -/
def bitsAt (xb : Nat → Nat) (W k j : Nat) : Value := if j < k then .slice (some ⟨xb j, 0, none⟩) W W else .slice none 0 0
theorem look_val {kt mt : TypeId} (K : Keyed Try.prog kt) (hmt : Try.prog.underlying mt = some (.map kt 119)) {w : World} {X n : Nat} {D : DataW Value} (h : w.ownsMap Try.prog kt RV X n D) {key v : Value} {kl : Lit} (hkey : keyOf Try.prog kt key = some kl) (hat : ∀ z, D.atKey kl z = .held v) :
    (Instr.lookup mt (.map (some X)) key false).run Try.prog w = .ok v w := by
  obtain ⟨v', ps, hrun, hv⟩ := h.lookup K hmt (zero119 w) (zd := .held (.slice none 0 0)) (zp := []) rfl hkey
  rw [hat] at hv
  simp [RV] at hv
  rw [hrun, hv.1]

theorem set1_cell {w : World} {O a q o : Nat} {x : Value} (h : q ≠ O) : (w.setCell ⟨O, a, none⟩ x).drew.cell? ⟨q, o, none⟩ = w.cell? ⟨q, o, none⟩ := by
  have h1 : (w.setCell ⟨O, a, none⟩ x).heap[q]? = w.heap[q]? := Below.heap_setCell _ _ _ _ h
  rw [World.cell?_drew]
  simp only [World.cell?, h1]

set_option maxHeartbeats 4000000 in
set_option maxRecDepth 100000 in
theorem z8 (v0 v1 v3 v4 v5 v6 v7 v8 v9 v20 v21 v23 v24 v26 v29 v30 v22 : Value) (bt nl : Nat) (w : World) (Q : Exit → Act → World → Prop) (hnl : nl ≤ 65536) (act : Act) (hI : J29 v0 v1 (.slice (some ⟨bt, 0, none⟩) nl nl) v3 v4 v5 v6 v7 v8 v9 v20 v21 v22 v23 v24 v26 v29 v30 act)
    (hnext : ∀ act' w', J29 v0 v1 (.slice (some ⟨bt, 0, none⟩) nl nl) v3 v4 v5 v6 v7 v8 v9 v20 v21 (.slice (some ⟨w.heap.size, 0, none⟩) nl nl) v23 v24 v26 v29 v30 act' → (∀ xb W, w'.rowIs w.heap.size 70 nl (bitsAt xb W 0)) → Below w.heap.size w w' → w'.heap.size = w.heap.size + 1 → Q .normal act' w') : Code.wp Try.prog (pick [1, 1, 1, 1, 1, 1, 1, 1, 0] b29) Q act w := by
  obtain ⟨g, rfl⟩ := hI
  have HN : Hid _ := hnext
  have hmk := run_make_row' (P := Try.prog) 56 70 (.slice none 0 0) 24 Try.underlying56 info70 rfl .i64 .i64 nl (by omega) (by omega)
  clear hnext
  conv => arg 2; whnf
  go_wp2
  exact HN.out _ _ (J29_mk _ rfl rfl rfl rfl rfl rfl rfl rfl rfl rfl rfl rfl rfl rfl rfl rfl rfl rfl rfl) (fun xb W => (World.rowIs_made w (.slice none 0 0) nl 70).congr fun j _ => by simp [bitsAt]) ((Below.refl _ _).alloc (Nat.le_refl _) _) (by simp)

set_option maxHeartbeats 4000000 in
set_option maxRecDepth 100000 in
theorem z9 (v0 v1 v4 v5 v6 v7 v8 v9 v20 v21 v23 v24 v26 v30 : Value) (b2 b3 nl O X W : Nat) (T I : Nat → ByteArray) (keys : Nat → Lit) (xb : Nat → Nat) (D : DataW Value) (w : World) (N : Act → World → Prop) (Q : Ending → World → Prop) (hnl : nl ≤ 65536) (r2 : w.rowIs b2 9 nl (fun i => .string (T i))) (r3 : w.rowIs b3 9 nl (fun i => .string (I i))) (h2 : b2 < O) (h3 : b3 < O) (hX : w.ownsMap Try.prog 112 RV X nl D) (hkey : ∀ i, i < nl → keyOf Try.prog 112 (.agg #[.string (T i), .string (I i)]) = some (keys i)) (hat : ∀ i, i < nl → ∀ z, D.atKey (keys i) z = .held (.slice (some ⟨xb i, 0, none⟩) W W)) (hr : w.rowIs O 70 nl (bitsAt xb W 0)) (act : Act) (hI : J29 v0 v1 (.slice (some ⟨b2, 0, none⟩) nl nl) (.slice (some ⟨b3, 0, none⟩) nl nl) v4 v5 v6 v7 v8 v9 v20 v21 (.slice (some ⟨O, 0, none⟩) nl nl) v23 v24 v26 (.map (some X)) v30 act)
    (hnext : ∀ act' w', J29 v0 v1 (.slice (some ⟨b2, 0, none⟩) nl nl) (.slice (some ⟨b3, 0, none⟩) nl nl) v4 v5 v6 v7 v8 v9 v20 v21 (.slice (some ⟨O, 0, none⟩) nl nl) v23 v24 v26 (.map (some X)) v30 act' → w'.rowIs O 70 nl (bitsAt xb W nl) → w.grownBy w' (some O) → N act' w') : Code.wp Try.prog (pick [1, 1, 1, 1, 1, 1, 1, 1, 1, 0] b29) (Exit.then N (bodyPost Try.prog Try.f29 Q)) act w := by
  obtain ⟨g, rfl⟩ := hI
  have HN : Hid _ := hnext
  have R2 : Hid (w.rowIs b2 9 nl (fun i => .string (T i))) := r2
  have R3 : Hid (w.rowIs b3 9 nl (fun i => .string (I i))) := r3
  have HX : Hid (w.ownsMap Try.prog 112 RV X nl D) := hX
  have HK : Hid (∀ i, i < nl → keyOf Try.prog 112 (.agg #[.string (T i), .string (I i)]) = some (keys i)) := hkey
  have HA : Hid (∀ i, i < nl → ∀ z, D.atKey (keys i) z = .held (.slice (some ⟨xb i, 0, none⟩) W W)) := hat
  have HR : Hid (w.rowIs O 70 nl (bitsAt xb W 0)) := hr
  have hXO : X ≠ O := by
    rintro rfl
    obtain ⟨cs, hc, _⟩ := hr
    exact map_not hX _ _ _ hc
  clear hnext r2 hX hkey hat hr r3
  conv => arg 2; whnf
  go_wp2
  go_loopw [146] (fun i wr => ∃ k : Nat, k ≤ nl ∧ i = .int .i64 k ∧ Hid (wr.rowIs O 70 nl (bitsAt xb W k)) ∧ Hid (w.grownBy wr (some O))) (fun i _ => nl - (intOf i).toNat)
  case atStart => exact ⟨0, Nat.zero_le _, rfl, HR, grown_refl w O⟩
  case round =>
    obtain ⟨k, hk, rfl, hr, hg⟩ := hrel
    by_cases hlt : k < nl
    · have y2 := (R2.out.of_block (hg.out.block b2 R2.out.lt (by simp; omega))).cell hlt
      have y3 := (R3.out.of_block (hg.out.block b3 R3.out.lt (by simp; omega))).cell hlt
      have hlook : (Instr.lookup 113 (.map (some X)) (.agg #[.string (T k), .string (I k)]) false).run Try.prog wr.drew = .ok (.slice (some ⟨xb k, 0, none⟩) W W) wr.drew := look_val law112 Try.underlying113 (HX.out.kept hg.out (by simpa using hXO)).drew (HK.out k hlt) (HA.out k hlt)
      have d0 := hr.out.cell (i := k) hlt
      have df := hr.out.frozen k
      have RH : Hid ((wr.setCell ⟨O, k, none⟩ (.slice (some ⟨xb k, 0, none⟩) W W)).rowIs O 70 nl (bitsAt xb W (k + 1))) := (hr.out.set _ _).congr fun j _ => by
        unfold bitsAt
        by_cases e : j = k
        · subst e; simp
        · rw [if_neg e]
          have : (j < k + 1) = (j < k) := by rw [eq_iff_iff]; omega
          simp only [this]
      have GH : Hid (w.grownBy (wr.setCell ⟨O, k, none⟩ (.slice (some ⟨xb k, 0, none⟩) W W)) (some O)) := grown_trans hg.out ⟨rfl, rfl, rfl, by simp [World.setCell], fun j _ hj => Below.heap_setCell _ _ _ _ (by simpa using hj)⟩
      clear hr
      have KS : Hid ((wr.setCell ⟨O, k, none⟩ (.slice (some ⟨xb k, 0, none⟩) W W)).drew.cell? ⟨b2, k, none⟩ = some (.string (T k)) ∧ (wr.setCell ⟨O, k, none⟩ (.slice (some ⟨xb k, 0, none⟩) W W)).drew.cell? ⟨b3, k, none⟩ = some (.string (I k))) := ⟨(set1_cell (by omega)).trans y2, (set1_cell (by omega)).trans y3⟩
      go_wp2
      go_region_held3 (fun W' => W'.cell? ⟨b2, k, none⟩ = some (.string (T k)) ∧ W'.cell? ⟨b3, k, none⟩ = some (.string (I k))) (first | (go_keep; done) | exact KS.out) (fail)
      go_wp2
      go_roundw
      case rel => exact ⟨k + 1, by omega, by go_num, RH.out, ⟨GH.out.os, GH.out.tape, GH.out.output, GH.out.size, GH.out.block⟩⟩
      case measure => simp [intOf]; omega
    · obtain rfl : k = nl := by omega
      go_wp2
      exact HN.out _ _ (J29_mk _ rfl rfl rfl rfl rfl rfl rfl rfl rfl rfl rfl rfl rfl rfl rfl rfl rfl rfl rfl) hr.out hg.out

set_option maxHeartbeats 4000000 in
set_option maxRecDepth 100000 in
theorem z10 (v0 v1 v2 v3 v4 v5 v7 v8 v9 v20 v21 v22 v24 v26 v29 v30 v23 : Value) (bt nl : Nat) (w : World) (Q : Exit → Act → World → Prop) (hnl : nl ≤ 65536) (act : Act) (hI : J29 v0 v1 v2 v3 v4 v5 (.slice (some ⟨bt, 0, none⟩) nl nl) v7 v8 v9 v20 v21 v22 v23 v24 v26 v29 v30 act)
    (hnext : ∀ act' w', J29 v0 v1 v2 v3 v4 v5 (.slice (some ⟨bt, 0, none⟩) nl nl) v7 v8 v9 v20 v21 v22 (.slice (some ⟨w.heap.size, 0, none⟩) nl nl) v24 v26 v29 v30 act' → (∀ xb W, w'.rowIs w.heap.size 70 nl (bitsAt xb W 0)) → Below w.heap.size w w' → w'.heap.size = w.heap.size + 1 → Q .normal act' w') : Code.wp Try.prog (pick [1, 1, 1, 1, 1, 1, 1, 1, 1, 1, 0] b29) Q act w := by
  obtain ⟨g, rfl⟩ := hI
  have HN : Hid _ := hnext
  have hmk := run_make_row' (P := Try.prog) 56 70 (.slice none 0 0) 24 Try.underlying56 info70 rfl .i64 .i64 nl (by omega) (by omega)
  clear hnext
  conv => arg 2; whnf
  go_wp2
  exact HN.out _ _ (J29_mk _ rfl rfl rfl rfl rfl rfl rfl rfl rfl rfl rfl rfl rfl rfl rfl rfl rfl rfl rfl) (fun xb W => (World.rowIs_made w (.slice none 0 0) nl 70).congr fun j _ => by simp [bitsAt]) ((Below.refl _ _).alloc (Nat.le_refl _) _) (by simp)

set_option maxHeartbeats 4000000 in
set_option maxRecDepth 100000 in
theorem z11 (v0 v1 v2 v3 v4 v5 v7 v8 v9 v20 v21 v22 v24 v26 v29 : Value) (b2 b3 nl O X W : Nat) (T : Nat → ByteArray) (keys : Nat → Lit) (xb : Nat → Nat) (D : DataW Value) (w : World) (N : Act → World → Prop) (Q : Ending → World → Prop) (hnl : nl ≤ 65536) (r2 : w.rowIs b2 9 nl (fun i => .string (T i))) (h2 : b2 < O) (hX : w.ownsMap Try.prog 9 RV X nl D) (hkey : ∀ i, i < nl → keyOf Try.prog 9 (.string (T i)) = some (keys i)) (hat : ∀ i, i < nl → ∀ z, D.atKey (keys i) z = .held (.slice (some ⟨xb i, 0, none⟩) W W)) (hr : w.rowIs O 70 nl (bitsAt xb W 0)) (act : Act) (hI : J29 v0 v1 v2 v3 v4 v5 (.slice (some ⟨b2, 0, none⟩) nl nl) v7 v8 v9 v20 v21 v22 (.slice (some ⟨O, 0, none⟩) nl nl) v24 v26 v29 (.map (some X)) act)
    (hnext : ∀ act' w', J29 v0 v1 v2 v3 v4 v5 (.slice (some ⟨b2, 0, none⟩) nl nl) v7 v8 v9 v20 v21 v22 (.slice (some ⟨O, 0, none⟩) nl nl) v24 v26 v29 (.map (some X)) act' → w'.rowIs O 70 nl (bitsAt xb W nl) → w.grownBy w' (some O) → N act' w') : Code.wp Try.prog (pick [1, 1, 1, 1, 1, 1, 1, 1, 1, 1, 1, 0] b29) (Exit.then N (bodyPost Try.prog Try.f29 Q)) act w := by
  obtain ⟨g, rfl⟩ := hI
  have HN : Hid _ := hnext
  have R2 : Hid (w.rowIs b2 9 nl (fun i => .string (T i))) := r2
  have HX : Hid (w.ownsMap Try.prog 9 RV X nl D) := hX
  have HK : Hid (∀ i, i < nl → keyOf Try.prog 9 (.string (T i)) = some (keys i)) := hkey
  have HA : Hid (∀ i, i < nl → ∀ z, D.atKey (keys i) z = .held (.slice (some ⟨xb i, 0, none⟩) W W)) := hat
  have HR : Hid (w.rowIs O 70 nl (bitsAt xb W 0)) := hr
  have hXO : X ≠ O := by
    rintro rfl
    obtain ⟨cs, hc, _⟩ := hr
    exact map_not hX _ _ _ hc
  clear hnext r2 hX hkey hat hr
  conv => arg 2; whnf
  go_wp2
  go_loopw [169] (fun i wr => ∃ k : Nat, k ≤ nl ∧ i = .int .i64 k ∧ Hid (wr.rowIs O 70 nl (bitsAt xb W k)) ∧ Hid (w.grownBy wr (some O))) (fun i _ => nl - (intOf i).toNat)
  case atStart => exact ⟨0, Nat.zero_le _, rfl, HR, grown_refl w O⟩
  case round =>
    obtain ⟨k, hk, rfl, hr, hg⟩ := hrel
    by_cases hlt : k < nl
    · have y2 := (R2.out.of_block (hg.out.block b2 R2.out.lt (by simp; omega))).cell hlt
      have hlook : (Instr.lookup 114 (.map (some X)) (.string (T k)) false).run Try.prog wr = .ok (.slice (some ⟨xb k, 0, none⟩) W W) wr := look_val law9 Try.underlying114 (HX.out.kept hg.out (by simpa using hXO)) (HK.out k hlt) (HA.out k hlt)
      have d0 := hr.out.cell (i := k) hlt
      have df := hr.out.frozen k
      have RH : Hid ((wr.setCell ⟨O, k, none⟩ (.slice (some ⟨xb k, 0, none⟩) W W)).rowIs O 70 nl (bitsAt xb W (k + 1))) := (hr.out.set _ _).congr fun j _ => by
        unfold bitsAt
        by_cases e : j = k
        · subst e; simp
        · rw [if_neg e]
          have : (j < k + 1) = (j < k) := by rw [eq_iff_iff]; omega
          simp only [this]
      have GH : Hid (w.grownBy (wr.setCell ⟨O, k, none⟩ (.slice (some ⟨xb k, 0, none⟩) W W)) (some O)) := grown_trans hg.out ⟨rfl, rfl, rfl, by simp [World.setCell], fun j _ hj => Below.heap_setCell _ _ _ _ (by simpa using hj)⟩
      clear hr
      go_wp2
      go_roundw
      case rel => exact ⟨k + 1, by omega, by go_num, RH.out, ⟨GH.out.os, GH.out.tape, GH.out.output, GH.out.size, GH.out.block⟩⟩
      case measure => simp [intOf]; omega
    · obtain rfl : k = nl := by omega
      go_wp2
      exact HN.out _ _ (J29_mk _ rfl rfl rfl rfl rfl rfl rfl rfl rfl rfl rfl rfl rfl rfl rfl rfl rfl rfl rfl) hr.out hg.out

theorem results_tmp4 {fn : Func} {t u v x : Tmp} (h : fn.results = #[.tmp t, .tmp u, .tmp v, .tmp x]) (tmps : Array Value) (P : Program) (w : World) :
    (results fn tmps).run P w = .ok (.tuple #[tmps.getD t undef, tmps.getD u undef, tmps.getD v undef, tmps.getD x undef]) w := by
  simp [results, h]
set_option maxHeartbeats 4000000 in
set_option maxRecDepth 100000 in
theorem z12 (v0 v1 v2 v3 v4 v5 v6 v7 v8 v9 v20 v21 v22 v23 v24 v26 v29 v30 : Value) (w : World) (Q : Ending → World → Prop) (act : Act) (hI : J29 v0 v1 v2 v3 v4 v5 v6 v7 v8 v9 v20 v21 v22 v23 v24 v26 v29 v30 act)
    (hnext : Q (.returned (.tuple #[v20, v21, v22, v23])) w) : Code.wp Try.prog (pick [1, 1, 1, 1, 1, 1, 1, 1, 1, 1, 1, 1] b29) (bodyPost Try.prog Try.f29 Q) act w := by
  obtain ⟨g, rfl⟩ := hI
  have HN : Hid _ := hnext
  clear hnext
  conv => arg 2; whnf
  go_wp2
  (try simp only [Exit.inBlock, Exit.then])
  refine bodyPost_ret (results_tmp4 rfl _ _ _) rfl ?_
  exact HN.out
end Go.Proofs.Qxb6612720a
