import Derived.Test.Qxb6612468aAb
namespace Go.Proofs.Qxb6612468a
open Go.RowKit
set_option linter.unusedVariables false

theorem ret_int' {k : IntKind} {a b : Int} (h : a = b) : Ending.returned (.int k a) = .returned (.int k b) := by rw [h]

def inB (L : List ByteArray) (s : ByteArray) : Bool := L.any fun x => x.toList == s.toList

theorem in_yes {L : List ByteArray} {s : ByteArray} {k : Nat} (hk : k < L.length) (h : (L.getD k ⟨#[]⟩).toList = s.toList) : inB L s = true := by
  unfold inB
  rw [List.any_eq_true]
  exact ⟨L[k], List.getElem_mem hk, by simpa [List.getD, hk] using h⟩
theorem in_no {L : List ByteArray} {s : ByteArray} (h : ∀ j, j < L.length → ¬ (L.getD j ⟨#[]⟩).toList = s.toList) : inB L s = false := by
  unfold inB
  rw [List.any_eq_false]
  intro x hx
  obtain ⟨j, hj, rfl⟩ := List.getElem_of_mem hx
  have := h j hj
  simpa [List.getD, hj] using this

set_option maxHeartbeats 400000 in
theorem in_any (a : Option Addr) (c : Nat) (L : List ByteArray) (s : ByteArray) (w : World) (hn : L.length ≤ 1048576) (hS : Strs w a L.length (fun j => L.getD j ⟨#[]⟩)) :
    Calls Try.prog 24 #[.slice a L.length c, .string s] w fun e w' => e = .returned (.bool (inB L s)) ∧ w' = w := by
  have HS : Hid (Strs w a L.length (fun j => L.getD j ⟨#[]⟩)) := hS
  clear hS
  go_enter Try.func24, Try.ntmps24
  go_wp2
  go_loop [5] (fun i => ∃ k : Nat, k ≤ L.length ∧ i = .int .i64 k ∧ Hid (∀ j, j < k → ¬ (L.getD j ⟨#[]⟩).toList = s.toList)) (fun i => L.length - (intOf i).toNat)
  case atStart => exact ⟨0, Nat.zero_le _, rfl, fun j h => by omega⟩
  case round =>
    obtain ⟨k, hk, rfl, hq⟩ := hrel
    by_cases hlt : k < L.length
    · obtain ⟨b, off, rfl, c0⟩ := HS.out.cell hlt
      obtain ⟨x, hx⟩ : ∃ x, x = L.getD k ⟨#[]⟩ := ⟨_, rfl⟩
      have HX : Hid (x = L.getD k ⟨#[]⟩) := hx
      have c1 : w.cell? ⟨b, off + k, none⟩ = some (.string x) := by rw [hx]; exact c0
      clear c0 hx
      by_cases he : x.toList = s.toList
      · have hb : (x.toList == s.toList) = true := by simp [he]
        have RH : Hid (inB L s = true) := in_yes hlt (by rw [← HX.out]; exact he)
        clear he
        go_wp2
        go_ret
        exact ⟨ret_bool' RH.out.symm, rfl⟩
      · have hb : (x.toList == s.toList) = false := by simp [he]
        have R : Hid (∀ j, j < k + 1 → ¬ (L.getD j ⟨#[]⟩).toList = s.toList) := fun j hj => by
          by_cases e : j = k
          · subst e; rw [← HX.out]; exact he
          · exact hq.out j (by omega)
        clear he
        go_wp2
        go_round
        case rel => exact ⟨k + 1, by omega, by go_num, R⟩
        case measure => simp [intOf]; omega
    · have RH : Hid (inB L s = false) := in_no (fun j hj => hq.out j (by omega))
      go_wp2
      go_ret
      exact ⟨ret_bool' RH.out.symm, rfl⟩

/-- The sections that the first k refs of the route name. -/
def secs (F : Nat → Nat → ByteArray) (name : ByteArray) : Nat → List ByteArray
  | 0 => []
  | k + 1 => if (F k 2).toList = name.toList then secs F name k ++ [F k 3] else secs F name k
theorem secs_len (F : Nat → Nat → ByteArray) (name : ByteArray) : ∀ k, (secs F name k).length ≤ k
  | 0 => Nat.le_refl _
  | k + 1 => by
    have := secs_len F name k
    simp only [secs]
    split
    · simp; omega
    · omega
theorem mem_secs {F : Nat → Nat → ByteArray} {name x : ByteArray} : ∀ {k}, x ∈ secs F name k ↔ ∃ i, i < k ∧ (F i 2).toList = name.toList ∧ x = F i 3
  | 0 => by simp [secs]
  | k + 1 => by
    simp only [secs]
    have ih := @mem_secs F name x k
    constructor
    · intro h
      split at h
      · rename_i hc
        rcases List.mem_append.1 h with h | h
        · obtain ⟨i, a, b⟩ := ih.1 h
          exact ⟨i, by omega, b⟩
        · exact ⟨k, by omega, hc, by simpa using h⟩
      · obtain ⟨i, a, b⟩ := ih.1 h
        exact ⟨i, by omega, b⟩
    · rintro ⟨i, a, b, c⟩
      by_cases e : i = k
      · subst e
        rw [if_pos b]
        simp [c]
      · have := ih.2 ⟨i, by omega, b, c⟩
        split
        · exact List.mem_append_left _ this
        · exact this

/-- A ref among the first n names the route with no section. -/
theorem whole_cnt {F : Nat → Nat → ByteArray} {name : ByteArray} {Ru : Nat → ByteArray} {n i : Nat} (hi : i < n) (h2 : (F i 2).toList = name.toList) (h3 : (F i 3).toList = []) : ∀ k, cnt n F name Ru k = k
  | 0 => rfl
  | k + 1 => by
    have h : anyB n F name (Ru k) = true := any_yes hi (by simp [covB, h2, h3])
    simp only [cnt, whole_cnt hi h2 h3 k, h, if_true]
theorem secs_any {F : Nat → Nat → ByteArray} {name r : ByteArray} {n : Nat} (hno : ∀ i, i < n → (F i 2).toList = name.toList → ¬ (F i 3).toList = []) : anyB n F name r = inB (secs F name n) r := by
  rw [Bool.eq_iff_iff]
  unfold anyB inB
  rw [List.any_eq_true, List.any_eq_true]
  constructor
  · rintro ⟨i, hi, h⟩
    have hi' := List.mem_range.1 hi
    simp only [covB, decide_eq_true_eq] at h
    refine ⟨F i 3, mem_secs.2 ⟨i, hi', h.1, rfl⟩, ?_⟩
    rcases h.2 with e | e
    · exact absurd e (hno i hi' h.1)
    · simp [e]
  · rintro ⟨x, hx, h⟩
    obtain ⟨i, hi, h2, rfl⟩ := mem_secs.1 hx
    exact ⟨i, List.mem_range.2 hi, by simp only [covB, decide_eq_true_eq]; exact ⟨h2, Or.inr (by simpa using h)⟩⟩

theorem info9 : (Try.prog.info? 9).map (fun i => (i.zero, i.size, i.bytes)) = some (some (.string ⟨#[]⟩), 1, 16) := by kernel_rfl
theorem make9 (n : Nat) (h : n ≤ 4096) (w : World) : (Instr.makeSlice 23 (.int .i64 0) (.int .i64 n)).run Try.prog w = .ok (.slice (some ⟨w.heap.size, 0, none⟩) 0 n) (w.alloc (.cells (madeCells #[.string ⟨#[]⟩] n) 9)) := by
  obtain ⟨i0, hi, hz0, hz1, hz2⟩ := info_parts info9
  have := run_make (P := Try.prog) w 23 9 i0 (.string ⟨#[]⟩) Try.underlying23 hi hz0 .i64 .i64 0 n (by omega) (by omega) (by rw [hz2]; omega) (by omega)
  rw [hz1] at this
  simpa [Value.cells] using this

theorem strs_owned {w : World} {base g cap : Nat} {L : List ByteArray} (h : w.ownsRow base 9 1 (.slice (some ⟨g, 0, none⟩) L.length cap) L.length (L.map Value.string)) : Strs w (some ⟨g, 0, none⟩) L.length (fun j => L.getD j ⟨#[]⟩) := by
  refine Or.inr ⟨g, 0, rfl, fun j hj => ?_⟩
  have := h.cells (g := g) rfl j (.string L[j]) (by simp [hj])
  rw [Addr.add_lit] at this
  rw [this]
  simp [List.getD, hj]

set_option maxHeartbeats 1000000 in
theorem model_any (a s : Option Addr) (n c m mc : Nat) (F : Nat → Nat → ByteArray) (name : ByteArray) (Ru : Nat → ByteArray) (w : World) (hn : n ≤ 4096) (hm : m ≤ 4096) (hR : Refs w a n F) (hS : Strs w s m Ru) :
    Calls Try.prog 11 #[.slice a n c, .string name, .slice s m mc] w fun e w' => e = .returned (.int .i64 (cnt n F name Ru m)) ∧ Below w.heap.size w w' := by
  have HR : Hid (Refs w a n F) := hR
  have HS : Hid (Strs w s m Ru) := hS
  clear hR hS
  have hmk := make9 n hn
  obtain ⟨i0, hi, hz0, hz1, hz2⟩ := info_parts info9
  have O1 : Hid ((w.alloc (.cells (madeCells #[.string ⟨#[]⟩] n) 9)).ownsRow w.heap.size 9 1 (.slice (some ⟨w.heap.size, 0, none⟩) 0 n) 0 []) :=
    World.ownsRow_made (base := w.heap.size) (e := 9) (size := 1) w (madeCells #[.string ⟨#[]⟩] n) n (Nat.le_refl _) (by simp only [maxLen]; omega) (by rw [size_madeCells]; omega)
  go_enter Try.func11, Try.ntmps11
  go_wp2
  go_loopw [7, 8] (fun v i wr => ∃ k : Nat, k ≤ n ∧ i = .int .i64 k ∧ v = .slice (some ⟨w.heap.size, 0, none⟩) (secs F name k).length n ∧ Hid (wr.ownsRow w.heap.size 9 1 (.slice (some ⟨w.heap.size, 0, none⟩) (secs F name k).length n) (secs F name k).length ((secs F name k).map Value.string)) ∧ Hid (Below w.heap.size w wr) ∧ Hid (∀ j, j < k → (F j 2).toList = name.toList → ¬ (F j 3).toList = [])) (fun _ i _ => n - (intOf i).toNat)
  case atStart => exact ⟨0, Nat.zero_le _, rfl, rfl, O1, (Below.refl _ _).alloc (Nat.le_refl _) _, fun j h => by omega⟩
  case round =>
    obtain ⟨k, hk, rfl, rfl, hown, hb, hq⟩ := hrel
    have hsl := secs_len F name k
    by_cases hlt : k < n
    · obtain ⟨b, off, rfl, c0, c1, c2, c3⟩ := (HR.out.below hb.out).cells hlt
      by_cases e2 : (F k 2).toList = name.toList
      · have t2 : ((F k 2).toList == name.toList) = true := by simp [e2]
        by_cases e3 : (F k 3).toList = []
        · have t3 : (F k 3).toList.isEmpty = true := by simp [e3]
          have HC : Hid (cnt n F name Ru m = m) := whole_cnt hlt e2 e3 m
          clear e2 e3 hmk hi hz0 hz1 hz2
          go_wp2
          go_ret
          exact ⟨ret_int' (by rw [HC.out]), hb.out⟩
        · have t3 : (F k 3).toList.isEmpty = false := by simp [e3]
          have HQ : Hid (∀ j, j < k + 1 → (F j 2).toList = name.toList → ¬ (F j 3).toList = []) := fun j hj => by
            by_cases e : j = k
            · subst e; exact fun _ => e3
            · exact hq.out j (by omega)
          have HL : Hid (secs F name (k + 1) = secs F name k ++ [F k 3]) := by show _ = _; simp only [secs, if_pos e2]
          clear e2 e3
          go_wp2_with (at_builtin; refine wpList_append_fits _ rfl (.tmp 35) (.tmp 41) 23 rfl w.heap.size 9 i0 1 Try.underlying23 hi hz1 w.heap.size (secs F name k).length n ((secs F name k).map Value.string) rfl (hown.out.alloc _) ⟨wr.heap.size, 0, none⟩ 1 1 [.string (F k 3)] rfl rfl (cell_one_new _ _ _) ?c1 ?c2 ?_)
          case c1 => intro u hu; simp at hu; subst hu; rfl
          case c2 => omega
          intro w2 hown2 hgrow2
          have R1 : Hid (w2.ownsRow w.heap.size 9 1 (.slice (some ⟨w.heap.size, 0, none⟩) (secs F name (k + 1)).length n) (secs F name (k + 1)).length ((secs F name (k + 1)).map Value.string)) := by
            show World.ownsRow _ _ _ _ _ _ _
            rw [HL.out]
            simpa using hown2
          have R2 : Hid (Below w.heap.size w w2) := (hb.out.alloc (by have := hb.out.size; omega) _).grown hgrow2 (by have := hb.out.size; simp; omega) (by intro q hq; simp at hq; omega)
          have HL2 : Hid ((secs F name (k + 1)).length = (secs F name k).length + 1) := by show _ = _; rw [HL.out]; simp
          clear hown2 hgrow2
          go_wp2
          go_roundw
          case rel => exact ⟨k + 1, by omega, by go_num, by rw [HL2.out], R1, R2, HQ⟩
          case measure => simp [intOf]; omega
      · have t2 : ((F k 2).toList == name.toList) = false := by simp [e2]
        have HQ : Hid (∀ j, j < k + 1 → (F j 2).toList = name.toList → ¬ (F j 3).toList = []) := fun j hj => by
          by_cases e : j = k
          · subst e; exact fun h => absurd h e2
          · exact hq.out j (by omega)
        have HL : Hid (secs F name (k + 1) = secs F name k) := by show _ = _; simp only [secs, if_neg e2]
        clear e2 hmk hi hz0 hz1 hz2
        go_wp2
        go_roundw
        case rel => exact ⟨k + 1, by omega, by go_num, by rw [HL.out], by rw [HL.out]; exact hown, hb, HQ⟩
        case measure => simp [intOf]; omega
    · obtain rfl : k = n := by omega
      have HA : Hid (∀ r, anyB k F name r = inB (secs F name k) r) := fun r => secs_any hq.out
      have HI : Hid (Strs wr (some ⟨w.heap.size, 0, none⟩) (secs F name k).length (fun j => (secs F name k).getD j ⟨#[]⟩)) := strs_owned hown.out
      have HS2 : Hid (Strs wr s m Ru) := HS.out.below hb.out
      clear hmk hi hz0 hz1 hz2 hown hq
      go_wp2
      go_loop [9, 10] (fun t i => ∃ j : Nat, j ≤ m ∧ i = .int .i64 j ∧ t = .int .i64 (cnt k F name Ru j)) (fun _ i => m - (intOf i).toNat)
      case atStart => exact ⟨0, Nat.zero_le _, rfl, rfl⟩
      case round =>
        obtain ⟨j, hj, rfl, rfl⟩ := hrel
        have hcl := cnt_le k F name Ru j
        by_cases hlt2 : j < m
        · obtain ⟨b, off, rfl, c0⟩ := HS2.out.cell hlt2
          have C : Hid _ := in_any (some ⟨w.heap.size, 0, none⟩) k (secs F name k) (Ru j) wr (by omega) HI.out
          have hcn : Hid (cnt k F name Ru (j + 1) = cnt k F name Ru j + if anyB k F name (Ru j) then 1 else 0) := rfl
          cases hv : inB (secs F name k) (Ru j) with
          | true =>
            rw [hv] at C
            have hcn' : Hid (cnt k F name Ru (j + 1) = cnt k F name Ru j + 1) := by rw [hcn.out, HA.out, hv]; rfl
            clear hv hcn
            go_wp2_with fail
            refine Calls.mono C.out ?_
            rintro e w1 ⟨rfl, rfl⟩
            go_wp2
            go_round
            case rel => exact ⟨j + 1, by omega, by go_num, by rw [hcn'.out]; go_num⟩
            case measure => simp [intOf]; omega
          | false =>
            rw [hv] at C
            have hcn' : Hid (cnt k F name Ru (j + 1) = cnt k F name Ru j) := by rw [hcn.out, HA.out, hv]; rfl
            clear hv hcn
            go_wp2_with fail
            refine Calls.mono C.out ?_
            rintro e w1 ⟨rfl, rfl⟩
            go_wp2
            go_round
            case rel => exact ⟨j + 1, by omega, by go_num, by rw [hcn'.out]⟩
            case measure => simp [intOf]; omega
        · obtain rfl : j = m := by omega
          go_wp2
          go_ret
          exact ⟨rfl, hb.out⟩
end Go.Proofs.Qxb6612468a
