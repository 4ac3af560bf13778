import Derived.Test.Qxb6612720aRows
import Derived.WalkKit
import Derived.WalkSpells
import Derived.WalkLawsBesides
import Derived.Deep.OwnRows
namespace Go.Proofs.Qxb6612720a
open Go.RowKit
set_option linter.unusedVariables false

def SomeBool (e : Ending) : Prop := ∃ r : Bool, e = .returned (.bool r)

/-- A slice of strings. -/
def Strs (w : World) (a : Option Addr) (m : Nat) (Ru : Nat → ByteArray) : Prop := m = 0 ∨ ∃ b off, a = some ⟨b, off, none⟩ ∧ ∀ j, j < m → w.cell? ⟨b, off + j, none⟩ = some (.string (Ru j))
theorem Strs.cell {w : World} {a : Option Addr} {m : Nat} {Ru : Nat → ByteArray} (h : Strs w a m Ru) {j : Nat} (hj : j < m) : ∃ b off, a = some ⟨b, off, none⟩ ∧ w.cell? ⟨b, off + j, none⟩ = some (.string (Ru j)) := by
  rcases h with h | ⟨b, off, rfl, hc⟩
  · omega
  · exact ⟨b, off, rfl, hc j hj⟩
theorem Strs.below {w w' : World} {a : Option Addr} {m : Nat} {Ru : Nat → ByteArray} (h : Strs w a m Ru) (hb : Below w.heap.size w w') : Strs w' a m Ru := by
  rcases h with h | ⟨b, off, rfl, hc⟩
  · exact Or.inl h
  · exact Or.inr ⟨b, off, rfl, fun j hj => (hb.cell (p := ⟨b, off + j, none⟩) (World.block_lt_of_cell? w _ (hc j hj))).trans (hc j hj)⟩

/-- A list of strings as a value, and what it holds. -/
structure Ls where
  a : Option Addr
  n : Nat
  c : Nat
  s : Nat → ByteArray
structure Lst (w : World) (l : Ls) : Prop where
  le : l.n ≤ maxLen
  st : Strs w l.a l.n l.s
theorem Lst.below {w w' : World} {l : Ls} (h : Lst w l) (hb : Below w.heap.size w w') : Lst w' l := ⟨h.le, h.st.below hb⟩
/-- A policy asked for. -/
structure Pl where
  T : ByteArray
  i : Ls
  j : Ls
  k : Ls
  e : Bool
  s : Ls
  d : Ls
  y : Ls
structure PolAt (w : World) (b o : Nat) (p : Pl) : Prop where
  c0 : w.cell? ⟨b, o, none⟩ = some (.string p.T)
  c1 : w.cell? ⟨b, o + 1, none⟩ = some (.slice p.i.a p.i.n p.i.c)
  c2 : w.cell? ⟨b, o + 2, none⟩ = some (.slice p.j.a p.j.n p.j.c)
  c3 : w.cell? ⟨b, o + 3, none⟩ = some (.slice p.k.a p.k.n p.k.c)
  c4 : w.cell? ⟨b, o + 4, none⟩ = some (.bool p.e)
  c5 : w.cell? ⟨b, o + 5, none⟩ = some (.slice p.s.a p.s.n p.s.c)
  c6 : w.cell? ⟨b, o + 6, none⟩ = some (.slice p.d.a p.d.n p.d.c)
  c7 : w.cell? ⟨b, o + 7, none⟩ = some (.slice p.y.a p.y.n p.y.c)
  l1 : Lst w p.i
  l2 : Lst w p.j
  l3 : Lst w p.k
  l5 : Lst w p.s
  l6 : Lst w p.d
  l7 : Lst w p.y
theorem PolAt.below {w w' : World} {b o : Nat} {p : Pl} (h : PolAt w b o p) (hb : Below w.heap.size w w') : PolAt w' b o p := by
  have hlt := World.block_lt_of_cell? w _ h.c0
  exact ⟨(hb.cell (p := ⟨b, o, none⟩) hlt).trans h.c0, (hb.cell (p := ⟨b, o + 1, none⟩) hlt).trans h.c1, (hb.cell (p := ⟨b, o + 2, none⟩) hlt).trans h.c2, (hb.cell (p := ⟨b, o + 3, none⟩) hlt).trans h.c3, (hb.cell (p := ⟨b, o + 4, none⟩) hlt).trans h.c4, (hb.cell (p := ⟨b, o + 5, none⟩) hlt).trans h.c5, (hb.cell (p := ⟨b, o + 6, none⟩) hlt).trans h.c6, (hb.cell (p := ⟨b, o + 7, none⟩) hlt).trans h.c7, h.l1.below hb, h.l2.below hb, h.l3.below hb, h.l5.below hb, h.l6.below hb, h.l7.below hb⟩
def Pols (w : World) (a : Option Addr) (n : Nat) (P : Nat → Pl) : Prop := n = 0 ∨ ∃ b off, a = some ⟨b, off, none⟩ ∧ ∀ i, i < n → PolAt w b (off + i * 8) (P i)
theorem Pols.below {w w' : World} {a : Option Addr} {n : Nat} {P : Nat → Pl} (h : Pols w a n P) (hb : Below w.heap.size w w') : Pols w' a n P := by
  rcases h with h | ⟨b, off, rfl, hc⟩
  · exact Or.inl h
  · exact Or.inr ⟨b, off, rfl, fun i hi => (hc i hi).below hb⟩
theorem Pols.at {w : World} {a : Option Addr} {n : Nat} {P : Nat → Pl} (h : Pols w a n P) {i : Nat} (hi : i < n) : ∃ b off, a = some ⟨b, off, none⟩ ∧ PolAt w b (off + i * 8) (P i) := by
  rcases h with h | ⟨b, off, rfl, hc⟩
  · omega
  · exact ⟨b, off, rfl, hc i hi⟩


/-- What addListBytes hands back. -/
def AddR (n0 : Int) (m : Nat) (e : Ending) : Prop := ∃ r : Int, e = .returned (.int .i64 r) ∧ 0 ≤ r ∧ r ≤ 2097152 ∧ (r ≤ 1048576 → n0 ≤ 1048576 ∧ m ≤ 65536)

set_option maxHeartbeats 1000000 in
theorem addl_any (n0 : Int) (a : Option Addr) (m mc : Nat) (Ru : Nat → ByteArray) (w : World) (h0 : 0 ≤ n0) (h1 : n0 ≤ 4194304) (hm : m ≤ maxLen) (hS : Strs w a m Ru) :
    Calls Try.prog 21 #[.int .i64 n0, .slice a m mc] w fun e w' => AddR n0 m e ∧ w' = w := by
  unfold maxLen at hm
  have HS : Hid (Strs w a m Ru) := hS
  clear hS
  by_cases t1 : 1048576 < n0
  · go_enter Try.func21, Try.ntmps21
    go_wp2
    go_ret
    exact ⟨⟨_, rfl, by omega, by omega, by omega⟩, rfl⟩
  by_cases t2 : 65536 < m
  · go_enter Try.func21, Try.ntmps21
    go_wp2
    go_ret
    exact ⟨⟨_, rfl, by omega, by omega, by omega⟩, rfl⟩
  go_enter Try.func21, Try.ntmps21
  go_wp2
  go_loop [0, 5] (fun t i => ∃ (k : Nat) (z : Int), k ≤ m ∧ i = .int .i64 k ∧ t = .int .i64 z ∧ 0 ≤ z ∧ z ≤ 2097152) (fun _ i => m - (intOf i).toNat)
  case atStart => exact ⟨0, _, Nat.zero_le _, rfl, rfl, by omega, by omega⟩
  case round =>
    obtain ⟨k, z, hk, rfl, rfl, hz0, hz1⟩ := hrel
    by_cases hlt : k < m
    · obtain ⟨b, off, rfl, c0⟩ := HS.out.cell hlt
      by_cases t3 : 1048576 < z
      · go_wp2
        go_ret
        exact ⟨⟨_, rfl, by omega, by omega, by omega⟩, rfl⟩
      by_cases t4 : 1048576 < (Ru k).size
      · go_wp2
        go_ret
        exact ⟨⟨_, rfl, by omega, by omega, by omega⟩, rfl⟩
      go_wp2
      go_round
      case rel => exact ⟨k + 1, _, by omega, by go_num, rfl, by omega, by omega⟩
      case measure => simp [intOf]; omega
    · go_wp2
      go_ret
      exact ⟨⟨_, rfl, by omega, by omega, by omega⟩, rfl⟩

def FitR (n sn m : Nat) (P : Nat → Pl) (e : Ending) : Prop := ∃ r : Bool, e = .returned (.bool r) ∧ (r = true → n ≤ 65536 ∧ sn ≤ 65536 ∧ m ≤ 1048576 ∧ ∀ j, j < n → (P j).y.n ≤ 65536)

set_option maxHeartbeats 2000000 in
set_option maxRecDepth 100000 in
theorem fit_any (a s q : Option Addr) (n c sn sc m mc : Nat) (P : Nat → Pl) (Ru : Nat → ByteArray) (w : World) (hn : n ≤ maxLen) (hsn : sn ≤ maxLen) (hm : m ≤ maxLen) (hP : Pols w a n P) (hS : Strs w s sn Ru) :
    Calls Try.prog 7 #[.slice a n c, .slice s sn sc, .slice q m mc] w fun e w' => FitR n sn m P e ∧ w' = w := by
  have HP : Hid (Pols w a n P) := hP
  have HS : Hid (Strs w s sn Ru) := hS
  have HM : Hid (sn ≤ maxLen) := hsn
  unfold maxLen at hn hm
  clear hP hS hsn
  by_cases t1 : 65536 < n
  · go_enter Try.func7, Try.ntmps7
    go_wp2
    go_ret
    exact ⟨⟨_, rfl, by simp⟩, rfl⟩
  by_cases t2 : 1048576 < m
  · go_enter Try.func7, Try.ntmps7
    go_wp2
    go_ret
    exact ⟨⟨_, rfl, by simp⟩, rfl⟩
  go_enter Try.func7, Try.ntmps7
  go_wp2_with fail
  refine (addl_any _ _ _ _ Ru _ (by omega) (by omega) HM.out HS.out).mono ?_
  rintro e w1 ⟨⟨r0, rfl, ha, hb, hsn⟩, rfl⟩
  have HSN : Hid (r0 ≤ 1048576 → sn ≤ 65536) := fun h => (hsn h).2
  clear hsn
  go_wp2
  go_loop [7, 8] (fun t i => ∃ (k : Nat) (z : Int), k ≤ n ∧ i = .int .i64 k ∧ t = .int .i64 z ∧ 0 ≤ z ∧ z ≤ 2097152 ∧ Hid (z ≤ 1048576 → sn ≤ 65536 ∧ ∀ j, j < k → (P j).y.n ≤ 65536)) (fun _ i => n - (intOf i).toNat)
  case atStart => exact ⟨0, _, Nat.zero_le _, rfl, rfl, by omega, by omega, fun hz => ⟨HSN.out hz, fun j h => by omega⟩⟩
  case round =>
    obtain ⟨k, z, hk, rfl, rfl, hz0, hz1, hq⟩ := hrel
    by_cases hlt : k < n
    · obtain ⟨b, off, rfl, hp⟩ := HP.out.at hlt
      by_cases t3 : 1048576 < z
      · go_wp2
        go_ret
        exact ⟨⟨_, rfl, by simp⟩, rfl⟩
      have HA : Hid (PolAt _ b (off + k * 8) (P k)) := hp
      have c0 := hp.c0
      have c1 := hp.c1
      have c2 := hp.c2
      have c3 := hp.c3
      have c5 := hp.c5
      have c6 := hp.c6
      have c7 := hp.c7
      clear hp
      by_cases t4 : 1048576 < (P k).T.size
      · go_wp2
        go_ret
        exact ⟨⟨_, rfl, by simp⟩, rfl⟩
      go_wp2_with fail
      refine (addl_any _ _ _ _ _ _ (by omega) (by omega) HA.out.l1.le HA.out.l1.st).mono ?_
      rintro e w2 ⟨⟨r1, rfl, hr10, hr11, _⟩, rfl⟩
      go_wp2_with fail
      refine (addl_any _ _ _ _ _ _ (by omega) (by omega) HA.out.l2.le HA.out.l2.st).mono ?_
      rintro e w2 ⟨⟨r2, rfl, hr20, hr21, _⟩, rfl⟩
      go_wp2_with fail
      refine (addl_any _ _ _ _ _ _ (by omega) (by omega) HA.out.l3.le HA.out.l3.st).mono ?_
      rintro e w2 ⟨⟨r3, rfl, hr30, hr31, _⟩, rfl⟩
      go_wp2_with fail
      refine (addl_any _ _ _ _ _ _ (by omega) (by omega) HA.out.l5.le HA.out.l5.st).mono ?_
      rintro e w2 ⟨⟨r4, rfl, hr40, hr41, _⟩, rfl⟩
      go_wp2_with fail
      refine (addl_any _ _ _ _ _ _ (by omega) (by omega) HA.out.l6.le HA.out.l6.st).mono ?_
      rintro e w2 ⟨⟨r5, rfl, hr50, hr51, _⟩, rfl⟩
      go_wp2_with fail
      refine (addl_any _ _ _ _ _ _ (by omega) (by omega) HA.out.l7.le HA.out.l7.st).mono ?_
      rintro e w2 ⟨⟨r6, rfl, hr60, hr61, hr62⟩, rfl⟩
      have HL : Hid (r6 ≤ 1048576 → sn ≤ 65536 ∧ ∀ j, j < k + 1 → (P j).y.n ≤ 65536) := fun h => ⟨(hq.out (by omega)).1, fun j hj => by
        by_cases e : j = k
        · subst e; exact (hr62 h).2
        · exact (hq.out (by omega)).2 j (by omega)⟩
      clear hr62 hq
      go_wp2
      go_round
      case rel => exact ⟨k + 1, _, by omega, by go_num, rfl, by omega, by omega, HL⟩
      case measure => simp [intOf]; omega
    · obtain rfl : k = n := by omega
      by_cases t3 : z ≤ 1048576
      · have HL : Hid (sn ≤ 65536 ∧ ∀ j, j < k → (P j).y.n ≤ 65536) := hq.out t3
        clear hq
        go_wp2
        go_ret
        exact ⟨⟨_, rfl, fun _ => ⟨by omega, HL.out.1, by omega, HL.out.2⟩⟩, rfl⟩
      · clear hq
        go_wp2
        go_ret
        exact ⟨⟨_, rfl, fun h => by simp at h⟩, rfl⟩
end Go.Proofs.Qxb6612720a
