import Derived.Test.Qxb6612720aPa
import Derived.Deep.Cut
namespace Go.Proofs.Qxb6612720a
open Go.RowKit
set_option linter.unusedVariables false

/-- A piece of a code, by its path. -/
def pick : List Nat → Code → Code
  | 0 :: p, .seq a _ => pick p a
  | 1 :: p, .seq _ b => pick p b
  | 0 :: p, .block _ c => pick p c
  | 0 :: p, .loop c => pick p c
  | [], c => c
  | _, _ => .skip
noncomputable def b6 : Code := (Try.f6.body).getD .skip
noncomputable def round6 : Code := pick [1, 1, 1, 1, 1, 0, 1, 0, 0] b6
noncomputable def tail6 : Code := pick [1, 1, 1, 1, 1, 1] b6
noncomputable def x1 : Code := pick [1, 0, 0] round6
noncomputable def x2 : Code := pick [1, 1, 1, 1, 1, 1, 1] x1
noncomputable def x3 : Code := pick [1, 1, 1, 1] x2
noncomputable def x4 : Code := pick [1, 1, 1, 1] x3
noncomputable def x5 : Code := pick [1, 1, 1, 1] x4
noncomputable def x6 : Code := pick [1, 1, 1, 1] x5

set_option maxRecDepth 100000 in
/-- The frame of zzBytes at a statement's head: the arguments, the sum z, the index k, whatever else. -/
def I6 (A S M : Value) (z : Int) (k : Nat) (act : Act) : Prop := ∃ g : Nat → Value, act = ⟨#[A, g 1, S, M, g 4, g 5, g 6, g 7, g 8, g 9, g 10, .int .i64 z, .int .i64 k, g 13, g 14, g 15, g 16, g 17, g 18, g 19, g 20, g 21, g 22, g 23, g 24, g 25, g 26, g 27, g 28, g 29, g 30, g 31, g 32, g 33, g 34, g 35, g 36, g 37, g 38, g 39, g 40, g 41, g 42, g 43, g 44, g 45, g 46, g 47, g 48, g 49, g 50, g 51, g 52, g 53, g 54, g 55, g 56, g 57, g 58, g 59, g 60, g 61, g 62, g 63, g 64, g 65, g 66, g 67, g 68, g 69, g 70, g 71, g 72, g 73, g 74, g 75, g 76, g 77, g 78, g 79, g 80, g 81, g 82, g 83, g 84, g 85, g 86, g 87, g 88, g 89, g 90, g 91, g 92, g 93, g 94, g 95, g 96, g 97, g 98, g 99, g 100, g 101, g 102, g 103, g 104, g 105, g 106, g 107, g 108, g 109, g 110, g 111, g 112, g 113, g 114, g 115, g 116, g 117, g 118, g 119, g 120, g 121, g 122, g 123, g 124, g 125, g 126, g 127, g 128, g 129, g 130, g 131, g 132, g 133, g 134, g 135, g 136, g 137, g 138, g 139, g 140, g 141, g 142, g 143, g 144, g 145, g 146, g 147, g 148, g 149, g 150, g 151, g 152, g 153, g 154, g 155, g 156, g 157, g 158, g 159, g 160, g 161, g 162, g 163, g 164, g 165, g 166, g 167, g 168, g 169, g 170, g 171, g 172, g 173, g 174, g 175, g 176, g 177, g 178, g 179, g 180, g 181, g 182, g 183, g 184, g 185, g 186, g 187, g 188, g 189, g 190, g 191, g 192, g 193, g 194, g 195, g 196, g 197, g 198, g 199, g 200, g 201, g 202, g 203, g 204, g 205, g 206, g 207, g 208, g 209, g 210, g 211, g 212, g 213, g 214, g 215, g 216, g 217, g 218, g 219, g 220, g 221, g 222, g 223, g 224, g 225, g 226, g 227, g 228, g 229, g 230, g 231, g 232, g 233, g 234, g 235, g 236, g 237, g 238, g 239, g 240, g 241, g 242, g 243, g 244, g 245, g 246, g 247, g 248, g 249, g 250, g 251, g 252, g 253, g 254, g 255, g 256, g 257, g 258, g 259, g 260, g 261, g 262, g 263, g 264, g 265, g 266, g 267, g 268, g 269, g 270, g 271, g 272, g 273, g 274, g 275, g 276, g 277, g 278, g 279, g 280, g 281, g 282, g 283, g 284, g 285, g 286, g 287, g 288, g 289, g 290, g 291, g 292, g 293, g 294, g 295, g 296, g 297, g 298, g 299, g 300, g 301, g 302, g 303, g 304, g 305, g 306, g 307, g 308, g 309, g 310, g 311, g 312, g 313, g 314, g 315, g 316, g 317, g 318, g 319, g 320, g 321, g 322, g 323, g 324, g 325, g 326, g 327, g 328, g 329, g 330, g 331, g 332, g 333, g 334, g 335, g 336, g 337, g 338, g 339, g 340, g 341, g 342, g 343, g 344, g 345, g 346, g 347, g 348, g 349, g 350, g 351, g 352, g 353, g 354, g 355, g 356, g 357, g 358, g 359, g 360, g 361, g 362, g 363, g 364, g 365, g 366, g 367, g 368, g 369, g 370, g 371, g 372, g 373, g 374, g 375, g 376, g 377, g 378, g 379, g 380, g 381, g 382, g 383, g 384, g 385, g 386, g 387, g 388, g 389, g 390], []⟩
theorem fr_list (fr : Array Value) (N : Nat) (hs : fr.size = N) : fr = ((List.range N).map fun i => fr[i]!).toArray := by
  apply Array.ext
  · simp [hs]
  · intro i h1 h2
    simp [h1]
theorem fr_at {fr : Array Value} {i : Nat} {v : Value} (h : fr[i]? = some v) : v = fr[i]! := by
  rw [Array.getElem?_eq_some_iff] at h
  obtain ⟨hlt, he⟩ := h
  rw [getElem!_pos fr i hlt, he]
set_option maxRecDepth 100000 in
set_option maxHeartbeats 2000000 in
theorem I6_mk {A S M : Value} {z : Int} {k : Nat} (fr : Array Value) (hs : fr.size = 391) (h0 : fr[0]? = some A) (h2 : fr[2]? = some S) (h3 : fr[3]? = some M) (h11 : fr[11]? = some (.int .i64 z)) (h12 : fr[12]? = some (.int .i64 k)) : I6 A S M z k ⟨fr, []⟩ := by
  refine ⟨fun i => fr[i]!, ?_⟩
  rw [fr_at h0, fr_at h2, fr_at h3, fr_at h11, fr_at h12]
  exact congrArg (fun f => Act.mk f []) (fr_list fr 391 hs)

set_option maxHeartbeats 4000000 in
set_option maxRecDepth 100000 in
theorem seg6 (a : Option Addr) (n c k : Nat) (S M : Value) (p : Pl) (b off : Nat) (w : World) (Q : Exit → Act → World → Prop) (hn : n ≤ 9223372036854775807) (hk : k < n) (hp : PolAt w b (off + k * 8) p)
    (hret : ∀ fr v, fr[10]? = some (.bool v) → Q .ret ⟨fr, []⟩ w) (hnext : ∀ z' act', 0 ≤ z' → z' ≤ 1048576 → I6 (.slice (some ⟨b, off, none⟩) n c) S M z' k act' → Q .normal act' w)
    (z : Int) (act : Act) (hz0 : 0 ≤ z) (hz1 : z ≤ 1048576) (hI : I6 (.slice (some ⟨b, off, none⟩) n c) S M z k act) :
    Code.wp Try.prog x6 Q act w := by
  obtain ⟨g, rfl⟩ := hI
  have HR : Hid (∀ fr v, fr[10]? = some (.bool v) → Q .ret ⟨fr, []⟩ w) := hret
  have HN : Hid _ := hnext
  have HP : Hid (PolAt w b (off + k * 8) p) := hp
  have b7 := hp.l7.le
  unfold maxLen at b7
  have c0 := hp.c0
  have c7 := hp.c7
  clear hp hret hnext
  conv => arg 2; whnf
  go_wp2
  all_goals first
    | exact HR.out _ _ rfl
    | skip
  go_loop [11, 18] (fun t i => ∃ (k2 : Nat) (z2 : Int), k2 ≤ p.y.n ∧ i = .int .i64 k2 ∧ t = .int .i64 z2 ∧ 0 ≤ z2 ∧ z2 ≤ 1048576) (fun _ i => p.y.n - (intOf i).toNat)
  case atStart => exact ⟨0, _, Nat.zero_le _, rfl, rfl, by omega, by omega⟩
  case round =>
    obtain ⟨k2, z2, hk2, rfl, rfl, hz20, hz21⟩ := hrel
    by_cases hlt : k2 < p.y.n
    · obtain ⟨b', off', ea, d0⟩ := HP.out.l7.st.cell hlt
      rw [ea] at c7
      go_wp2
      case roundEnd =>
        go_round
        case rel => exact ⟨k2 + 1, _, by omega, by go_num, rfl, by omega, by omega⟩
        case measure => simp [intOf]; omega
      all_goals exact HR.out _ _ rfl
    · go_wp2
      exact HN.out z2 _ hz20 hz21 (I6_mk _ rfl rfl rfl rfl rfl rfl)

set_option maxHeartbeats 4000000 in
set_option maxRecDepth 100000 in
theorem seg5 (X : Code) (a : Option Addr) (n c k : Nat) (S M : Value) (p : Pl) (b off : Nat) (w : World) (Q : Exit → Act → World → Prop) (hn : n ≤ 9223372036854775807) (hk : k < n) (hp : PolAt w b (off + k * 8) p)
    (hret : ∀ fr v, fr[10]? = some (.bool v) → Q .ret ⟨fr, []⟩ w) (hnext : ∀ z' act', 0 ≤ z' → z' ≤ 1048576 → I6 (.slice (some ⟨b, off, none⟩) n c) S M z' k act' → Code.wp Try.prog X Q act' w)
    (z : Int) (act : Act) (hz0 : 0 ≤ z) (hz1 : z ≤ 1048576) (hI : I6 (.slice (some ⟨b, off, none⟩) n c) S M z k act) :
    Code.wp Try.prog (Code.seq (pick [0] x5) (Code.seq (pick [1, 0] x5) (Code.seq (pick [1, 1, 0] x5) (Code.seq (pick [1, 1, 1, 0] x5) X)))) Q act w := by
  obtain ⟨g, rfl⟩ := hI
  have HR : Hid (∀ fr v, fr[10]? = some (.bool v) → Q .ret ⟨fr, []⟩ w) := hret
  have HN : Hid _ := hnext
  have HP : Hid (PolAt w b (off + k * 8) p) := hp
  have b6 := hp.l6.le
  unfold maxLen at b6
  have c0 := hp.c0
  have c6 := hp.c6
  clear hp hret hnext
  conv => arg 2; arg 1; whnf
  conv => arg 2; arg 2; arg 1; whnf
  conv => arg 2; arg 2; arg 2; arg 1; whnf
  conv => arg 2; arg 2; arg 2; arg 2; arg 1; whnf
  go_wp2
  all_goals first
    | exact HR.out _ _ rfl
    | skip
  go_loop [11, 17] (fun t i => ∃ (k2 : Nat) (z2 : Int), k2 ≤ p.d.n ∧ i = .int .i64 k2 ∧ t = .int .i64 z2 ∧ 0 ≤ z2 ∧ z2 ≤ 1048576) (fun _ i => p.d.n - (intOf i).toNat)
  case atStart => exact ⟨0, _, Nat.zero_le _, rfl, rfl, by omega, by omega⟩
  case round =>
    obtain ⟨k2, z2, hk2, rfl, rfl, hz20, hz21⟩ := hrel
    by_cases hlt : k2 < p.d.n
    · obtain ⟨b', off', ea, d0⟩ := HP.out.l6.st.cell hlt
      rw [ea] at c6
      go_wp2
      case roundEnd =>
        go_round
        case rel => exact ⟨k2 + 1, _, by omega, by go_num, rfl, by omega, by omega⟩
        case measure => simp [intOf]; omega
      all_goals exact HR.out _ _ rfl
    · go_wp2
      exact HN.out z2 _ hz20 hz21 (I6_mk _ rfl rfl rfl rfl rfl rfl)

set_option maxHeartbeats 4000000 in
set_option maxRecDepth 100000 in
theorem seg4 (X : Code) (a : Option Addr) (n c k : Nat) (S M : Value) (p : Pl) (b off : Nat) (w : World) (Q : Exit → Act → World → Prop) (hn : n ≤ 9223372036854775807) (hk : k < n) (hp : PolAt w b (off + k * 8) p)
    (hret : ∀ fr v, fr[10]? = some (.bool v) → Q .ret ⟨fr, []⟩ w) (hnext : ∀ z' act', 0 ≤ z' → z' ≤ 1048576 → I6 (.slice (some ⟨b, off, none⟩) n c) S M z' k act' → Code.wp Try.prog X Q act' w)
    (z : Int) (act : Act) (hz0 : 0 ≤ z) (hz1 : z ≤ 1048576) (hI : I6 (.slice (some ⟨b, off, none⟩) n c) S M z k act) :
    Code.wp Try.prog (Code.seq (pick [0] x4) (Code.seq (pick [1, 0] x4) (Code.seq (pick [1, 1, 0] x4) (Code.seq (pick [1, 1, 1, 0] x4) X)))) Q act w := by
  obtain ⟨g, rfl⟩ := hI
  have HR : Hid (∀ fr v, fr[10]? = some (.bool v) → Q .ret ⟨fr, []⟩ w) := hret
  have HN : Hid _ := hnext
  have HP : Hid (PolAt w b (off + k * 8) p) := hp
  have b5 := hp.l5.le
  unfold maxLen at b5
  have c0 := hp.c0
  have c5 := hp.c5
  clear hp hret hnext
  conv => arg 2; arg 1; whnf
  conv => arg 2; arg 2; arg 1; whnf
  conv => arg 2; arg 2; arg 2; arg 1; whnf
  conv => arg 2; arg 2; arg 2; arg 2; arg 1; whnf
  go_wp2
  all_goals first
    | exact HR.out _ _ rfl
    | skip
  go_loop [11, 16] (fun t i => ∃ (k2 : Nat) (z2 : Int), k2 ≤ p.s.n ∧ i = .int .i64 k2 ∧ t = .int .i64 z2 ∧ 0 ≤ z2 ∧ z2 ≤ 1048576) (fun _ i => p.s.n - (intOf i).toNat)
  case atStart => exact ⟨0, _, Nat.zero_le _, rfl, rfl, by omega, by omega⟩
  case round =>
    obtain ⟨k2, z2, hk2, rfl, rfl, hz20, hz21⟩ := hrel
    by_cases hlt : k2 < p.s.n
    · obtain ⟨b', off', ea, d0⟩ := HP.out.l5.st.cell hlt
      rw [ea] at c5
      go_wp2
      case roundEnd =>
        go_round
        case rel => exact ⟨k2 + 1, _, by omega, by go_num, rfl, by omega, by omega⟩
        case measure => simp [intOf]; omega
      all_goals exact HR.out _ _ rfl
    · go_wp2
      exact HN.out z2 _ hz20 hz21 (I6_mk _ rfl rfl rfl rfl rfl rfl)

set_option maxHeartbeats 4000000 in
set_option maxRecDepth 100000 in
theorem seg3 (X : Code) (a : Option Addr) (n c k : Nat) (S M : Value) (p : Pl) (b off : Nat) (w : World) (Q : Exit → Act → World → Prop) (hn : n ≤ 9223372036854775807) (hk : k < n) (hp : PolAt w b (off + k * 8) p)
    (hret : ∀ fr v, fr[10]? = some (.bool v) → Q .ret ⟨fr, []⟩ w) (hnext : ∀ z' act', 0 ≤ z' → z' ≤ 1048576 → I6 (.slice (some ⟨b, off, none⟩) n c) S M z' k act' → Code.wp Try.prog X Q act' w)
    (z : Int) (act : Act) (hz0 : 0 ≤ z) (hz1 : z ≤ 1048576) (hI : I6 (.slice (some ⟨b, off, none⟩) n c) S M z k act) :
    Code.wp Try.prog (Code.seq (pick [0] x3) (Code.seq (pick [1, 0] x3) (Code.seq (pick [1, 1, 0] x3) (Code.seq (pick [1, 1, 1, 0] x3) X)))) Q act w := by
  obtain ⟨g, rfl⟩ := hI
  have HR : Hid (∀ fr v, fr[10]? = some (.bool v) → Q .ret ⟨fr, []⟩ w) := hret
  have HN : Hid _ := hnext
  have HP : Hid (PolAt w b (off + k * 8) p) := hp
  have b3 := hp.l3.le
  unfold maxLen at b3
  have c0 := hp.c0
  have c3 := hp.c3
  clear hp hret hnext
  conv => arg 2; arg 1; whnf
  conv => arg 2; arg 2; arg 1; whnf
  conv => arg 2; arg 2; arg 2; arg 1; whnf
  conv => arg 2; arg 2; arg 2; arg 2; arg 1; whnf
  go_wp2
  all_goals first
    | exact HR.out _ _ rfl
    | skip
  go_loop [11, 15] (fun t i => ∃ (k2 : Nat) (z2 : Int), k2 ≤ p.k.n ∧ i = .int .i64 k2 ∧ t = .int .i64 z2 ∧ 0 ≤ z2 ∧ z2 ≤ 1048576) (fun _ i => p.k.n - (intOf i).toNat)
  case atStart => exact ⟨0, _, Nat.zero_le _, rfl, rfl, by omega, by omega⟩
  case round =>
    obtain ⟨k2, z2, hk2, rfl, rfl, hz20, hz21⟩ := hrel
    by_cases hlt : k2 < p.k.n
    · obtain ⟨b', off', ea, d0⟩ := HP.out.l3.st.cell hlt
      rw [ea] at c3
      go_wp2
      case roundEnd =>
        go_round
        case rel => exact ⟨k2 + 1, _, by omega, by go_num, rfl, by omega, by omega⟩
        case measure => simp [intOf]; omega
      all_goals exact HR.out _ _ rfl
    · go_wp2
      exact HN.out z2 _ hz20 hz21 (I6_mk _ rfl rfl rfl rfl rfl rfl)

set_option maxHeartbeats 4000000 in
set_option maxRecDepth 100000 in
theorem seg2 (X : Code) (a : Option Addr) (n c k : Nat) (S M : Value) (p : Pl) (b off : Nat) (w : World) (Q : Exit → Act → World → Prop) (hn : n ≤ 9223372036854775807) (hk : k < n) (hp : PolAt w b (off + k * 8) p)
    (hret : ∀ fr v, fr[10]? = some (.bool v) → Q .ret ⟨fr, []⟩ w) (hnext : ∀ z' act', 0 ≤ z' → z' ≤ 1048576 → I6 (.slice (some ⟨b, off, none⟩) n c) S M z' k act' → Code.wp Try.prog X Q act' w)
    (z : Int) (act : Act) (hz0 : 0 ≤ z) (hz1 : z ≤ 1048576) (hI : I6 (.slice (some ⟨b, off, none⟩) n c) S M z k act) :
    Code.wp Try.prog (Code.seq (pick [0] x2) (Code.seq (pick [1, 0] x2) (Code.seq (pick [1, 1, 0] x2) (Code.seq (pick [1, 1, 1, 0] x2) X)))) Q act w := by
  obtain ⟨g, rfl⟩ := hI
  have HR : Hid (∀ fr v, fr[10]? = some (.bool v) → Q .ret ⟨fr, []⟩ w) := hret
  have HN : Hid _ := hnext
  have HP : Hid (PolAt w b (off + k * 8) p) := hp
  have b2 := hp.l2.le
  unfold maxLen at b2
  have c0 := hp.c0
  have c2 := hp.c2
  clear hp hret hnext
  conv => arg 2; arg 1; whnf
  conv => arg 2; arg 2; arg 1; whnf
  conv => arg 2; arg 2; arg 2; arg 1; whnf
  conv => arg 2; arg 2; arg 2; arg 2; arg 1; whnf
  go_wp2
  all_goals first
    | exact HR.out _ _ rfl
    | skip
  go_loop [11, 14] (fun t i => ∃ (k2 : Nat) (z2 : Int), k2 ≤ p.j.n ∧ i = .int .i64 k2 ∧ t = .int .i64 z2 ∧ 0 ≤ z2 ∧ z2 ≤ 1048576) (fun _ i => p.j.n - (intOf i).toNat)
  case atStart => exact ⟨0, _, Nat.zero_le _, rfl, rfl, by omega, by omega⟩
  case round =>
    obtain ⟨k2, z2, hk2, rfl, rfl, hz20, hz21⟩ := hrel
    by_cases hlt : k2 < p.j.n
    · obtain ⟨b', off', ea, d0⟩ := HP.out.l2.st.cell hlt
      rw [ea] at c2
      go_wp2
      case roundEnd =>
        go_round
        case rel => exact ⟨k2 + 1, _, by omega, by go_num, rfl, by omega, by omega⟩
        case measure => simp [intOf]; omega
      all_goals exact HR.out _ _ rfl
    · go_wp2
      exact HN.out z2 _ hz20 hz21 (I6_mk _ rfl rfl rfl rfl rfl rfl)

set_option maxHeartbeats 4000000 in
set_option maxRecDepth 100000 in
theorem seg1 (X : Code) (a : Option Addr) (n c k : Nat) (S M : Value) (p : Pl) (b off : Nat) (w : World) (Q : Exit → Act → World → Prop) (hn : n ≤ 9223372036854775807) (hk : k < n) (hp : PolAt w b (off + k * 8) p)
    (hret : ∀ fr v, fr[10]? = some (.bool v) → Q .ret ⟨fr, []⟩ w) (hnext : ∀ z' act', 0 ≤ z' → z' ≤ 1048576 → I6 (.slice (some ⟨b, off, none⟩) n c) S M z' k act' → Code.wp Try.prog X Q act' w)
    (z : Int) (act : Act) (hz0 : 0 ≤ z) (hz1 : z ≤ 1048576) (hI : I6 (.slice (some ⟨b, off, none⟩) n c) S M z k act) :
    Code.wp Try.prog (Code.seq (pick [0] x1) (Code.seq (pick [1, 0] x1) (Code.seq (pick [1, 1, 0] x1) (Code.seq (pick [1, 1, 1, 0] x1) (Code.seq (pick [1, 1, 1, 1, 0] x1) (Code.seq (pick [1, 1, 1, 1, 1, 0] x1) (Code.seq (pick [1, 1, 1, 1, 1, 1, 0] x1) X))))))) Q act w := by
  obtain ⟨g, rfl⟩ := hI
  have HR : Hid (∀ fr v, fr[10]? = some (.bool v) → Q .ret ⟨fr, []⟩ w) := hret
  have HN : Hid _ := hnext
  have HP : Hid (PolAt w b (off + k * 8) p) := hp
  have b1 := hp.l1.le
  unfold maxLen at b1
  have c0 := hp.c0
  have c1 := hp.c1
  clear hp hret hnext
  conv => arg 2; arg 1; whnf
  conv => arg 2; arg 2; arg 1; whnf
  conv => arg 2; arg 2; arg 2; arg 1; whnf
  conv => arg 2; arg 2; arg 2; arg 2; arg 1; whnf
  conv => arg 2; arg 2; arg 2; arg 2; arg 2; arg 1; whnf
  conv => arg 2; arg 2; arg 2; arg 2; arg 2; arg 2; arg 1; whnf
  conv => arg 2; arg 2; arg 2; arg 2; arg 2; arg 2; arg 2; arg 1; whnf
  go_wp2
  all_goals first
    | exact HR.out _ _ rfl
    | skip
  go_loop [11, 13] (fun t i => ∃ (k2 : Nat) (z2 : Int), k2 ≤ p.i.n ∧ i = .int .i64 k2 ∧ t = .int .i64 z2 ∧ 0 ≤ z2 ∧ z2 ≤ 1048576) (fun _ i => p.i.n - (intOf i).toNat)
  case atStart => exact ⟨0, _, Nat.zero_le _, rfl, rfl, by omega, by omega⟩
  case round =>
    obtain ⟨k2, z2, hk2, rfl, rfl, hz20, hz21⟩ := hrel
    by_cases hlt : k2 < p.i.n
    · obtain ⟨b', off', ea, d0⟩ := HP.out.l1.st.cell hlt
      rw [ea] at c1
      go_wp2
      case roundEnd =>
        go_round
        case rel => exact ⟨k2 + 1, _, by omega, by go_num, rfl, by omega, by omega⟩
        case measure => simp [intOf]; omega
      all_goals exact HR.out _ _ rfl
    · go_wp2
      exact HN.out z2 _ hz20 hz21 (I6_mk _ rfl rfl rfl rfl rfl rfl)

theorem segs_all (a : Option Addr) (n c k : Nat) (S M : Value) (p : Pl) (b off : Nat) (w : World) (Q : Exit → Act → World → Prop) (hn : n ≤ 9223372036854775807) (hk : k < n) (hp : PolAt w b (off + k * 8) p)
    (hret : ∀ fr v, fr[10]? = some (.bool v) → Q .ret ⟨fr, []⟩ w) (hnext : ∀ z' act', 0 ≤ z' → z' ≤ 1048576 → I6 (.slice (some ⟨b, off, none⟩) n c) S M z' k act' → Q .normal act' w)
    (z : Int) (act : Act) (hz0 : 0 ≤ z) (hz1 : z ≤ 1048576) (hI : I6 (.slice (some ⟨b, off, none⟩) n c) S M z k act) :
    Code.wp Try.prog x1 Q act w :=
  seg1 x2 a n c k S M p b off w Q hn hk hp hret (fun z2 act2 p2 q2 i2 =>
  seg2 x3 a n c k S M p b off w Q hn hk hp hret (fun z3 act3 p3 q3 i3 =>
  seg3 x4 a n c k S M p b off w Q hn hk hp hret (fun z4 act4 p4 q4 i4 =>
  seg4 x5 a n c k S M p b off w Q hn hk hp hret (fun z5 act5 p5 q5 i5 =>
  seg5 x6 a n c k S M p b off w Q hn hk hp hret (fun z6 act6 p6 q6 i6 =>
  seg6 a n c k S M p b off w Q hn hk hp hret hnext z6 act6 p6 q6 i6) z5 act5 p5 q5 i5) z4 act4 p4 q4 i4) z3 act3 p3 q3 i3) z2 act2 p2 q2 i2) z act hz0 hz1 hI
end Go.Proofs.Qxb6612720a
