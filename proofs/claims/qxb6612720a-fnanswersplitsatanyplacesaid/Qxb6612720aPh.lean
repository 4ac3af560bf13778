import Derived.Test.Qxb6612720aPg
namespace Go.Proofs.Qxb6612720a
open Go.RowKit
set_option linter.unusedVariables false

def kOf (act : Act) : Nat := (intOf (act.tmps[12]!)).toNat

set_option maxHeartbeats 4000000 in
set_option maxRecDepth 100000 in
theorem tail6_any (A : Value) (s q : Option Addr) (sn sc m mc : Nat) (Ru : Nat → ByteArray) (w : World) (Q : Exit → Act → World → Prop) (hsn : sn ≤ 9223372036854775807) (hm : m ≤ 9223372036854775807) (hS : Strs w s sn Ru)
    (hret : ∀ fr v, fr[10]? = some (.bool v) → Q .ret ⟨fr, []⟩ w) (z : Int) (k : Nat) (act : Act) (hz0 : 0 ≤ z) (hz1 : z ≤ 1048576) (hI : I6 A (.slice s sn sc) (.slice q m mc) z k act) :
    Code.wp Try.prog tail6 Q act w := by
  obtain ⟨g, rfl⟩ := hI
  have HR : Hid (∀ fr v, fr[10]? = some (.bool v) → Q .ret ⟨fr, []⟩ w) := hret
  have HS : Hid (Strs w s sn Ru) := hS
  clear hret hS
  conv => arg 2; whnf
  go_wp2
  all_goals first
    | exact HR.out _ _ rfl
    | skip
  go_loop [11, 19] (fun t i => ∃ (k2 : Nat) (z2 : Int), k2 ≤ sn ∧ i = .int .i64 k2 ∧ t = .int .i64 z2 ∧ 0 ≤ z2 ∧ z2 ≤ 1048576) (fun _ i => sn - (intOf i).toNat)
  case atStart => exact ⟨0, _, Nat.zero_le _, rfl, rfl, by omega, by omega⟩
  case round =>
    obtain ⟨k2, z2, hk2, rfl, rfl, hz20, hz21⟩ := hrel
    by_cases hlt : k2 < sn
    · obtain ⟨b', off', rfl, d0⟩ := HS.out.cell hlt
      go_wp2
      case roundEnd =>
        go_round
        case rel => exact ⟨k2 + 1, _, by omega, by go_num, rfl, by omega, by omega⟩
        case measure => simp [intOf]; omega
      all_goals exact HR.out _ _ rfl
    · go_wp2
      all_goals exact HR.out _ _ rfl

set_option maxHeartbeats 4000000 in
set_option maxRecDepth 100000 in
theorem head6 (a : Option Addr) (n c k : Nat) (S M : Value) (w : World) (Q : Exit → Act → World → Prop) (hn : n ≤ 9223372036854775807) (hk : k < n) (z : Int) (act : Act)
    (hnext : ∀ act', I6 (.slice a n c) S M z k act' → Q .normal act' w) (hI : I6 (.slice a n c) S M z k act) : Code.wp Try.prog (pick [0] round6) Q act w := by
  obtain ⟨g, rfl⟩ := hI
  have HN : Hid _ := hnext
  clear hnext
  conv => arg 2; whnf
  go_wp2
  exact HN.out _ (I6_mk _ rfl rfl rfl rfl rfl rfl)
set_option maxHeartbeats 4000000 in
set_option maxRecDepth 100000 in
theorem stop6 (a : Option Addr) (n c k : Nat) (S M : Value) (w : World) (Q : Exit → Act → World → Prop) (hn : n ≤ 9223372036854775807) (hk : ¬ k < n) (z : Int) (act : Act)
    (hnext : ∀ act', I6 (.slice a n c) S M z k act' → Q (.exit 0) act' w) (hI : I6 (.slice a n c) S M z k act) : Code.wp Try.prog (pick [0] round6) Q act w := by
  obtain ⟨g, rfl⟩ := hI
  have HN : Hid _ := hnext
  clear hnext
  conv => arg 2; whnf
  go_wp2
  exact HN.out _ (I6_mk _ rfl rfl rfl rfl rfl rfl)
set_option maxHeartbeats 4000000 in
set_option maxRecDepth 100000 in
theorem last6 (a : Option Addr) (n c k : Nat) (S M : Value) (w : World) (Q : Exit → Act → World → Prop) (hn : n ≤ 9223372036854775807) (hk : k < n) (z : Int) (act : Act)
    (hnext : ∀ act', I6 (.slice a n c) S M z (k + 1) act' → kOf act' = k + 1 → Q .normal act' w) (hI : I6 (.slice a n c) S M z k act) : Code.wp Try.prog (pick [1, 1] round6) Q act w := by
  obtain ⟨g, rfl⟩ := hI
  have HN : Hid _ := hnext
  clear hnext
  conv => arg 2; whnf
  go_wp2
  exact HN.out _ (I6_mk _ rfl rfl rfl rfl rfl rfl) (by simp [kOf, intOf])
set_option maxHeartbeats 4000000 in
set_option maxRecDepth 100000 in
theorem loop6_any (a : Option Addr) (n c : Nat) (S M : Value) (P : Nat → Pl) (w : World) (Q : Exit → Act → World → Prop) (hn : n ≤ 9223372036854775807) (hP : Pols w a n P)
    (hret : ∀ fr v, fr[10]? = some (.bool v) → Q .ret ⟨fr, []⟩ w) (hexit : ∀ z' k' act', 0 ≤ z' → z' ≤ 1048576 → I6 (.slice a n c) S M z' k' act' → Q (.exit 0) act' w)
    (z : Int) (act : Act) (hz0 : 0 ≤ z) (hz1 : z ≤ 1048576) (hI : I6 (.slice a n c) S M z 0 act) :
    Code.wp Try.prog (Code.loop round6) Q act w := by
  refine wp_loop (fun act' w' => w' = w ∧ ∃ (k : Nat) (z' : Int), k ≤ n ∧ 0 ≤ z' ∧ z' ≤ 1048576 ∧ I6 (.slice a n c) S M z' k act') (fun act' _ => n - kOf act') ⟨rfl, 0, z, Nat.zero_le _, hz0, hz1, hI⟩ ?_
  rintro act1 w1 ⟨rfl, k, z1, hk, hz10, hz11, g, rfl⟩
  have HR : Hid (∀ fr v, fr[10]? = some (.bool v) → Q .ret ⟨fr, []⟩ w1) := hret
  have HE : Hid (∀ z' k' act', 0 ≤ z' → z' ≤ 1048576 → I6 (.slice a n c) S M z' k' act' → Q (.exit 0) act' w1) := hexit
  have HP : Hid (Pols w1 a n P) := hP
  clear hret hexit hP hI
  by_cases hlt : k < n
  · obtain ⟨b, off, rfl, hp⟩ := HP.out.at hlt
    have hK : kOf ⟨#[.slice (some ⟨b, off, none⟩) n c, g 1, S, M, g 4, g 5, g 6, g 7, g 8, g 9, g 10, .int .i64 z1, .int .i64 k, g 13, g 14, g 15, g 16, g 17, g 18, g 19, g 20, g 21, g 22, g 23, g 24, g 25, g 26, g 27, g 28, g 29, g 30, g 31, g 32, g 33, g 34, g 35, g 36, g 37, g 38, g 39, g 40, g 41, g 42, g 43, g 44, g 45, g 46, g 47, g 48, g 49, g 50, g 51, g 52, g 53, g 54, g 55, g 56, g 57, g 58, g 59, g 60, g 61, g 62, g 63, g 64, g 65, g 66, g 67, g 68, g 69, g 70, g 71, g 72, g 73, g 74, g 75, g 76, g 77, g 78, g 79, g 80, g 81, g 82, g 83, g 84, g 85, g 86, g 87, g 88, g 89, g 90, g 91, g 92, g 93, g 94, g 95, g 96, g 97, g 98, g 99, g 100, g 101, g 102, g 103, g 104, g 105, g 106, g 107, g 108, g 109, g 110, g 111, g 112, g 113, g 114, g 115, g 116, g 117, g 118, g 119, g 120, g 121, g 122, g 123, g 124, g 125, g 126, g 127, g 128, g 129, g 130, g 131, g 132, g 133, g 134, g 135, g 136, g 137, g 138, g 139, g 140, g 141, g 142, g 143, g 144, g 145, g 146, g 147, g 148, g 149, g 150, g 151, g 152, g 153, g 154, g 155, g 156, g 157, g 158, g 159, g 160, g 161, g 162, g 163, g 164, g 165, g 166, g 167, g 168, g 169, g 170, g 171, g 172, g 173, g 174, g 175, g 176, g 177, g 178, g 179, g 180, g 181, g 182, g 183, g 184, g 185, g 186, g 187, g 188, g 189, g 190, g 191, g 192, g 193, g 194, g 195, g 196, g 197, g 198, g 199, g 200, g 201, g 202, g 203, g 204, g 205, g 206, g 207, g 208, g 209, g 210, g 211, g 212, g 213, g 214, g 215, g 216, g 217, g 218, g 219, g 220, g 221, g 222, g 223, g 224, g 225, g 226, g 227, g 228, g 229, g 230, g 231, g 232, g 233, g 234, g 235, g 236, g 237, g 238, g 239, g 240, g 241, g 242, g 243, g 244, g 245, g 246, g 247, g 248, g 249, g 250, g 251, g 252, g 253, g 254, g 255, g 256, g 257, g 258, g 259, g 260, g 261, g 262, g 263, g 264, g 265, g 266, g 267, g 268, g 269, g 270, g 271, g 272, g 273, g 274, g 275, g 276, g 277, g 278, g 279, g 280, g 281, g 282, g 283, g 284, g 285, g 286, g 287, g 288, g 289, g 290, g 291, g 292, g 293, g 294, g 295, g 296, g 297, g 298, g 299, g 300, g 301, g 302, g 303, g 304, g 305, g 306, g 307, g 308, g 309, g 310, g 311, g 312, g 313, g 314, g 315, g 316, g 317, g 318, g 319, g 320, g 321, g 322, g 323, g 324, g 325, g 326, g 327, g 328, g 329, g 330, g 331, g 332, g 333, g 334, g 335, g 336, g 337, g 338, g 339, g 340, g 341, g 342, g 343, g 344, g 345, g 346, g 347, g 348, g 349, g 350, g 351, g 352, g 353, g 354, g 355, g 356, g 357, g 358, g 359, g 360, g 361, g 362, g 363, g 364, g 365, g 366, g 367, g 368, g 369, g 370, g 371, g 372, g 373, g 374, g 375, g 376, g 377, g 378, g 379, g 380, g 381, g 382, g 383, g 384, g 385, g 386, g 387, g 388, g 389, g 390], []⟩ = k := by simp [kOf, intOf]
    rw [hK]
    refine wp_seq (head6 _ n c k S M w1 _ hn hlt z1 _ ?_ (I6_mk _ rfl rfl rfl rfl rfl rfl))
    intro act2 hI2
    refine wp_seq (wp_block (segs_all none n c k S M (P k) b off w1 _ hn hlt hp ?_ ?_ z1 act2 hz10 hz11 hI2))
    · exact fun fr v h => HR.out fr v h
    intro z3 act3 hz30 hz31 hI3
    refine last6 _ n c k S M w1 _ hn hlt z3 act3 ?_ hI3
    intro act4 hI4 hk4
    exact ⟨⟨rfl, k + 1, z3, by omega, hz30, hz31, hI4⟩, by rw [hk4]; omega⟩
  · refine wp_seq (stop6 _ n c k S M w1 _ hn hlt z1 _ ?_ (I6_mk _ rfl rfl rfl rfl rfl rfl))
    intro act2 hI2
    exact HE.out z1 k act2 hz10 hz11 hI2

set_option maxHeartbeats 4000000 in
set_option maxRecDepth 100000 in
theorem bytes6 (a s q : Option Addr) (n c sn sc m mc : Nat) (x y : Int) (P : Nat → Pl) (Ru : Nat → ByteArray) (w : World) (hn : n ≤ maxLen) (hsn : sn ≤ maxLen) (hm : m ≤ maxLen) (hP : Pols w a n P) (hS : Strs w s sn Ru) :
    Calls Try.prog 6 #[.slice a n c, .int .i64 x, .slice s sn sc, .slice q m mc, .int .i64 y] w fun e w' => SomeBool e ∧ w' = w := by
  have HP : Hid (Pols w a n P) := hP
  have HS : Hid (Strs w s sn Ru) := hS
  unfold maxLen at hn hm hsn
  clear hP hS
  go_enter Try.func6, Try.ntmps6
  go_wp2
  · go_ret
    exact ⟨⟨_, rfl⟩, rfl⟩
  rename_i K hK
  refine loop6_any a n c (.slice s sn sc) (.slice q m mc) P w _ (by omega) HP.out ?_ ?_ n _ (by omega) (by omega) ?_
  · intro fr v h
    show bodyPost Try.prog Try.f6 (fun e w' => SomeBool e ∧ w' = w) .ret ⟨fr, []⟩ w
    exact bodyPost_ret (v := .bool v) (by simp [results, Try.results6, go_sem, h]) rfl ⟨⟨v, rfl⟩, rfl⟩
  · intro z' k' act' p1 p2 i1
    refine hK _ _ ?_
    refine tail6_any _ s q sn sc m mc Ru w _ (by omega) (by omega) HS.out ?_ z' k' act' p1 p2 i1
    intro fr v h
    show bodyPost Try.prog Try.f6 (fun e w' => SomeBool e ∧ w' = w) .ret ⟨fr, []⟩ w
    exact bodyPost_ret (v := .bool v) (by simp [results, Try.results6, go_sem, h]) rfl ⟨⟨v, rfl⟩, rfl⟩
  · exact I6_mk _ rfl rfl rfl rfl rfl rfl
end Go.Proofs.Qxb6612720a
