import Derived.Test.Qxb6612720aNx
namespace Go.Proofs.Qxb6612720a
open Go.RowKit
set_option linter.unusedVariables false

noncomputable def b4 : Code := (Try.f4.body).getD .skip
set_option maxRecDepth 100000 in
/-- The law's frame at a statement's head. -/
def J4 (v0 v1 v2 v3 v9 v10 v11 v12 v22 v23 : Value) (act : Act) : Prop := ∃ g : Nat → Value, act = ⟨#[v0, v1, v2, v3, g 4, g 5, g 6, g 7, g 8, v9, v10, v11, v12, g 13, g 14, g 15, g 16, g 17, g 18, g 19, g 20, g 21, v22, v23, g 24, g 25, g 26, g 27, g 28, g 29, g 30, g 31, g 32, g 33, g 34, g 35, g 36, g 37, g 38, g 39, g 40, g 41, g 42, g 43, g 44, g 45, g 46, g 47, g 48, g 49, g 50, g 51, g 52, g 53, g 54, g 55, g 56, g 57, g 58, g 59, g 60, g 61, g 62, g 63, g 64, g 65, g 66, g 67, g 68, g 69, g 70, g 71, g 72, g 73, g 74, g 75, g 76, g 77, g 78, g 79, g 80, g 81, g 82, g 83, g 84, g 85, g 86, g 87, g 88, g 89, g 90, g 91, g 92, g 93, g 94, g 95, g 96, g 97, g 98, g 99, g 100, g 101, g 102, g 103, g 104, g 105, g 106, g 107, g 108, g 109, g 110, g 111, g 112, g 113, g 114, g 115, g 116, g 117, g 118, g 119, g 120, g 121, g 122, g 123, g 124, g 125, g 126, g 127, g 128, g 129, g 130, g 131, g 132, g 133, g 134, g 135, g 136, g 137, g 138, g 139, g 140, g 141, g 142, g 143, g 144, g 145, g 146, g 147, g 148, g 149, g 150, g 151, g 152, g 153, g 154, g 155, g 156, g 157, g 158, g 159, g 160, g 161, g 162, g 163, g 164, g 165, g 166, g 167, g 168, g 169, g 170, g 171, g 172, g 173, g 174, g 175, g 176, g 177, g 178, g 179, g 180, g 181, g 182, g 183, g 184, g 185, g 186, g 187, g 188, g 189, g 190, g 191, g 192, g 193, g 194, g 195, g 196, g 197, g 198, g 199, g 200, g 201, g 202, g 203, g 204, g 205, g 206, g 207, g 208, g 209, g 210, g 211, g 212, g 213, g 214, g 215, g 216, g 217, g 218, g 219, g 220, g 221, g 222, g 223, g 224, g 225, g 226, g 227, g 228, g 229, g 230, g 231, g 232, g 233, g 234, g 235, g 236, g 237, g 238, g 239, g 240, g 241, g 242, g 243, g 244, g 245, g 246, g 247, g 248, g 249, g 250, g 251, g 252, g 253, g 254, g 255, g 256, g 257, g 258, g 259, g 260, g 261, g 262, g 263, g 264, g 265, g 266, g 267, g 268, g 269, g 270, g 271, g 272, g 273, g 274, g 275, g 276, g 277, g 278, g 279, g 280, g 281, g 282, g 283, g 284], []⟩
set_option maxRecDepth 100000 in
set_option maxHeartbeats 2000000 in
theorem J4_mk {v0 v1 v2 v3 v9 v10 v11 v12 v22 v23 : Value} (fr : Array Value) (hs : fr.size = 285) (h0 : fr[0]? = some v0) (h1 : fr[1]? = some v1) (h2 : fr[2]? = some v2) (h3 : fr[3]? = some v3) (h9 : fr[9]? = some v9) (h10 : fr[10]? = some v10) (h11 : fr[11]? = some v11) (h12 : fr[12]? = some v12) (h22 : fr[22]? = some v22) (h23 : fr[23]? = some v23) : J4 v0 v1 v2 v3 v9 v10 v11 v12 v22 v23 ⟨fr, []⟩ := by
  refine ⟨fun i => fr[i]!, ?_⟩
  rw [fr_at h0, fr_at h1, fr_at h2, fr_at h3, fr_at h9, fr_at h10, fr_at h11, fr_at h12, fr_at h22, fr_at h23]
  exact congrArg (fun f => Act.mk f []) (fr_list fr 285 hs)

set_option maxHeartbeats 4000000 in
set_option maxRecDepth 100000 in
theorem q0 (v0 v1 v2 v3 v9 v10 v11 v12 v22 v23 : Value) (w : World) (Q : Exit → Act → World → Prop) (act : Act) (hI : J4 v0 v1 v2 v3 v9 v10 v11 v12 v22 v23 act) (hnext : ∀ act', J4 v0 v1 v2 v3 v9 v10 v11 v12 v22 v23 act' → Q .normal act' w) : Code.wp Try.prog (pick [0] b4) Q act w := by
  obtain ⟨g, rfl⟩ := hI
  have HN : Hid _ := hnext
  clear hnext
  conv => arg 2; whnf
  go_wp2
  exact HN.out _ (J4_mk _ rfl rfl rfl rfl rfl rfl rfl rfl rfl rfl rfl)

set_option maxHeartbeats 4000000 in
set_option maxRecDepth 100000 in
theorem q1 (v9 v10 v11 v12 v22 v23 : Value) (sa la ua : Option Addr) (ns sc nl lc nu uc : Nat) (now : Int) (P U : Nat → En) (w : World) (Q : Exit → Act → World → Prop) (h1 : ns ≤ maxLen) (h2 : nl ≤ maxLen) (h3 : nu ≤ maxLen) (hP : Lis w la nl P) (hU : Uns w ua nu U) (act : Act) (hI : J4 (.slice sa ns sc) (.slice la nl lc) (.slice ua nu uc) (.int .i64 now) v9 v10 v11 v12 v22 v23 act) (hret : ∀ fr, fr[8]? = some (.bool true) → Q .ret ⟨fr, []⟩ w)
    (hnext : ∀ act', J4 (.slice sa ns sc) (.slice la nl lc) (.slice ua nu uc) (.int .i64 now) v9 v10 v11 v12 v22 v23 act' → Q .normal act' w) : Code.wp Try.prog (pick [1, 0] b4) Q act w := by
  obtain ⟨g, rfl⟩ := hI
  have HN : Hid _ := hnext
  have HR : Hid _ := hret
  have C : Hid _ := bytes11 sa la ua ns sc nl lc nu uc now P U w h1 h2 h3 hP hU
  clear hnext hret h1 h2 h3 hP hU
  conv => arg 2; whnf
  go_wp2_with fail
  refine Calls.mono C.out ?_
  rintro e w' ⟨⟨b, rfl⟩, rfl⟩
  clear C
  cases b with
  | false =>
    go_wp2
    exact HR.out _ rfl
  | true =>
    go_wp2
    exact HN.out _ (J4_mk _ rfl rfl rfl rfl rfl rfl rfl rfl rfl rfl rfl)

set_option maxHeartbeats 4000000 in
set_option maxRecDepth 100000 in
theorem q2 (v9 v10 v11 v12 v22 v23 : Value) (sa la ua : Option Addr) (ns sc nl lc nu uc : Nat) (now : Int) (P U : Nat → En) (w : World) (Q : Exit → Act → World → Prop) (h1 : ns ≤ maxLen) (h2 : nl ≤ maxLen) (h3 : nu ≤ maxLen) (hP : Lis w la nl P) (hU : Uns w ua nu U) (act : Act) (hI : J4 (.slice sa ns sc) (.slice la nl lc) (.slice ua nu uc) (.int .i64 now) v9 v10 v11 v12 v22 v23 act) (hret : ∀ fr w', fr[8]? = some (.bool true) → Below w.heap.size w w' → Q .ret ⟨fr, []⟩ w')
    (hnext : ∀ act' w', J4 (.slice sa ns sc) (.slice la nl lc) (.slice ua nu uc) (.int .i64 now) v9 v10 v11 v12 v22 v23 act' → NFit ns nl nu P U → Below w.heap.size w w' → Q .normal act' w') : Code.wp Try.prog (pick [1, 1, 0] b4) Q act w := by
  obtain ⟨g, rfl⟩ := hI
  have HN : Hid _ := hnext
  have HR : Hid _ := hret
  have C : Hid _ := fits_any sa la ua ns sc nl lc nu uc P U w h1 h2 h3 hP hU
  clear hnext hret h1 h2 h3 hP hU
  conv => arg 2; whnf
  go_wp2_with fail
  refine Calls.mono C.out ?_
  rintro e w' ⟨⟨b, rfl, hf⟩, hb⟩
  have HF : Hid _ := And.intro hf hb
  clear C hf hb
  cases b with
  | false =>
    go_wp2
    exact HR.out _ _ rfl HF.out.2
  | true =>
    go_wp2
    exact HN.out _ _ (J4_mk _ rfl rfl rfl rfl rfl rfl rfl rfl rfl rfl rfl) (HF.out.1 (by first | rfl | trivial)) HF.out.2

set_option maxHeartbeats 4000000 in
set_option maxRecDepth 100000 in
theorem q3 (v12 v22 v23 v9 v10 v11 : Value) (sa la ua : Option Addr) (ns sc nl lc nu uc : Nat) (now : Int) (nb na : Nat → Int) (P U : Nat → En) (w : World) (Q : Exit → Act → World → Prop) (hW : Wins w sa ns nb na) (hP : Lis w la nl P) (hU : Uns w ua nu U) (hl : ZLog ns nl nu (fun i => (P i).T) (fun i => (P i).I) (fun i => (U i).T) (fun i => (P i).n) (fun i => (U i).n) (fun i => (P i).R) (fun i => (U i).R)) (act : Act) (hI : J4 (.slice sa ns sc) (.slice la nl lc) (.slice ua nu uc) (.int .i64 now) v9 v10 v11 v12 v22 v23 act)
    (hnext : ∀ act' w' L p O lO uO, J4 (.slice sa ns sc) (.slice la nl lc) (.slice ua nu uc) (.int .i64 now) (.slice (some ⟨O, 0, none⟩) L.length L.length) (.slice (some ⟨lO, 0, none⟩) nl nl) (.slice (some ⟨uO, 0, none⟩) nu nu) v12 v22 v23 act' → NumOk (fun r => validB (nb r.1.toNat) (na r.1.toNat) now) (Fr nl (fun i => (P i).n) (fun i => (P i).R)) (Fr nu (fun i => (U i).n) (fun i => (U i).R)) L p → L.length ≤ 17179869184 → Rfs w' (some ⟨O, 0, none⟩) L.length (fun g => L.getD g (0, 0)) → (∀ i, i < nl → BitRow w' lO i L (P i).R (P i).n) → (∀ i, i < nu → BitRow w' uO i L (U i).R (U i).n) → Below w.heap.size w w' → Q .normal act' w') : Code.wp Try.prog (pick [1, 1, 1, 0] b4) Q act w := by
  obtain ⟨g, rfl⟩ := hI
  have HN : Hid _ := hnext
  have C : Hid _ := call_any sa la ua ns sc nl lc nu uc now nb na P U w hW hP hU hl
  clear hnext hW hP hU hl
  conv => arg 2; whnf
  go_wp2_with fail
  refine Calls.mono C.out ?_
  rintro e w' ⟨⟨L, p, O, lO, uO, rfl, a1, a2, a3, a4, a5⟩, a6⟩
  have HF : Hid _ := And.intro a1 (And.intro a2 (And.intro a3 (And.intro a4 (And.intro a5 a6))))
  clear C a1 a2 a3 a4 a5 a6
  go_wp2
  obtain ⟨a1, a2, a3, a4, a5, a6⟩ := HF.out
  exact HN.out _ _ L p O lO uO (J4_mk _ rfl rfl rfl rfl rfl rfl rfl rfl rfl rfl rfl) a1 a2 a3 a4 a5 a6

set_option maxHeartbeats 4000000 in
set_option maxRecDepth 100000 in
theorem q4 (v0 v1 v2 v3 v10 v11 v22 v23 v12 : Value) (O n : Nat) (w : World) (Q : Exit → Act → World → Prop) (hn : n ≤ 17179869184) (act : Act) (hI : J4 v0 v1 v2 v3 (.slice (some ⟨O, 0, none⟩) n n) v10 v11 v12 v22 v23 act)
    (hnext : ∀ act', J4 v0 v1 v2 v3 (.slice (some ⟨O, 0, none⟩) n n) v10 v11 (.int .i64 (((n : Int) + 63) / 64)) v22 v23 act' → Q .normal act' w) : Code.wp Try.prog (pick [1, 1, 1, 1, 0] b4) Q act w := by
  obtain ⟨g, rfl⟩ := hI
  have HN : Hid _ := hnext
  clear hnext
  conv => arg 2; whnf
  go_wp2
  exact HN.out _ (J4_mk _ rfl rfl rfl rfl rfl rfl rfl rfl rfl rfl rfl)

set_option maxHeartbeats 4000000 in
set_option maxRecDepth 100000 in
theorem q5 (v1 v2 v10 v11 v12 v22 v23 : Value) (sa : Option Addr) (ns sc O n : Nat) (now : Int) (nb na : Nat → Int) (G : Nat → Rf) (w : World) (Q : Exit → Act → World → Prop) (hn : n ≤ 17179869184) (hns : ns ≤ 65536) (hW : Wins w sa ns nb na) (hG : Rfs w (some ⟨O, 0, none⟩) n G) (hv : ∀ g, g < n → 0 ≤ (G g).1 ∧ (G g).1 < ns ∧ validB (nb (G g).1.toNat) (na (G g).1.toNat) now = true) (hd : ∀ g h, h < g → g < n → ¬ G h = G g) (act : Act) (hI : J4 (.slice sa ns sc) v1 v2 (.int .i64 now) (.slice (some ⟨O, 0, none⟩) n n) v10 v11 v12 v22 v23 act)
    (hnext : ∀ act' w', J4 (.slice sa ns sc) v1 v2 (.int .i64 now) (.slice (some ⟨O, 0, none⟩) n n) v10 v11 v12 v22 v23 act' → Below w.heap.size w w' → Q .normal act' w') : Code.wp Try.prog (pick [1, 1, 1, 1, 1, 0] b4) Q act w := by
  obtain ⟨g, rfl⟩ := hI
  have HN : Hid _ := hnext
  have HW : Hid (Wins w sa ns nb na) := hW
  have HG : Hid (Rfs w (some ⟨O, 0, none⟩) n G) := hG
  have HV : Hid (∀ g, g < n → 0 ≤ (G g).1 ∧ (G g).1 < ns ∧ validB (nb (G g).1.toNat) (na (G g).1.toNat) now = true) := hv
  have HD : Hid (∀ g h, h < g → g < n → ¬ G h = G g) := hd
  clear hnext hW hG hv hd
  conv => arg 2; whnf
  go_wp2
  go_loopw [13] (fun i wr => ∃ k : Nat, k ≤ n ∧ i = .int .i64 k ∧ Hid (Below w.heap.size w wr)) (fun i _ => n - (intOf i).toNat)
  case atStart => exact ⟨0, Nat.zero_le _, rfl, Below.refl _ _⟩
  case round =>
    obtain ⟨k, hk, rfl, hb⟩ := hrel
    obtain ⟨wo, hwo⟩ : ∃ wo, wo = wr := ⟨_, rfl⟩
    subst hwo
    by_cases hlt : k < n
    · obtain ⟨b, off, eb, hbo, c0, c1⟩ := (HG.out.below hb.out).at hlt
      obtain ⟨rfl, rfl⟩ : O = b ∧ 0 = off := by simpa using eb
      rw [Nat.zero_add] at c0 c1
      obtain ⟨v1, v2, v3⟩ := HV.out k hlt
      obtain ⟨p, hp⟩ : ∃ p : Nat, (G k).1 = p := ⟨(G k).1.toNat, by omega⟩
      rw [hp] at c0 v1 v2 v3
      have hpn : p < ns := by omega
      obtain ⟨b', off', rfl, hbo', d0, d1⟩ := (HW.out.below hb.out).at hpn
      have C : Hid _ := valid_any (nb p) (na p) now wo
      have ev : validB (nb p) (na p) now = true := by simpa using v3
      rw [ev] at C
      clear v1 v2 v3 eb ev hp
      go_wp2_with fail
      refine Calls.mono C.out ?_
      rintro e w1 ⟨rfl, hb1⟩
      have HB1 : Hid (Below w.heap.size w w1) := hb.out.trans (hb1.mono hb.out.size)
      clear hb1 C c0 c1 d0 d1
      go_wp2
      go_loopw [15] (fun i w2 => ∃ j : Nat, j ≤ k ∧ i = .int .i64 j ∧ Hid (Below w.heap.size w w2)) (fun i _ => k - (intOf i).toNat)
      case atStart => exact ⟨0, Nat.zero_le _, rfl, HB1⟩
      case round =>
        obtain ⟨j, hj, rfl, hb2⟩ := hrel
        by_cases hlj : j < k
        · obtain ⟨b, off, eb, hbo, c0, c1⟩ := (HG.out.below hb2.out).at hlt
          obtain ⟨rfl, rfl⟩ : O = b ∧ 0 = off := by simpa using eb
          obtain ⟨b, off, eb', hbo', e0, e1⟩ := (HG.out.below hb2.out).at (i := j) (by omega)
          obtain ⟨rfl, rfl⟩ : O = b ∧ 0 = off := by simpa using eb'
          rw [Nat.zero_add] at c0 c1 e0 e1
          have hne := HD.out k j hlj hlt
          clear eb eb'
          by_cases t1 : (G j).1 = (G k).1
          · have t2 : ¬ (G j).2 = (G k).2 := fun h => hne (Prod.ext t1 h)
            clear hne
            go_wp2
            go_quiet (fail)
            go_wp2
            go_roundw
            case rel => exact ⟨j + 1, by omega, by go_num, drewBelow hb2.out _⟩
            case measure => simp [intOf]; omega
          · clear hne
            go_wp2
            go_quiet (fail)
            go_wp2
            go_roundw
            case rel => exact ⟨j + 1, by omega, by go_num, drewBelow hb2.out _⟩
            case measure => simp [intOf]; omega
        · go_wp2
          go_roundw
          case rel => exact ⟨k + 1, by omega, by go_num, hb2⟩
          case measure => simp [intOf]; omega
    · go_wp2
      exact HN.out _ _ (J4_mk _ rfl rfl rfl rfl rfl rfl rfl rfl rfl rfl rfl) hb.out

set_option maxHeartbeats 4000000 in
set_option maxRecDepth 100000 in
theorem q6 (v2 v10 v11 v12 v22 v23 : Value) (sa : Option Addr) (ns sc O n : Nat) (la : Option Addr) (nl lc : Nat) (now : Int) (nb na : Nat → Int) (P : Nat → En) (G : Nat → Rf) (w : World) (Q : Exit → Act → World → Prop) (hn : n ≤ 17179869184) (hns : ns ≤ 65536) (hnl : nl ≤ 65536) (hm : ∀ i, i < nl → (P i).n ≤ 65536) (hW : Wins w sa ns nb na) (hG : Rfs w (some ⟨O, 0, none⟩) n G) (hP : Lis w la nl P) (hin : ∀ i, i < nl → allIn (P i).R (P i).n ns) (hc : ∀ i, i < nl → ∀ j, j < (P i).n → validB (nb ((P i).R j).1.toNat) (na ((P i).R j).1.toNat) now = true → inR G n ((P i).R j) = true) (act : Act) (hI : J4 (.slice sa ns sc) (.slice la nl lc) v2 (.int .i64 now) (.slice (some ⟨O, 0, none⟩) n n) v10 v11 v12 v22 v23 act)
    (hnext : ∀ act' w', J4 (.slice sa ns sc) (.slice la nl lc) v2 (.int .i64 now) (.slice (some ⟨O, 0, none⟩) n n) v10 v11 v12 v22 v23 act' → Below w.heap.size w w' → Q .normal act' w') : Code.wp Try.prog (pick [1, 1, 1, 1, 1, 1, 0] b4) Q act w := by
  obtain ⟨g, rfl⟩ := hI
  have HN : Hid _ := hnext
  have HW : Hid (Wins w sa ns nb na) := hW
  have HG : Hid (Rfs w (some ⟨O, 0, none⟩) n G) := hG
  have HP : Hid (Lis w la nl P) := hP
  have HM : Hid (∀ i, i < nl → (P i).n ≤ 65536) := hm
  have HI : Hid (∀ i, i < nl → allIn (P i).R (P i).n ns) := hin
  have HC : Hid (∀ i, i < nl → ∀ j, j < (P i).n → validB (nb ((P i).R j).1.toNat) (na ((P i).R j).1.toNat) now = true → inR G n ((P i).R j) = true) := hc
  clear hnext hW hG hP hm hin hc
  conv => arg 2; whnf
  go_wp2
  go_loopw [16] (fun i wr => ∃ k : Nat, k ≤ nl ∧ i = .int .i64 k ∧ Hid (Below w.heap.size w wr)) (fun i _ => nl - (intOf i).toNat)
  case atStart => exact ⟨0, Nat.zero_le _, rfl, Below.refl _ _⟩
  case round =>
    obtain ⟨k, hk, rfl, hb⟩ := hrel
    obtain ⟨wo, hwo⟩ : ∃ wo, wo = wr := ⟨_, rfl⟩
    subst hwo
    by_cases hlt : k < nl
    · obtain ⟨lb, loff, rfl, hlb, hat0⟩ := HP.out.at hlt
      have HAT : Hid _ := hat0
      have hmk := HM.out k hlt
      clear hat0
      go_wp2
      go_loopw [17] (fun i w2 => ∃ j : Nat, j ≤ (P k).n ∧ i = .int .i64 j ∧ Hid (Below w.heap.size w w2)) (fun i _ => (P k).n - (intOf i).toNat)
      case atStart => exact ⟨0, Nat.zero_le _, rfl, hb⟩
      case round =>
        obtain ⟨j, hj, rfl, hb2⟩ := hrel
        have hat := HAT.out.below hb2.out
        have c2 := hat.c2
        have hbs := hb2.out.size
        by_cases hlj : j < (P k).n
        · obtain ⟨b, off, ea, hbo, c0, c1⟩ := hat.rf.at hlj
          rw [ea] at c2
          obtain ⟨v1, v2⟩ := HI.out k hlt j hlj
          obtain ⟨p, gg, hpg⟩ : ∃ (p : Nat) (gg : Int), (P k).R j = ((p : Int), gg) := ⟨((P k).R j).1.toNat, ((P k).R j).2, Prod.ext (by simp; omega) rfl⟩
          have hcov := HC.out k hlt j hlj
          rw [hpg] at c0 c1 v1 v2 hcov
          simp only at c0 c1 v1 v2
          have hpn : p < ns := by omega
          obtain ⟨b', off', es, hbo', d0, d1⟩ := (HW.out.below hb2.out).at hpn
          subst es
          obtain ⟨vb, hvb⟩ : ∃ vb, validB (nb p) (na p) now = vb := ⟨_, rfl⟩
          obtain ⟨wb, hwb⟩ : ∃ wb, wb = wr.alloc (.cells #[.int .i64 (p : Int), .int .i64 gg] 60) := ⟨_, rfl⟩
          have k0 : wb.cell? ⟨wr.heap.size, 0, none⟩ = some (.int .i64 (p : Int)) := by subst hwb; simp
          have k1 : wb.cell? ⟨wr.heap.size, 1, none⟩ = some (.int .i64 gg) := by subst hwb; simp
          have sb : wr.heap.size < wb.heap.size := by subst hwb; simp
          have C : Hid _ := valid_any (nb p) (na p) now wb
          have HBW : Hid (Below w.heap.size w wb) := by subst hwb; exact hb2.out.alloc hbs _
          rw [hvb] at C
          have HCOV : Hid (vb = true → inR G n ((p : Int), gg) = true) := fun h => hcov (by simpa [hvb] using h)
          clear hcov hvb hat hpg ea v1 v2
          go_wp2_with fail
          rw [← hwb]
          refine Calls.mono C.out ?_
          rintro e w1 ⟨rfl, hb1⟩
          have HB1 : Hid (Below w.heap.size w w1) := HBW.out.trans (hb1.mono HBW.out.size)
          have m0 := (hb1.cell (p := ⟨wr.heap.size, 0, none⟩) sb).trans k0
          have m1 := (hb1.cell (p := ⟨wr.heap.size, 1, none⟩) sb).trans k1
          clear hb1 C hwb k0 k1 c0 c1 d0 d1
          cases vb with
          | false =>
            go_wp2
            go_roundw
            case rel => exact ⟨j + 1, by omega, by go_num, HB1⟩
            case measure => simp [intOf]; omega
          | true =>
            have C2 : Hid _ := index_any (some ⟨O, 0, none⟩) n n G ((p : Int), gg) w1 (by simp only [maxLen]; omega) (HG.out.below HB1.out)
            rw [HCOV.out rfl] at C2
            go_wp2_with fail
            refine Calls.mono C2.out ?_
            rintro e w2 ⟨⟨x, rfl, hx⟩, hb3⟩
            have hx0 : ¬ x < 0 := by have := hx.symm; simp at this; omega
            have HB3 : Hid (Below w.heap.size w w2) := HB1.out.trans (hb3.mono HB1.out.size)
            clear hx hb3 C2
            go_wp2
            go_roundw
            case rel => exact ⟨j + 1, by omega, by go_num, HB3⟩
            case measure => simp [intOf]; omega
        · go_wp2
          go_roundw
          case rel => exact ⟨k + 1, by omega, by go_num, hb2⟩
          case measure => simp [intOf]; omega
    · go_wp2
      exact HN.out _ _ (J4_mk _ rfl rfl rfl rfl rfl rfl rfl rfl rfl rfl rfl) hb.out

set_option maxHeartbeats 4000000 in
set_option maxRecDepth 100000 in
theorem q7 (v1 v10 v11 v12 v22 v23 : Value) (sa : Option Addr) (ns sc O n : Nat) (ua : Option Addr) (nu uc : Nat) (now : Int) (nb na : Nat → Int) (P : Nat → En) (G : Nat → Rf) (w : World) (Q : Exit → Act → World → Prop) (hn : n ≤ 17179869184) (hns : ns ≤ 65536) (hnl : nu ≤ 65536) (hm : ∀ i, i < nu → (P i).n ≤ 65536) (hW : Wins w sa ns nb na) (hG : Rfs w (some ⟨O, 0, none⟩) n G) (hP : Uns w ua nu P) (hin : ∀ i, i < nu → allIn (P i).R (P i).n ns) (hc : ∀ i, i < nu → ∀ j, j < (P i).n → validB (nb ((P i).R j).1.toNat) (na ((P i).R j).1.toNat) now = true → inR G n ((P i).R j) = true) (act : Act) (hI : J4 (.slice sa ns sc) v1 (.slice ua nu uc) (.int .i64 now) (.slice (some ⟨O, 0, none⟩) n n) v10 v11 v12 v22 v23 act)
    (hnext : ∀ act' w', J4 (.slice sa ns sc) v1 (.slice ua nu uc) (.int .i64 now) (.slice (some ⟨O, 0, none⟩) n n) v10 v11 v12 v22 v23 act' → Below w.heap.size w w' → Q .normal act' w') : Code.wp Try.prog (pick [1, 1, 1, 1, 1, 1, 1, 0] b4) Q act w := by
  obtain ⟨g, rfl⟩ := hI
  have HN : Hid _ := hnext
  have HW : Hid (Wins w sa ns nb na) := hW
  have HG : Hid (Rfs w (some ⟨O, 0, none⟩) n G) := hG
  have HP : Hid (Uns w ua nu P) := hP
  have HM : Hid (∀ i, i < nu → (P i).n ≤ 65536) := hm
  have HI : Hid (∀ i, i < nu → allIn (P i).R (P i).n ns) := hin
  have HC : Hid (∀ i, i < nu → ∀ j, j < (P i).n → validB (nb ((P i).R j).1.toNat) (na ((P i).R j).1.toNat) now = true → inR G n ((P i).R j) = true) := hc
  clear hnext hW hG hP hm hin hc
  conv => arg 2; whnf
  go_wp2
  go_loopw [19] (fun i wr => ∃ k : Nat, k ≤ nu ∧ i = .int .i64 k ∧ Hid (Below w.heap.size w wr)) (fun i _ => nu - (intOf i).toNat)
  case atStart => exact ⟨0, Nat.zero_le _, rfl, Below.refl _ _⟩
  case round =>
    obtain ⟨k, hk, rfl, hb⟩ := hrel
    obtain ⟨wo, hwo⟩ : ∃ wo, wo = wr := ⟨_, rfl⟩
    subst hwo
    by_cases hlt : k < nu
    · obtain ⟨lb, loff, rfl, hlb, hat0⟩ := HP.out.at hlt
      have HAT : Hid _ := hat0
      have hmk := HM.out k hlt
      clear hat0
      go_wp2
      go_loopw [20] (fun i w2 => ∃ j : Nat, j ≤ (P k).n ∧ i = .int .i64 j ∧ Hid (Below w.heap.size w w2)) (fun i _ => (P k).n - (intOf i).toNat)
      case atStart => exact ⟨0, Nat.zero_le _, rfl, hb⟩
      case round =>
        obtain ⟨j, hj, rfl, hb2⟩ := hrel
        have hat := HAT.out.below hb2.out
        have c2 := hat.c2
        have hbs := hb2.out.size
        by_cases hlj : j < (P k).n
        · obtain ⟨b, off, ea, hbo, c0, c1⟩ := hat.rf.at hlj
          rw [ea] at c2
          obtain ⟨v1, v2⟩ := HI.out k hlt j hlj
          obtain ⟨p, gg, hpg⟩ : ∃ (p : Nat) (gg : Int), (P k).R j = ((p : Int), gg) := ⟨((P k).R j).1.toNat, ((P k).R j).2, Prod.ext (by simp; omega) rfl⟩
          have hcov := HC.out k hlt j hlj
          rw [hpg] at c0 c1 v1 v2 hcov
          simp only at c0 c1 v1 v2
          have hpn : p < ns := by omega
          obtain ⟨b', off', es, hbo', d0, d1⟩ := (HW.out.below hb2.out).at hpn
          subst es
          obtain ⟨vb, hvb⟩ : ∃ vb, validB (nb p) (na p) now = vb := ⟨_, rfl⟩
          obtain ⟨wb, hwb⟩ : ∃ wb, wb = wr.alloc (.cells #[.int .i64 (p : Int), .int .i64 gg] 60) := ⟨_, rfl⟩
          have k0 : wb.cell? ⟨wr.heap.size, 0, none⟩ = some (.int .i64 (p : Int)) := by subst hwb; simp
          have k1 : wb.cell? ⟨wr.heap.size, 1, none⟩ = some (.int .i64 gg) := by subst hwb; simp
          have sb : wr.heap.size < wb.heap.size := by subst hwb; simp
          have C : Hid _ := valid_any (nb p) (na p) now wb
          have HBW : Hid (Below w.heap.size w wb) := by subst hwb; exact hb2.out.alloc hbs _
          rw [hvb] at C
          have HCOV : Hid (vb = true → inR G n ((p : Int), gg) = true) := fun h => hcov (by simpa [hvb] using h)
          clear hcov hvb hat hpg ea v1 v2
          go_wp2_with fail
          rw [← hwb]
          refine Calls.mono C.out ?_
          rintro e w1 ⟨rfl, hb1⟩
          have HB1 : Hid (Below w.heap.size w w1) := HBW.out.trans (hb1.mono HBW.out.size)
          have m0 := (hb1.cell (p := ⟨wr.heap.size, 0, none⟩) sb).trans k0
          have m1 := (hb1.cell (p := ⟨wr.heap.size, 1, none⟩) sb).trans k1
          clear hb1 C hwb k0 k1 c0 c1 d0 d1
          cases vb with
          | false =>
            go_wp2
            go_roundw
            case rel => exact ⟨j + 1, by omega, by go_num, HB1⟩
            case measure => simp [intOf]; omega
          | true =>
            have C2 : Hid _ := index_any (some ⟨O, 0, none⟩) n n G ((p : Int), gg) w1 (by simp only [maxLen]; omega) (HG.out.below HB1.out)
            rw [HCOV.out rfl] at C2
            go_wp2_with fail
            refine Calls.mono C2.out ?_
            rintro e w2 ⟨⟨x, rfl, hx⟩, hb3⟩
            have hx0 : ¬ x < 0 := by have := hx.symm; simp at this; omega
            have HB3 : Hid (Below w.heap.size w w2) := HB1.out.trans (hb3.mono HB1.out.size)
            clear hx hb3 C2
            go_wp2
            go_roundw
            case rel => exact ⟨j + 1, by omega, by go_num, HB3⟩
            case measure => simp [intOf]; omega
        · go_wp2
          go_roundw
          case rel => exact ⟨k + 1, by omega, by go_num, hb2⟩
          case measure => simp [intOf]; omega
    · go_wp2
      exact HN.out _ _ (J4_mk _ rfl rfl rfl rfl rfl rfl rfl rfl rfl rfl rfl) hb.out
end Go.Proofs.Qxb6612720a
