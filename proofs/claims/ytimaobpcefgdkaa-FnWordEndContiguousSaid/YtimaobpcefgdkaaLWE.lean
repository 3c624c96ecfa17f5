/- The walk of FnWordEndContiguous. -/
import Derived.Test.YtimaobpcefgdkaaWE
import Derived.Deep.Cut
import Derived.Deep.RegionHeld3
namespace Go.Proofs.Ytimaobpcefgdkaa
open Go.RowKit
def offS (base : Int) (S : Nat → ByteArray) (K : Nat → Int) : Nat → Int
  | 0 => base
  | k + 1 => offS base S K k + (S k).size + (if K k = 0 then 0 else 2)
theorem offS_bd (base : Int) (S : Nat → ByteArray) (K : Nat → Int) (hb : 0 ≤ base) : ∀ k, 0 ≤ offS base S K k ∧ offS base S K k ≤ base + sumS S k + 2 * k
  | 0 => by simp [offS, sumS]; omega
  | k + 1 => by
    have := offS_bd base S K hb k
    have := sumS_nonneg S k
    simp only [offS, sumS]
    split <;> omega
theorem offS_mono (base : Int) (S : Nat → ByteArray) (K : Nat → Int) (k : Nat) : ∀ m, offS base S K k ≤ offS base S K (k + m)
  | 0 => by simp
  | m + 1 => by
    have := offS_mono base S K k m
    rw [← Nat.add_assoc]
    simp only [offS]
    split <;> omega
theorem add_at2 (g j k : Nat) : (⟨g, j, none⟩ : Addr).add k = ⟨g, j + k, none⟩ := by
  unfold Addr.add
  split
  · subst_vars; rfl
  · simp
/-- The word, told by its parts. -/
def WS (w : World) (wd g n : Nat) (xs : List Value) (off : Nat → Int) (S : Nat → ByteArray) (K : Nat → Int) (W : World) : Prop :=
  Bk W wd 37 #[.slice (some ⟨g, 0, none⟩) n n] ∧ (∀ j u, xs[j]? = some u → W.cell? ⟨g, j, none⟩ = some u ∧ PEl off S K j u W) ∧ Below w.heap.size w W
theorem WS.keep {w : World} {wd g n : Nat} {xs : List Value} {off : Nat → Int} {S : Nat → ByteArray} {K : Nat → Int} {W W1 : World} (h : WS w wd g n xs off S K W) (hb : Below W.heap.size W W1) : WS w wd g n xs off S K W1 :=
  ⟨h.1.keep hb, fun j u q => ⟨keepc hb (h.2.1 j u q).1, (h.2.1 j u q).2.keep hb⟩, bmore h.2.2 hb⟩
theorem WS.at_ {w : World} {wd g n j : Nat} {xs : List Value} {off : Nat → Int} {S : Nat → ByteArray} {K : Nat → Int} {W : World} (h : WS w wd g n xs off S K W) (hl : xs.length = n) (hj : j < n) : ∃ u, W.cell? ⟨g, j, none⟩ = some u ∧ PEl off S K j u W :=
  ⟨xs[j], h.2.1 j _ (List.getElem?_eq_getElem (by omega))⟩
theorem WE_list {W : World} {base g n : Nat} {off : Nat → Int} {S : Nat → ByteArray} {K : Nat → Int} (h : RowOf W base g 134 n n (PEl off S K)) : ∃ xs : List Value, xs.length = n ∧ ∀ j u, xs[j]? = some u → W.cell? ⟨g, j, none⟩ = some u ∧ PEl off S K j u W := by
  obtain ⟨xs, ho, he⟩ := h
  have hl : xs.length = n := by simpa using ho.1
  refine ⟨xs, hl, fun j u hj => ⟨?_, he j u hj⟩⟩
  rw [ho.cellAt j (by have := (List.getElem?_eq_some_iff.1 hj).1; omega)]
  exact hj
/-- End of any piece of the word: a word block at b whose slice is parts p .. p + m. -/
theorem WS.endP {w : World} {wd g n p m cap b : Nat} {xs : List Value} {base : Int} {S : Nat → ByteArray} {K : Nat → Int} {W : World} (h : WS w wd g n xs (offS base S K) S K W) (hl : xs.length = n) (hpm : p + m < n) (hn : n ≤ 65536)
    (hb : W.cell? ⟨b, 0, none⟩ = some (.slice (some ⟨g, p, none⟩) (m + 1) cap)) (hbd : ∀ j, j ≤ n → 0 ≤ offS base S K j ∧ offS base S K j ≤ 16777216) (hsz : ∀ j, j < n → (S j).size ≤ 1048576) :
    Calls Try.prog 64 #[.pointer (some ⟨b, 0, none⟩)] W fun e w' => e = .returned (P2 (npO (offS base S K (p + m + 1))) (npL 1 (offS base S K (p + m + 1) + 1))) ∧ Below W.heap.size W w' := by
  obtain ⟨u, hu, hE⟩ := h.at_ hl hpm
  exact WE_End _ S K b m cap (p + m) ⟨g, p, none⟩ u W hb (by omega) (by rw [add_at2]; exact hu) hE rfl (hbd _ (by omega)) (hsz _ hpm)
theorem WS.posP {w : World} {wd g n p m cap b : Nat} {xs : List Value} {base : Int} {S : Nat → ByteArray} {K : Nat → Int} {W : World} (h : WS w wd g n xs (offS base S K) S K W) (hl : xs.length = n) (hpm : p + m < n) (hn : n ≤ 65536)
    (hb : W.cell? ⟨b, 0, none⟩ = some (.slice (some ⟨g, p, none⟩) (m + 1) cap)) :
    Calls Try.prog 65 #[.pointer (some ⟨b, 0, none⟩)] W fun e w' => e = .returned (P2 (npO (offS base S K p)) (npL 1 (offS base S K p + 1))) ∧ Below W.heap.size W w' := by
  obtain ⟨u, hu, hE⟩ := h.at_ hl (show p < n by omega)
  exact WE_Pos _ S K b m cap p ⟨g, p, none⟩ u W hb (by omega) hu hE
/-- What the round holds: the three positions and the rest. -/
def Rest (w : World) (wd g n be sb m : Nat) (xs : List Value) (off : Nat → Int) (S : Nat → ByteArray) (K : Nat → Int) (oN : Int) (k : Nat) (W : World) : Prop :=
  WS w wd g n xs off S K W ∧ Bk W be 30 #[.int .u32 (npO oN), .int .u32 (npL 1 (oN + 1))] ∧ W.cell? ⟨sb, 0, none⟩ = some (.slice (some ⟨g, k, none⟩) (m + 1) (m + 1))
theorem Rest.keep {w : World} {wd g n be sb m : Nat} {xs : List Value} {off : Nat → Int} {S : Nat → ByteArray} {K : Nat → Int} {oN : Int} {k : Nat} {W W1 : World} (h : Rest w wd g n be sb m xs off S K oN k W) (hb : Below W.heap.size W W1) : Rest w wd g n be sb m xs off S K oN k W1 :=
  ⟨h.1.keep hb, h.2.1.keep hb, keepc hb h.2.2⟩
theorem Rest.drew {w : World} {wd g n be sb m : Nat} {xs : List Value} {off : Nat → Int} {S : Nat → ByteArray} {K : Nat → Int} {oN : Int} {k : Nat} {W : World} (h : Rest w wd g n be sb m xs off S K oN k W) : Rest w wd g n be sb m xs off S K oN k W.drew :=
  h.keep (Below.refl _ _).drew
theorem keep7 {W w1 : World} {ba bb be : Nat} {v0 v1 v2 v3 v4 v5 : Value} {R : World → Prop} (hR : ∀ W1, Below W.heap.size W W1 → R W → R W1)
    (hs : W.cell? ⟨ba, 0, none⟩ = some v0 ∧ W.cell? ⟨ba, 1, none⟩ = some v1 ∧ W.cell? ⟨bb, 0, none⟩ = some v2 ∧ W.cell? ⟨bb, 1, none⟩ = some v3 ∧ W.cell? ⟨be, 0, none⟩ = some v4 ∧ W.cell? ⟨be, 1, none⟩ = some v5 ∧ R W) (hb : Below W.heap.size W w1) :
    w1.cell? ⟨ba, 0, none⟩ = some v0 ∧ w1.cell? ⟨ba, 1, none⟩ = some v1 ∧ w1.cell? ⟨bb, 0, none⟩ = some v2 ∧ w1.cell? ⟨bb, 1, none⟩ = some v3 ∧ w1.cell? ⟨be, 0, none⟩ = some v4 ∧ w1.cell? ⟨be, 1, none⟩ = some v5 ∧ R w1 :=
  ⟨keepc hb hs.1, keepc hb hs.2.1, keepc hb hs.2.2.1, keepc hb hs.2.2.2.1, keepc hb hs.2.2.2.2.1, keepc hb hs.2.2.2.2.2.1, hR _ hb hs.2.2.2.2.2.2⟩
theorem Rest.endS {ba0 bb0 : Nat} {v0 v1 v2 v3 v4 v5 : Value} {w : World} {wd g n be sb m : Nat} {xs : List Value} {base : Int} {S : Nat → ByteArray} {K : Nat → Int} {oN : Int} {k : Nat} {W : World}
    (h : W.cell? ⟨ba0, 0, none⟩ = some v0 ∧ W.cell? ⟨ba0, 1, none⟩ = some v1 ∧ W.cell? ⟨bb0, 0, none⟩ = some v2 ∧ W.cell? ⟨bb0, 1, none⟩ = some v3 ∧ W.cell? ⟨be, 0, none⟩ = some v4 ∧ W.cell? ⟨be, 1, none⟩ = some v5 ∧ Rest w wd g (n + 1) be sb m xs (offS base S K) S K oN (k + 1) W)
    (hl : xs.length = n + 1) (hm : n - k = m + 1) (hk : k < n) (hn : n + 1 ≤ 65536) (hN : oN = offS base S K (n + 1)) (hbd : ∀ j, j ≤ n + 1 → 0 ≤ offS base S K j ∧ offS base S K j ≤ 16777216) (hsz : ∀ j, j < n + 1 → (S j).size ≤ 1048576) :
    Calls Try.prog 64 #[.pointer (some ⟨sb, 0, none⟩)] W fun e w' => e = .returned (P2 (npO oN) (npL 1 (oN + 1))) ∧ Below W.heap.size W w' := by
  have h1 := h.2.2.2.2.2.2
  have h2 := h1.1.endP (p := k + 1) (m := m) (cap := m + 1) hl (by omega) hn h1.2.2 hbd hsz
  rw [show k + 1 + m + 1 = n + 1 by omega, ← hN] at h2
  exact h2
def RelWE (w : World) (wd g n be : Nat) (xs : List Value) (off : Nat → Int) (S : Nat → ByteArray) (K : Nat → Int) (la i : Value) (wr : World) : Prop :=
  ∃ (k : Nat) (L : Int), k + 1 ≤ n ∧ i = .int .i64 ((k : Int) + 1) ∧ la = .int .u64 L ∧ 0 ≤ L ∧ L ≤ off (k + 1) ∧ WS w wd g n xs off S K wr ∧ Bk wr be 30 #[.int .u32 (npO (off n)), .int .u32 (npL 1 (off n + 1))]
set_option maxHeartbeats 8000000 in
set_option maxRecDepth 100000 in
theorem we12 (base : Int) (a ak : Option Addr) (n c lk ck : Nat) (S1 : Nat → ByteArray) (f1 : Nat → Int) (w : World) (h1 : Src w a n (fun i => .string (S1 i))) (hk1 : Src w ak lk (fun i => .int .u8 (f1 i)))
    (z1 : ∀ i, i < n → (S1 i).size ≤ 9223372036854775807) (y1 : ∀ j, j < lk → 0 ≤ f1 j ∧ f1 j ≤ 255) (c1 : a = none → c = 0) (c2 : ak = none → ck = 0) (b1 : n ≤ 9223372036854775807) (b2 : lk ≤ 9223372036854775807) (g0 : 0 ≤ base) (g1 : base < 4294967296) :
    Calls Try.prog 11 #[.int .u32 base, .slice a n c, .slice ak lk ck] w fun e w' => e = .returned (.bool true) ∧ Below w.heap.size w w' := by
  have H1 := Lib.hid h1
  have HK1 := Lib.hid hk1
  have Z1 := Lib.hid z1
  have Y1 := Lib.hid y1
  have C1 := Lib.hid c1
  have C2 := Lib.hid c2
  clear h1 hk1 z1 y1 c1 c2
  go_enter Try.func11, Try.ntmps11
  go_wp2_with fail
  refine (zzBytesWE_ok base a ak n c lk ck S1 w H1.out Z1.out b1 b2).mono ?_
  rintro e w' ⟨r, rfl, rfl, hr⟩
  cases r
  · go_wp2
    go_ret
    exact ⟨rfl, Below.refl _ _⟩
  obtain ⟨q1, q2, q3⟩ := hr rfl
  have E1 := Lib.hid (show ∀ j, j < n → (S1 j).size ≤ 1048576 from fun j hj => by have := sumS_each S1 n j hj; omega)
  clear hr Z1
  go_wp2_with fail
  refine (sizeOK_ok a ak n c lk ck S1 w H1.out E1.out q1 q2).mono ?_
  rintro e w' ⟨r, rfl, rfl, hr⟩
  cases r
  · go_wp2
    go_ret
    exact ⟨rfl, Below.refl _ _⟩
  have hn := hr rfl
  clear hr
  by_cases g3 : (1048576 : Int) < base
  · go_wp2
    go_ret
    exact ⟨rfl, Below.refl _ _⟩
  rcases n with _ | n
  · go_wp2
    go_ret
    exact ⟨rfl, Below.refl _ _⟩
  go_wp2_with fail
  refine (n010_12_copyStrings_any a (n + 1) c S1 w H1.out C1.out q1).mono ?_
  rintro e u1 ⟨A1, rfl, s1, p1⟩
  have HS1 := Lib.hid s1
  have P1 := Lib.hid p1
  clear s1 p1
  go_wp2_with fail
  refine (n010_12_copyKinds_any ak lk ck f1 u1 (HK1.out.keep P1.out) C2.out q2).mono ?_
  rintro e u2 ⟨A2, rfl, s2, p2⟩
  have HS2 := Lib.hid s2
  have HS1' := Lib.hid (HS1.out.keep p2)
  have P2' := Lib.hid (bmore P1.out p2)
  clear s2 p2 HS1 P1
  have O1 : ∀ j, j ≤ n + 1 → 0 ≤ offS base S1 (kdOf lk f1) j ∧ offS base S1 (kdOf lk f1) j ≤ 16777216 := fun j hj => by
    have := offS_bd base S1 (kdOf lk f1) (by omega) j
    have := sumS_mono S1 (n + 1) j hj
    omega
  have HO1 := Lib.hid O1
  clear O1
  go_wp2_with fail
  refine (buildWord_any base A1 A2 (n + 1) (n + 1) lk lk S1 f1 (offS base S1 (kdOf lk f1)) u2 HS1'.out HS2.out Y1.out (by omega) rfl (fun _ _ => rfl) HO1.out E1.out).mono ?_
  rintro e u3 ⟨wd, g, rfl, kA, hga, rA, p3⟩
  obtain ⟨xs, lA, cA⟩ := WE_list rA
  have hW : WS w wd g (n + 1) xs (offS base S1 (kdOf lk f1)) S1 (kdOf lk f1) u3 := ⟨kA, cA, bmore P2'.out p3⟩
  have HW := Lib.hid hW
  have LA := Lib.hid lA
  clear kA rA cA p3 hW HS1' HS2 P2' lA H1 HK1 C1 C2 Y1 hga q1 q2 q3
  go_wp2_with fail
  refine (HW.out.endP (p := 0) (m := n) (cap := n + 1) LA.out (by omega) hn (by rw [HW.out.1.cells]; rfl) HO1.out E1.out).mono ?_
  rintro e u4 ⟨rfl, p4⟩
  have HW4 := Lib.hid (HW.out.keep p4)
  clear p4 HW
  rw [Nat.zero_add]
  have lw := HW4.out.1.lt
  have cw := HW4.out.1.cells
  go_wp2
  have hE4 := Bk.fresh u4 30 #[.int .u32 (npO (offS base S1 (kdOf lk f1) (n + 1))), .int .u32 (npL 1 (offS base S1 (kdOf lk f1) (n + 1) + 1))]
  have hW4 := HW4.out.keep (W1 := u4.alloc (.cells #[.int .u32 (npO (offS base S1 (kdOf lk f1) (n + 1))), .int .u32 (npL 1 (offS base S1 (kdOf lk f1) (n + 1) + 1))] 30)) ((Below.refl _ _).alloc (Nat.le_refl _) _)
  revert hE4 hW4
  generalize u4.alloc (.cells #[.int .u32 (npO (offS base S1 (kdOf lk f1) (n + 1))), .int .u32 (npL 1 (offS base S1 (kdOf lk f1) (n + 1) + 1))] 30) = U
  generalize u4.heap.size = be
  intro hE4 hW4
  clear HW4 lw cw
  go_loopw [9, 10] (fun la i wr => RelWE w wd g (n + 1) be xs (offS base S1 (kdOf lk f1)) S1 (kdOf lk f1) la i wr) (fun _ i _ => n + 1 - (intOf i).toNat)
  case atStart => exact ⟨0, 0, by omega, by go_num, rfl, by omega, (HO1.out 1 (by omega)).1, hW4, hE4⟩
  case round =>
    clear hE4 hW4
    obtain ⟨k, L, hk, rfl, rfl, L0, L1, hW, hE⟩ := hrel
    have cw := hW.1.cells
    have lw := hW.1.lt
    have HW := Lib.hid hW
    have HE := Lib.hid hE
    clear hW hE
    by_cases hlt : k < n
    · have hlt' : (k : Int) + 1 < (n : Int) + 1 := by omega
      have i0 : (0 : Int) ≤ (k : Int) + 1 := by omega
      have i1 : (k : Int) + 1 ≤ (n : Int) + 1 := by omega
      have i2 : ((k : Int) + 1).toNat = k + 1 := by omega
      have i3 : (((n : Int) + 1) - ((k : Int) + 1)).toNat = n - k := by omega
      go_wp2_with fail
      have hA : Below wr.heap.size wr (wr.alloc (.cells #[.slice (some ⟨g, 0, none⟩) (k + 1) (n + 1)] 37)) := (Below.refl _ _).alloc (Nat.le_refl _) _
      refine ((HW.out.keep hA).endP (p := 0) (m := k) (cap := n + 1) LA.out (by omega) hn (by rw [(Bk.fresh wr _ _).cells]; rfl) HO1.out E1.out).mono ?_
      rintro e v1 ⟨rfl, p1⟩
      have hA1 := bmore hA p1
      have HW1 := Lib.hid (HW.out.keep hA1)
      have HE1 := Lib.hid (HE.out.keep hA1)
      clear hA p1 hA1 HW HE cw lw
      rw [Nat.zero_add]
      have cw := HW1.out.1.cells
      have lw := HW1.out.1.lt
      obtain ⟨oK, hoK⟩ : ∃ x, x = offS base S1 (kdOf lk f1) (k + 1) := ⟨_, rfl⟩
      obtain ⟨oN, hoN⟩ : ∃ x, x = offS base S1 (kdOf lk f1) (n + 1) := ⟨_, rfl⟩
      have bK := HO1.out (k + 1) (by omega)
      have bN := HO1.out (n + 1) (by omega)
      rw [← hoK] at bK L1 ⊢
      rw [← hoN] at bN ⊢
      have HK := Lib.hid hoK
      have HN := Lib.hid hoN
      clear hoK hoN
      go_wp2_with fail
      obtain ⟨m, hm⟩ : ∃ m, n - k = m + 1 := ⟨n - k - 1, by omega⟩
      rw [hm]
      have hA : Below v1.heap.size v1 ((v1.alloc (.cells #[.int .u32 (npO oK), .int .u32 (npL 1 (oK + 1))] 30)).alloc (.cells #[.slice (some ⟨g, k + 1, none⟩) (m + 1) (m + 1)] 37)) := by go_grown
      have hRs : Rest w wd g (n + 1) be (v1.heap.size + 1) m xs (offS base S1 (kdOf lk f1)) S1 (kdOf lk f1) oN (k + 1) ((v1.alloc (.cells #[.int .u32 (npO oK), .int .u32 (npL 1 (oK + 1))] 30)).alloc (.cells #[.slice (some ⟨g, k + 1, none⟩) (m + 1) (m + 1)] 37)) := ⟨HW1.out.keep hA, by rw [HN.out]; exact HE1.out.keep hA, by rw [(Bk.newAt (g := v1.heap.size + 1) (by simp)).cells]; rfl⟩
      have hBa : Bk ((v1.alloc (.cells #[.int .u32 (npO oK), .int .u32 (npL 1 (oK + 1))] 30)).alloc (.cells #[.slice (some ⟨g, k + 1, none⟩) (m + 1) (m + 1)] 37)) v1.heap.size 30 #[.int .u32 (npO oK), .int .u32 (npL 1 (oK + 1))] := (Bk.fresh _ _ _).alloc _
      have HRs := Lib.hid hRs
      have HBa := Lib.hid hBa
      clear hA hRs hBa
      have hps := HRs.out.1.posP (p := k + 1) (m := m) (cap := m + 1) LA.out (by omega) hn HRs.out.2.2
      rw [← HK.out] at hps
      refine hps.mono ?_
      clear hps
      rintro e v2 ⟨rfl, p2⟩
      have HR2 := Lib.hid (HRs.out.keep p2)
      have HB2 := Lib.hid (HBa.out.keep p2)
      clear p2 HRs HBa HW1 HE1 cw lw
      generalize v1.heap.size + 1 = sb at HR2 ⊢
      generalize v1.heap.size = ba at HB2 ⊢
      go_upto_region 20 with (fail)
      have hU : Below v2.heap.size v2 (v2.alloc (.cells #[.int .u32 (npO oK), .int .u32 (npL 1 (oK + 1))] 30)) := (Below.refl _ _).alloc (Nat.le_refl _) _
      have hR := HR2.out.keep hU
      have hBa := HB2.out.keep hU
      have hBb := Bk.fresh v2 30 #[.int .u32 (npO oK), .int .u32 (npL 1 (oK + 1))]
      revert hR hBa hBb
      generalize v2.alloc (.cells #[.int .u32 (npO oK), .int .u32 (npL 1 (oK + 1))] 30) = V
      generalize v2.heap.size = bb
      intro hR hBa hBb
      have x0 : V.cell? ⟨ba, 0, none⟩ = some (.int .u32 (npO oK)) := by rw [hBa.cells]; rfl
      have x1 : V.cell? ⟨ba, 1, none⟩ = some (.int .u32 (npL 1 (oK + 1))) := by rw [hBa.cells]; rfl
      have x2 : V.cell? ⟨bb, 0, none⟩ = some (.int .u32 (npO oK)) := by rw [hBb.cells]; rfl
      have x3 : V.cell? ⟨bb, 1, none⟩ = some (.int .u32 (npL 1 (oK + 1))) := by rw [hBb.cells]; rfl
      have x4 : V.cell? ⟨be, 0, none⟩ = some (.int .u32 (npO oN)) := by rw [hR.2.1.cells]; rfl
      have x5 : V.cell? ⟨be, 1, none⟩ = some (.int .u32 (npL 1 (oN + 1))) := by rw [hR.2.1.cells]; rfl
      have hKN : oK ≤ oN := by
        have := offS_mono base S1 (kdOf lk f1) (k + 1) (n - k)
        rw [show k + 1 + (n - k) = n + 1 by omega] at this
        rw [HK.out, HN.out]; exact this
      have o1 : 0 ≤ npO oK ∧ npO oK ≤ 4294967284 := npO_bd _ (by omega)
      have o2 : 0 ≤ npO oN ∧ npO oN ≤ 4294967284 := npO_bd _ (by omega)
      have l1 : 0 ≤ npL 1 (oK + 1) ∧ npL 1 (oK + 1) < 4294967296 := npL_bd _ _ (by omega) (by omega)
      have l2 : 0 ≤ npL 1 (oN + 1) ∧ npL 1 (oN + 1) < 4294967296 := npL_bd _ _ (by omega) (by omega)
      have qK : offv (npO oK) = oK := by unfold offv npO; split <;> omega
      have qN : offv (npO oN) = oN := by unfold offv npO; split <;> omega
      have QN := Lib.hid qN
      have QK := Lib.hid qK
      clear hU HR2 HB2 hBa hBb qN
      go_region_held3 (fun W => W.cell? ⟨ba, 0, none⟩ = some (.int .u32 (npO oK)) ∧ W.cell? ⟨ba, 1, none⟩ = some (.int .u32 (npL 1 (oK + 1))) ∧ W.cell? ⟨bb, 0, none⟩ = some (.int .u32 (npO oK)) ∧ W.cell? ⟨bb, 1, none⟩ = some (.int .u32 (npL 1 (oK + 1))) ∧ W.cell? ⟨be, 0, none⟩ = some (.int .u32 (npO oN)) ∧ W.cell? ⟨be, 1, none⟩ = some (.int .u32 (npL 1 (oN + 1))) ∧ Rest w wd g (n + 1) be sb m xs (offS base S1 (kdOf lk f1)) S1 (kdOf lk f1) oN (k + 1) W) (first | exact ⟨x0, x1, x2, x3, x4, x5, hR.drew⟩ | exact keep7 (fun _ hb h => h.keep hb) (by assumption) (by assumption)) (first | (go_at_call 40; refine (offset_any _ _ _ (by omega) (by omega)).mono ?_; rintro e w' ⟨rfl, hb⟩) | (go_at_call 60; refine (line_any _ _ _ (by omega) (by omega)).mono ?_; rintro e w' ⟨rfl, hb⟩) | (go_at_call 61; refine (col_any _ _ _ (by omega) (by omega)).mono ?_; rintro e w' ⟨rfl, hb⟩))
      rename_i hH
      clear x0 x1 x2 x3 x4 x5 hR
      obtain ⟨x0, x1, x2, x3, x4, x5, hR⟩ := hH
      go_wp2_with fail
      refine (offset_any _ _ _ (by omega) (by omega)).mono ?_
      rintro e V2 ⟨rfl, hb⟩
      rw [QK.out]
      obtain ⟨y0, y1, y2, y3, y4, y5, hR2⟩ := keep7 (R := Rest w wd g (n + 1) be sb m xs (offS base S1 (kdOf lk f1)) S1 (kdOf lk f1) oN (k + 1)) (fun _ hb h => Rest.keep h hb) ⟨x0, x1, x2, x3, x4, x5, hR⟩ hb
      clear hb x0 x1 x2 x3 x4 x5 hR
      by_cases hc : oK + 1 ≤ 16383
      · go_upto_region 23 with (fail)
        go_region_held3 (fun W => W.cell? ⟨ba, 0, none⟩ = some (.int .u32 (npO oK)) ∧ W.cell? ⟨ba, 1, none⟩ = some (.int .u32 (npL 1 (oK + 1))) ∧ W.cell? ⟨bb, 0, none⟩ = some (.int .u32 (npO oK)) ∧ W.cell? ⟨bb, 1, none⟩ = some (.int .u32 (npL 1 (oK + 1))) ∧ W.cell? ⟨be, 0, none⟩ = some (.int .u32 (npO oN)) ∧ W.cell? ⟨be, 1, none⟩ = some (.int .u32 (npL 1 (oN + 1))) ∧ Rest w wd g (n + 1) be sb m xs (offS base S1 (kdOf lk f1)) S1 (kdOf lk f1) oN (k + 1) W) (first | exact ⟨y0, y1, y2, y3, y4, y5, hR2.drew⟩ | exact keep7 (fun _ hb h => h.keep hb) (by assumption) (by assumption)) (first | (go_at_call 40; refine (offset_any _ _ _ (by omega) (by omega)).mono ?_; rintro e w' ⟨rfl, hb⟩) | (go_at_call 60; refine (line_any _ _ _ (by omega) (by omega)).mono ?_; rintro e w' ⟨rfl, hb⟩) | (go_at_call 61; refine (col_any _ _ _ (by omega) (by omega)).mono ?_; rintro e w' ⟨rfl, hb⟩))
        rename_i hH
        clear y0 y1 y2 y3 y4 y5 hR2
        obtain ⟨x0, x1, x2, x3, x4, x5, hR⟩ := hH
        go_upto_region 27 with (fail)
        have qN := QN.out
        have g5 : decide (oK < L) = false := by simp; omega
        have g6 : decide (oN < oK) = false := by simp; omega
        go_region_held3 (fun W => W.cell? ⟨ba, 0, none⟩ = some (.int .u32 (npO oK)) ∧ W.cell? ⟨ba, 1, none⟩ = some (.int .u32 (npL 1 (oK + 1))) ∧ W.cell? ⟨bb, 0, none⟩ = some (.int .u32 (npO oK)) ∧ W.cell? ⟨bb, 1, none⟩ = some (.int .u32 (npL 1 (oK + 1))) ∧ W.cell? ⟨be, 0, none⟩ = some (.int .u32 (npO oN)) ∧ W.cell? ⟨be, 1, none⟩ = some (.int .u32 (npL 1 (oN + 1))) ∧ Rest w wd g (n + 1) be sb m xs (offS base S1 (kdOf lk f1)) S1 (kdOf lk f1) oN (k + 1) W) (first | exact ⟨x0, x1, x2, x3, x4, x5, hR.drew⟩ | exact keep7 (fun _ hb h => h.keep hb) (by assumption) (by assumption)) (first | (go_at_call 40; refine (offset_any _ _ _ (by omega) (by omega)).mono ?_; rintro e w' ⟨rfl, hb⟩) | (go_at_call 60; refine (line_any _ _ _ (by omega) (by omega)).mono ?_; rintro e w' ⟨rfl, hb⟩) | (go_at_call 61; refine (col_any _ _ _ (by omega) (by omega)).mono ?_; rintro e w' ⟨rfl, hb⟩))
        rename_i hH
        clear x0 x1 x2 x3 x4 x5 hR g5 g6
        obtain ⟨x0, x1, x2, x3, x4, x5, hR⟩ := hH
        go_wp2_with fail
        refine (offset_any _ _ _ (by omega) (by omega)).mono ?_
        rintro e V5 ⟨rfl, hb⟩
        rw [QK.out]
        obtain ⟨y0, y1, y2, y3, y4, y5, hR2⟩ := keep7 (R := Rest w wd g (n + 1) be sb m xs (offS base S1 (kdOf lk f1)) S1 (kdOf lk f1) oN (k + 1)) (fun _ hb h => Rest.keep h hb) ⟨x0, x1, x2, x3, x4, x5, hR⟩ hb
        clear hb x0 x1 x2 x3 x4 x5 hR
        go_upto_region 30 with (fail)
        go_region_held3 (fun W => W.cell? ⟨ba, 0, none⟩ = some (.int .u32 (npO oK)) ∧ W.cell? ⟨ba, 1, none⟩ = some (.int .u32 (npL 1 (oK + 1))) ∧ W.cell? ⟨bb, 0, none⟩ = some (.int .u32 (npO oK)) ∧ W.cell? ⟨bb, 1, none⟩ = some (.int .u32 (npL 1 (oK + 1))) ∧ W.cell? ⟨be, 0, none⟩ = some (.int .u32 (npO oN)) ∧ W.cell? ⟨be, 1, none⟩ = some (.int .u32 (npL 1 (oN + 1))) ∧ Rest w wd g (n + 1) be sb m xs (offS base S1 (kdOf lk f1)) S1 (kdOf lk f1) oN (k + 1) W) (first | exact ⟨y0, y1, y2, y3, y4, y5, hR2.drew⟩ | exact keep7 (fun _ hb h => h.keep hb) (by assumption) (by assumption)) (first | (go_at_call 64; refine (Rest.endS (by assumption) LA.out hm hlt hn HN.out HO1.out E1.out).mono ?_; rintro e w' ⟨rfl, hb⟩))
        rename_i hH
        clear y0 y1 y2 y3 y4 y5 hR2
        have HH := Lib.hid hH.2.2.2.2.2.2
        clear hH
        go_wp2
        go_roundw
        case rel =>
          have hN := HN.out
          clear HN
          subst hN
          repeat apply Exists.intro
          exact ⟨⟨k + 1, oK, by omega, by go_num, rfl, by omega, by rw [HK.out]; exact offS_mono _ _ _ (k + 1) 1, HH.out.1, HH.out.2.1⟩, rfl⟩
        case measure => simp [intOf]; omega
      · have hcol : npL 1 (oK + 1) % 16384 = 0 := by
          rw [npL_1]; unfold npF; rw [if_pos (by omega)]; omega
        have HCL := Lib.hid hcol
        clear hcol
        go_wp2_with fail
        refine (col_any _ _ _ (by omega) (by omega)).mono ?_
        rintro e V3 ⟨rfl, hb⟩
        rw [HCL.out]
        obtain ⟨x0, x1, x2, x3, x4, x5, hR⟩ := keep7 (R := Rest w wd g (n + 1) be sb m xs (offS base S1 (kdOf lk f1)) S1 (kdOf lk f1) oN (k + 1)) (fun _ hb h => Rest.keep h hb) ⟨y0, y1, y2, y3, y4, y5, hR2⟩ hb
        clear hb y0 y1 y2 y3 y4 y5 hR2
        go_wp2_with fail
        refine (col_any _ _ _ (by omega) (by omega)).mono ?_
        rintro e V4 ⟨rfl, hb⟩
        rw [HCL.out]
        obtain ⟨y0, y1, y2, y3, y4, y5, hR2⟩ := keep7 (R := Rest w wd g (n + 1) be sb m xs (offS base S1 (kdOf lk f1)) S1 (kdOf lk f1) oN (k + 1)) (fun _ hb h => Rest.keep h hb) ⟨x0, x1, x2, x3, x4, x5, hR⟩ hb
        clear hb x0 x1 x2 x3 x4 x5 hR HCL
        have x0 := y0; have x1 := y1; have x2 := y2; have x3 := y3; have x4 := y4; have x5 := y5; have hR := hR2
        clear y0 y1 y2 y3 y4 y5 hR2
        go_upto_region 27 with (fail)
        have qN := QN.out
        have g5 : decide (oK < L) = false := by simp; omega
        have g6 : decide (oN < oK) = false := by simp; omega
        go_region_held3 (fun W => W.cell? ⟨ba, 0, none⟩ = some (.int .u32 (npO oK)) ∧ W.cell? ⟨ba, 1, none⟩ = some (.int .u32 (npL 1 (oK + 1))) ∧ W.cell? ⟨bb, 0, none⟩ = some (.int .u32 (npO oK)) ∧ W.cell? ⟨bb, 1, none⟩ = some (.int .u32 (npL 1 (oK + 1))) ∧ W.cell? ⟨be, 0, none⟩ = some (.int .u32 (npO oN)) ∧ W.cell? ⟨be, 1, none⟩ = some (.int .u32 (npL 1 (oN + 1))) ∧ Rest w wd g (n + 1) be sb m xs (offS base S1 (kdOf lk f1)) S1 (kdOf lk f1) oN (k + 1) W) (first | exact ⟨x0, x1, x2, x3, x4, x5, hR.drew⟩ | exact keep7 (fun _ hb h => h.keep hb) (by assumption) (by assumption)) (first | (go_at_call 40; refine (offset_any _ _ _ (by omega) (by omega)).mono ?_; rintro e w' ⟨rfl, hb⟩) | (go_at_call 60; refine (line_any _ _ _ (by omega) (by omega)).mono ?_; rintro e w' ⟨rfl, hb⟩) | (go_at_call 61; refine (col_any _ _ _ (by omega) (by omega)).mono ?_; rintro e w' ⟨rfl, hb⟩))
        rename_i hH
        clear x0 x1 x2 x3 x4 x5 hR g5 g6
        obtain ⟨x0, x1, x2, x3, x4, x5, hR⟩ := hH
        go_wp2_with fail
        refine (offset_any _ _ _ (by omega) (by omega)).mono ?_
        rintro e V5 ⟨rfl, hb⟩
        rw [QK.out]
        obtain ⟨y0, y1, y2, y3, y4, y5, hR2⟩ := keep7 (R := Rest w wd g (n + 1) be sb m xs (offS base S1 (kdOf lk f1)) S1 (kdOf lk f1) oN (k + 1)) (fun _ hb h => Rest.keep h hb) ⟨x0, x1, x2, x3, x4, x5, hR⟩ hb
        clear hb x0 x1 x2 x3 x4 x5 hR
        go_upto_region 30 with (fail)
        go_region_held3 (fun W => W.cell? ⟨ba, 0, none⟩ = some (.int .u32 (npO oK)) ∧ W.cell? ⟨ba, 1, none⟩ = some (.int .u32 (npL 1 (oK + 1))) ∧ W.cell? ⟨bb, 0, none⟩ = some (.int .u32 (npO oK)) ∧ W.cell? ⟨bb, 1, none⟩ = some (.int .u32 (npL 1 (oK + 1))) ∧ W.cell? ⟨be, 0, none⟩ = some (.int .u32 (npO oN)) ∧ W.cell? ⟨be, 1, none⟩ = some (.int .u32 (npL 1 (oN + 1))) ∧ Rest w wd g (n + 1) be sb m xs (offS base S1 (kdOf lk f1)) S1 (kdOf lk f1) oN (k + 1) W) (first | exact ⟨y0, y1, y2, y3, y4, y5, hR2.drew⟩ | exact keep7 (fun _ hb h => h.keep hb) (by assumption) (by assumption)) (first | (go_at_call 64; refine (Rest.endS (by assumption) LA.out hm hlt hn HN.out HO1.out E1.out).mono ?_; rintro e w' ⟨rfl, hb⟩))
        rename_i hH
        clear y0 y1 y2 y3 y4 y5 hR2
        have HH := Lib.hid hH.2.2.2.2.2.2
        clear hH
        go_wp2
        go_roundw
        case rel =>
          have hN := HN.out
          clear HN
          subst hN
          repeat apply Exists.intro
          exact ⟨⟨k + 1, oK, by omega, by go_num, rfl, by omega, by rw [HK.out]; exact offS_mono _ _ _ (k + 1) 1, HH.out.1, HH.out.2.1⟩, rfl⟩
        case measure => simp [intOf]; omega
    · obtain rfl : k = n := by omega
      have hlt' : ¬ (k : Int) + 1 < (k : Int) + 1 := by omega
      go_wp2
      go_ret
      exact ⟨rfl, HW.out.2.2⟩
theorem walkFnWordEndContiguous (b0 : Int) (a0 : Option Addr) (len0 cap0 : Nat) (z0 : Nat → ByteArray) (a1 : Option Addr) (len1 cap1 : Nat) (z1 : List Int) (w : World)
    (wb : (Lit.int .u32 b0).wf = true) (w0 : IsStrs w a0 len0 cap0 z0) (w1 : IsRow .u8 w a1 len1 cap1 z1) :
    Calls Try.prog 11 #[.int .u32 b0, .slice a0 len0 cap0, .slice a1 len1 cap1] w fun e w' => e = .returned (.bool true) ∧ Below w.heap.size w w' := by
  have hu : ∀ z : Int, (Lit.int .u8 z).wf = true → 0 ≤ z ∧ z ≤ 255 := fun z h => by have := bounds_u8 h; omega
  have l0 := w0.len
  have l1 := w1.len
  have hb := bounds_u32 wb
  exact we12 b0 a0 a1 len0 cap0 len1 cap1 z0 (fun i => z1.getD i 0) w w0.src w1.src (fun i hi => w0.each hi) (fun i hi => hu _ (w1.wf hi)) (fun h => by subst h; exact w0.nilcap.2) (fun h => by subst h; exact w1.nilcap.2) (by omega) (by omega) (by omega) (by omega)
end Go.Proofs.Ytimaobpcefgdkaa
