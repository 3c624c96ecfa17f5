/- The walk of FnWordLitJoin. -/
import Derived.Test.YtimaobpcefgdkaaWJ
import Derived.Test.YtimaobpcefgdkaaWLitN
import Derived.Deep.Cut
namespace Go.Proofs.Ytimaobpcefgdkaa
open Go.RowKit
def offS (base : Int) (S : Nat → ByteArray) (K : Nat → Int) : Nat → Int
  | 0 => base
  | k + 1 => offS base S K k + (S k).size + (if K k = 0 then 0 else 2)
theorem offS_bd (base : Int) (S : Nat → ByteArray) (K : Nat → Int) (hb : 0 ≤ base) : ∀ k, 0 ≤ offS base S K k ∧ offS base S K k ≤ base + sumS S k + 2 * k
  | 0 => by simp [offS, sumS]; omega
  | k + 1 => by
    have := offS_bd base S K hb k
    have := sumS_nonneg S k
    simp only [offS, sumS]
    split <;> omega
/-- The two words, told by their parts. -/
def JS (w : World) (wa ga wb gb na nb : Nat) (xsA xsB : List Value) (o1 o2 : Nat → Int) (S1 S2 : Nat → ByteArray) (K1 K2 : Nat → Int) (W : World) : Prop :=
  Bk W wa 37 #[.slice (some ⟨ga, 0, none⟩) na na] ∧ Bk W wb 37 #[.slice (some ⟨gb, 0, none⟩) nb nb] ∧
  (∀ j u, xsA[j]? = some u → W.cell? ⟨ga, j, none⟩ = some u ∧ PEl o1 S1 K1 j u W) ∧ (∀ j u, xsB[j]? = some u → W.cell? ⟨gb, j, none⟩ = some u ∧ PEl o2 S2 K2 j u W) ∧ Below w.heap.size w W
theorem JS.keep {w : World} {wa ga wb gb na nb : Nat} {xsA xsB : List Value} {o1 o2 : Nat → Int} {S1 S2 : Nat → ByteArray} {K1 K2 : Nat → Int} {W W1 : World} (h : JS w wa ga wb gb na nb xsA xsB o1 o2 S1 S2 K1 K2 W) (hb : Below W.heap.size W W1) : JS w wa ga wb gb na nb xsA xsB o1 o2 S1 S2 K1 K2 W1 :=
  ⟨h.1.keep hb, h.2.1.keep hb, fun j u q => ⟨keepc hb (h.2.2.1 j u q).1, (h.2.2.1 j u q).2.keep hb⟩, fun j u q => ⟨keepc hb (h.2.2.2.1 j u q).1, (h.2.2.2.1 j u q).2.keep hb⟩, bmore h.2.2.2.2 hb⟩
theorem Built.list {w W : World} {base g n : Nat} {off : Nat → Int} {S : Nat → ByteArray} {K : Nat → Int} (_ : base = w.heap.size) (h : RowOf W base g 134 n n (PEl off S K)) : ∃ xs : List Value, xs.length = n ∧ ∀ j u, xs[j]? = some u → W.cell? ⟨g, j, none⟩ = some u ∧ PEl off S K j u W := by
  obtain ⟨xs, ho, he⟩ := h
  have hl : xs.length = n := by simpa using ho.1
  refine ⟨xs, hl, fun j u hj => ⟨?_, he j u hj⟩⟩
  rw [ho.cellAt j (by have := (List.getElem?_eq_some_iff.1 hj).1; omega)]
  exact hj
theorem PEl.oneCell {off : Nat → Int} {S : Nat → ByteArray} {K : Nat → Int} {j : Nat} {v : Value} {W : World} (h : PEl off S K j v W) : v.oneCell' = true := by
  obtain ⟨b, ⟨_, rfl, _⟩ | ⟨_, rfl, _⟩ | ⟨_, _, rfl, _⟩⟩ := h <;> rfl
theorem add_at (g j : Nat) : (⟨g, 0, none⟩ : Addr).add j = ⟨g, j, none⟩ := by
  unfold Addr.add
  split
  · subst_vars; rfl
  · simp
theorem makeWP (na nb : Nat) (hn : na + nb ≤ 65536) (W : World) : (Instr.makeSlice 35 (.int .i64 0) (.int .i64 ((na : Int) + (nb : Int)))).run Try.prog W = .ok (.slice (some ⟨W.heap.size, 0, none⟩) 0 (na + nb)) (W.alloc (.cells (madeCells #[.nilIface] (na + nb)) 134)) := by
  obtain ⟨i0, hi, hz0, hz1, hz2⟩ := info_parts infoWP
  have h := run_make (P := Try.prog) W 35 134 i0 _ Try.underlying35 hi hz0 .i64 .i64 0 ((na : Int) + (nb : Int)) (by omega) (by omega) (by rw [hz2]; omega) (by omega)
  rw [hz1, show (Value.nilIface).cells = #[.nilIface] from rfl] at h
  have e : ((na : Int) + (nb : Int)).toNat = na + nb := by omega
  simpa [e] using h
theorem ownFresh {base n : Nat} (W : World) (e : TypeId) (z : Value) (hb : base ≤ W.heap.size) (hn : n ≤ maxLen) : (W.alloc (.cells (madeCells #[z] n) e)).ownsRow base e 1 (.slice (some ⟨W.heap.size, 0, none⟩) 0 n) 0 [] := by
  have hl : (madeCells #[z] n).toList = List.replicate n z := toList_madeCells_one z n
  have hs : (madeCells #[z] n).size = n := by rw [← Array.length_toList, hl]; simp
  exact ⟨by simp, .inr ⟨W.heap.size, n, madeCells #[z] n, rfl, hb, heap_alloc_new W _, Nat.zero_le _, hn, by simp [hs], by simp⟩⟩
theorem PEl.lit {off : Nat → Int} {S : Nat → ByteArray} {K : Nat → Int} {j : Nat} {v : Value} {W : World} (h : PEl off S K j v W) (hK : K j = 0) : LitPart W v (S j) := by
  obtain ⟨b, ⟨_, hv, hb⟩ | ⟨h1, _, _⟩ | ⟨h1, _, _, _⟩⟩ := h
  · exact ⟨b, hv, by rw [hb.cells]; rfl⟩
  · omega
  · omega
theorem PEl.quo {off : Nat → Int} {S : Nat → ByteArray} {K : Nat → Int} {j : Nat} {v : Value} {W : World} (h : PEl off S K j v W) (hK : K j ≠ 0) : QuoPart v := by
  obtain ⟨b, ⟨h1, _, _⟩ | ⟨_, hv, _⟩ | ⟨_, _, hv, _⟩⟩ := h
  · omega
  · exact ⟨b, .inl hv⟩
  · exact ⟨b, .inr hv⟩
theorem concL_succ (S : Nat → ByteArray) (n : Nat) : concL S (n + 1) = concL S n ++ (S n).data.toList := by
  unfold concL
  rw [strsL_succ, List.map_append, List.flatten_append]
  simp
theorem concL_len (S : Nat → ByteArray) : ∀ n, ((concL S n).length : Int) = sumS S n
  | 0 => by simp [concL, strsL, sumS]
  | n + 1 => by
    rw [concL_succ, List.length_append]
    have h1 := concL_len S n
    have h2 : (S n).data.toList.length = (S n).size := by rw [Array.length_toList]; rfl
    simp only [sumS]
    omega
def joinS (n : Nat) (S1 S2 : Nat → ByteArray) (j : Nat) : ByteArray := if j < n then S1 j else S2 (j - n)
theorem concL_congr {S S' : Nat → ByteArray} : ∀ n, (∀ j, j < n → S j = S' j) → concL S n = concL S' n
  | 0, _ => by simp [concL, strsL]
  | n + 1, h => by rw [concL_succ, concL_succ, concL_congr n (fun j hj => h j (by omega)), h n (by omega)]
theorem concL_join (n : Nat) (S1 S2 : Nat → ByteArray) : ∀ m, concL (joinS n S1 S2) (n + m) = concL S1 n ++ concL S2 m
  | 0 => by
    rw [Nat.add_zero, concL_congr (S' := S1) n (fun j hj => by unfold joinS; rw [if_pos hj])]
    simp [concL, strsL]
  | m + 1 => by
    rw [← Nat.add_assoc, concL_succ, concL_join n S1 S2 m, concL_succ, List.append_assoc]
    have : joinS n S1 S2 (n + m) = S2 m := by unfold joinS; rw [if_neg (by omega)]; congr 1; omega
    rw [this]
def JF (w : World) (wa ga wb gb na nb lk ll g wj : Nat) (A2 A4 : Option Addr) (xsA xsB : List Value) (o1 o2 : Nat → Int) (S1 S2 : Nat → ByteArray) (f1 f2 : Nat → Int) (W : World) : Prop :=
  JS w wa ga wb gb na nb xsA xsB o1 o2 S1 S2 (kdOf lk f1) (kdOf ll f2) W ∧ Bk W wj 37 #[.slice (some ⟨g, 0, none⟩) (na + nb) (na + nb)] ∧ (∀ j u, (xsA ++ xsB)[j]? = some u → W.cell? ⟨g, j, none⟩ = some u) ∧ Src W A2 lk (fun i => .int .u8 (f1 i)) ∧ Src W A4 ll (fun i => .int .u8 (f2 i))
section
variable {w : World} {wa ga wb gb na nb lk ll g wj : Nat} {A2 A4 : Option Addr} {xsA xsB : List Value} {o1 o2 : Nat → Int} {S1 S2 : Nat → ByteArray} {f1 f2 : Nat → Int} {W : World}
theorem JF.keep {W1 : World} (h : JF w wa ga wb gb na nb lk ll g wj A2 A4 xsA xsB o1 o2 S1 S2 f1 f2 W) (hb : Below W.heap.size W W1) : JF w wa ga wb gb na nb lk ll g wj A2 A4 xsA xsB o1 o2 S1 S2 f1 f2 W1 :=
  ⟨h.1.keep hb, h.2.1.keep hb, fun j u q => keepc hb (h.2.2.1 j u q), h.2.2.2.1.keep hb, h.2.2.2.2.keep hb⟩
theorem JF.atA (h : JF w wa ga wb gb na nb lk ll g wj A2 A4 xsA xsB o1 o2 S1 S2 f1 f2 W) (lA : xsA.length = na) {j : Nat} (hj : j < na) : ∃ v, W.cell? ⟨ga, j, none⟩ = some v ∧ W.cell? ⟨g, j, none⟩ = some v ∧ PEl o1 S1 (kdOf lk f1) j v W := by
  have hx : xsA[j]? = some xsA[j] := List.getElem?_eq_getElem (by omega)
  exact ⟨xsA[j], (h.1.2.2.1 j _ hx).1, h.2.2.1 j _ (by rw [List.getElem?_append_left (by omega)]; exact hx), (h.1.2.2.1 j _ hx).2⟩
theorem JF.atB (h : JF w wa ga wb gb na nb lk ll g wj A2 A4 xsA xsB o1 o2 S1 S2 f1 f2 W) (lA : xsA.length = na) (lB : xsB.length = nb) {j : Nat} (hj : j < nb) : ∃ v, W.cell? ⟨gb, j, none⟩ = some v ∧ W.cell? ⟨g, na + j, none⟩ = some v ∧ PEl o2 S2 (kdOf ll f2) j v W := by
  have hx : xsB[j]? = some xsB[j] := List.getElem?_eq_getElem (by omega)
  refine ⟨xsB[j], (h.1.2.2.2.1 j _ hx).1, h.2.2.1 (na + j) _ ?_, (h.1.2.2.2.1 j _ hx).2⟩
  rw [List.getElem?_append_right (by omega), lA, Nat.add_sub_cancel_left]
  exact hx
theorem JF.litA (h : JF w wa ga wb gb na nb lk ll g wj A2 A4 xsA xsB o1 o2 S1 S2 f1 f2 W) (lA : xsA.length = na) (hA : ∀ j, j < na → kdOf lk f1 j = 0) (hn : na ≤ 1048576) (hl : ((concL S1 na).length : Int) ≤ 1048576) :
    Calls Try.prog 36 #[.pointer (some ⟨wa, 0, none⟩)] W fun e w' => e = .returned (.string ⟨(concL S1 na).toArray⟩) ∧ Below W.heap.size W w' :=
  Word_Lit_all wa ga na na S1 W (by rw [h.1.1.cells]; rfl) (fun j hj => by obtain ⟨v, q1, _, q3⟩ := h.atA lA hj; exact ⟨v, q1, q3.lit (hA j hj)⟩) hn (by omega)
theorem JF.litB (h : JF w wa ga wb gb na nb lk ll g wj A2 A4 xsA xsB o1 o2 S1 S2 f1 f2 W) (lB : xsB.length = nb) (hA : ∀ j, j < nb → kdOf ll f2 j = 0) (hn : nb ≤ 1048576) (hl : ((concL S2 nb).length : Int) ≤ 1048576) :
    Calls Try.prog 36 #[.pointer (some ⟨wb, 0, none⟩)] W fun e w' => e = .returned (.string ⟨(concL S2 nb).toArray⟩) ∧ Below W.heap.size W w' :=
  Word_Lit_all wb gb nb nb S2 W (by rw [h.1.2.1.cells]; rfl) (fun j hj => by
    have hx : xsB[j]? = some xsB[j] := List.getElem?_eq_getElem (by omega)
    exact ⟨_, (h.1.2.2.2.1 j _ hx).1, (h.1.2.2.2.1 j _ hx).2.lit (hA j hj)⟩) hn (by omega)
theorem JF.parts (h : JF w wa ga wb gb na nb lk ll g wj A2 A4 xsA xsB o1 o2 S1 S2 f1 f2 W) (lA : xsA.length = na) (lB : xsB.length = nb) (p : Nat) (hp : p ≤ nb) (hA : ∀ j, j < na → kdOf lk f1 j = 0) (hB : ∀ j, j < p → kdOf ll f2 j = 0) :
    ∀ j, j < na + p → ∃ v, W.cell? ⟨g, j, none⟩ = some v ∧ LitPart W v (joinS na S1 S2 j) := by
  intro j hj
  rcases Nat.lt_or_ge j na with h1 | h1
  · obtain ⟨v, _, q2, q3⟩ := h.atA lA h1
    exact ⟨v, q2, by unfold joinS; rw [if_pos h1]; exact q3.lit (hA j h1)⟩
  · obtain ⟨i, rfl⟩ : ∃ i, j = na + i := ⟨j - na, by omega⟩
    obtain ⟨v, _, q2, q3⟩ := h.atB lA lB (j := i) (by omega)
    exact ⟨v, q2, by unfold joinS; rw [if_neg (by omega), Nat.add_sub_cancel_left]; exact q3.lit (hB i (by omega))⟩
theorem JF.litJ (h : JF w wa ga wb gb na nb lk ll g wj A2 A4 xsA xsB o1 o2 S1 S2 f1 f2 W) (lA : xsA.length = na) (lB : xsB.length = nb) (hA : ∀ j, j < na → kdOf lk f1 j = 0) (hB : ∀ j, j < nb → kdOf ll f2 j = 0) (hn : na + nb ≤ 1048576) (hl1 : ((concL S1 na).length : Int) ≤ 1048576) (hl2 : ((concL S2 nb).length : Int) ≤ 1048576) :
    Calls Try.prog 36 #[.pointer (some ⟨wj, 0, none⟩)] W fun e w' => e = .returned (.string ((⟨(concL S1 na).toArray⟩ : ByteArray) ++ ⟨(concL S2 nb).toArray⟩)) ∧ Below W.heap.size W w' := by
  have q := Word_Lit_all wj g (na + nb) (na + nb) (joinS na S1 S2) W (by rw [h.2.1.cells]; rfl) (h.parts lA lB nb (Nat.le_refl _) hA hB) hn (by rw [concL_join, List.length_append]; omega)
  rw [concL_join] at q
  have e : (⟨(concL S1 na ++ concL S2 nb).toArray⟩ : ByteArray) = (⟨(concL S1 na).toArray⟩ : ByteArray) ++ ⟨(concL S2 nb).toArray⟩ := by
    apply ByteArray.ext
    simp
  rw [e] at q
  exact q
theorem JF.notA (h : JF w wa ga wb gb na nb lk ll g wj A2 A4 xsA xsB o1 o2 S1 S2 f1 f2 W) (lA : xsA.length = na) {p : Nat} (hp : p < na) (hK : kdOf lk f1 p ≠ 0) (hA : ∀ j, j < p → kdOf lk f1 j = 0) (hn : na + nb ≤ 1048576) :
    Calls Try.prog 36 #[.pointer (some ⟨wj, 0, none⟩)] W fun e w' => e = .returned (.string ByteArray.empty) ∧ Below W.heap.size W w' := by
  obtain ⟨v, _, q2, q3⟩ := h.atA lA hp
  exact Word_Lit_not wj g (na + nb) (na + nb) p S1 v W (by rw [h.2.1.cells]; rfl) (fun j hj => by obtain ⟨v, _, q2, q3⟩ := h.atA lA (j := j) (by omega); exact ⟨v, q2, q3.lit (hA j hj)⟩) (by omega) q2 (q3.quo hK) hn
theorem JF.notB (h : JF w wa ga wb gb na nb lk ll g wj A2 A4 xsA xsB o1 o2 S1 S2 f1 f2 W) (lA : xsA.length = na) (lB : xsB.length = nb) (hA : ∀ j, j < na → kdOf lk f1 j = 0) {p : Nat} (hp : p < nb) (hK : kdOf ll f2 p ≠ 0) (hB : ∀ j, j < p → kdOf ll f2 j = 0) (hn : na + nb ≤ 1048576) :
    Calls Try.prog 36 #[.pointer (some ⟨wj, 0, none⟩)] W fun e w' => e = .returned (.string ByteArray.empty) ∧ Below W.heap.size W w' := by
  obtain ⟨v, _, q2, q3⟩ := h.atB lA lB hp
  exact Word_Lit_not wj g (na + nb) (na + nb) (na + p) (joinS na S1 S2) v W (by rw [h.2.1.cells]; rfl) (h.parts lA lB p (by omega) hA hB) (by omega) q2 (q3.quo hK) hn
end
set_option maxHeartbeats 8000000 in
set_option maxRecDepth 100000 in
theorem wj12 (a ak b bk : Option Addr) (n c lk ck m d ll cl : Nat) (S1 S2 : Nat → ByteArray) (f1 f2 : Nat → Int) (w : World) (h1 : Src w a n (fun i => .string (S1 i))) (h2 : Src w b m (fun i => .string (S2 i))) (k1 : Src w ak lk (fun i => .int .u8 (f1 i))) (k2 : Src w bk ll (fun i => .int .u8 (f2 i)))
    (z1 : ∀ i, i < n → (S1 i).size ≤ 9223372036854775807) (z2 : ∀ i, i < m → (S2 i).size ≤ 9223372036854775807) (y1 : ∀ i, i < lk → 0 ≤ f1 i ∧ f1 i ≤ 255) (y2 : ∀ i, i < ll → 0 ≤ f2 i ∧ f2 i ≤ 255)
    (c1 : a = none → c = 0) (c2 : ak = none → ck = 0) (c3 : b = none → d = 0) (c4 : bk = none → cl = 0)
    (b1 : n ≤ 9223372036854775807) (b2 : m ≤ 9223372036854775807) (b3 : lk ≤ 9223372036854775807) (b4 : ll ≤ 9223372036854775807) :
    Calls Try.prog 7 #[.slice a n c, .slice ak lk ck, .slice b m d, .slice bk ll cl] w fun e w' => e = .returned (.bool true) ∧ Below w.heap.size w w' := by
  have H1 := Lib.hid h1
  have H2 := Lib.hid h2
  have HK1 := Lib.hid k1
  have HK2 := Lib.hid k2
  have Z1 := Lib.hid z1
  have Z2 := Lib.hid z2
  have Y1 := Lib.hid y1
  have Y2 := Lib.hid y2
  have C1 := Lib.hid c1
  have C2 := Lib.hid c2
  have C3 := Lib.hid c3
  have C4 := Lib.hid c4
  clear h1 h2 k1 k2 z1 z2 y1 y2 c1 c2 c3 c4
  go_enter Try.func7, Try.ntmps7
  go_wp2_with fail
  refine (zzBytesWJ_ok a ak b bk n c lk ck m d ll cl S1 S2 w H1.out H2.out Z1.out Z2.out b1 b2 b3 b4).mono ?_
  rintro e w' ⟨r, rfl, rfl, hr⟩
  cases r
  · go_wp2
    go_ret
    exact ⟨rfl, Below.refl _ _⟩
  obtain ⟨q1, q2, q3, q4, q5, q6⟩ := hr rfl
  have E1 := Lib.hid (fun i (hi : i < n) => (by have := sumS_each S1 n i hi; omega : (S1 i).size ≤ 1048576))
  have E2 := Lib.hid (fun i (hi : i < m) => (by have := sumS_each S2 m i hi; omega : (S2 i).size ≤ 1048576))
  clear hr b1 b2 b3 b4 Z1 Z2
  by_cases g1 : (65536 : Int) < (n : Int) + (m : Int)
  · go_wp2
    go_ret
    exact ⟨rfl, Below.refl _ _⟩
  have hnm : n + m ≤ 65536 := by omega
  go_wp2_with fail
  refine (sizeSum_ok a ak n c lk ck S1 w H1.out E1.out q1 q3).mono ?_
  rintro e w' ⟨v1, rfl, rfl, v10, v11⟩
  go_wp2_with fail
  refine (sizeSum_ok b bk m d ll cl S2 w H2.out E2.out q2 q4).mono ?_
  rintro e w' ⟨v2, rfl, rfl, v20, v21⟩
  by_cases g2 : (1048576 : Int) < v1 + v2
  · go_wp2
    go_ret
    exact ⟨rfl, Below.refl _ _⟩
  go_wp2_with fail
  refine (n010_12_copyStrings_any a n c S1 w H1.out C1.out q1).mono ?_
  rintro e u1 ⟨A1, rfl, s1, p1⟩
  have HS1 := Lib.hid s1
  have P1 := Lib.hid p1
  clear s1 p1
  go_wp2_with fail
  refine (n010_12_copyKinds_any ak lk ck f1 u1 (HK1.out.keep P1.out) C2.out q3).mono ?_
  rintro e u2 ⟨A2, rfl, s2, p2⟩
  have HS2 := Lib.hid s2
  have HS1' := Lib.hid (HS1.out.keep p2)
  have P2' := Lib.hid (bmore P1.out p2)
  clear s2 p2 HS1 P1
  go_wp2_with fail
  refine (n010_12_copyStrings_any b m d S2 u2 (H2.out.keep P2'.out) C3.out q2).mono ?_
  rintro e u3 ⟨A3, rfl, s3, p3⟩
  have HS3 := Lib.hid s3
  have HS1 := Lib.hid (HS1'.out.keep p3)
  have HS2' := Lib.hid (HS2.out.keep p3)
  have P3 := Lib.hid (bmore P2'.out p3)
  clear s3 p3 HS1' HS2 P2'
  go_wp2_with fail
  refine (n010_12_copyKinds_any bk ll cl f2 u3 (HK2.out.keep P3.out) C4.out q4).mono ?_
  rintro e u4 ⟨A4, rfl, s4, p4⟩
  have T4 := Lib.hid s4
  have T1 := Lib.hid (HS1.out.keep p4)
  have T2 := Lib.hid (HS2'.out.keep p4)
  have T3 := Lib.hid (HS3.out.keep p4)
  have P4 := Lib.hid (bmore P3.out p4)
  clear s4 p4 HS1 HS2' HS3 P3 H1 H2 HK1 HK2 C1 C2 C3 C4
  have O1 : ∀ j, j ≤ n → 0 ≤ offS 0 S1 (kdOf lk f1) j ∧ offS 0 S1 (kdOf lk f1) j ≤ 16777216 := fun j hj => by
    have := offS_bd 0 S1 (kdOf lk f1) (by omega) j
    have := sumS_mono S1 n j hj
    omega
  have O2 : ∀ j, j ≤ m → 0 ≤ offS 0 S2 (kdOf ll f2) j ∧ offS 0 S2 (kdOf ll f2) j ≤ 16777216 := fun j hj => by
    have := offS_bd 0 S2 (kdOf ll f2) (by omega) j
    have := sumS_mono S2 m j hj
    omega
  have HO1 := Lib.hid O1
  have HO2 := Lib.hid O2
  clear O1 O2
  go_wp2_with fail
  refine (buildWord_any 0 A1 A2 n n lk lk S1 f1 (offS 0 S1 (kdOf lk f1)) u4 T1.out T2.out Y1.out (by omega) rfl (fun _ _ => rfl) HO1.out E1.out).mono ?_
  rintro e u5 ⟨wa, ga, rfl, kA, hga, rA, p5⟩
  obtain ⟨xsA, lA, cA⟩ := Built.list (w := u4) rfl rA
  have TA := Lib.hid cA
  have KA := Lib.hid kA
  have T2' := Lib.hid (T2.out.keep p5)
  have T3' := Lib.hid (T3.out.keep p5)
  have T4' := Lib.hid (T4.out.keep p5)
  have P5 := Lib.hid (bmore P4.out p5)
  clear kA rA cA p5 T1 T2 T3 T4 P4
  go_wp2_with fail
  refine (buildWord_any 0 A3 A4 m m ll ll S2 f2 (offS 0 S2 (kdOf ll f2)) u5 T3'.out T4'.out Y2.out (by omega) rfl (fun _ _ => rfl) HO2.out E2.out).mono ?_
  rintro e u6 ⟨wb, gb, rfl, kB, hgb, rB, p6⟩
  obtain ⟨xsB, lB, cB⟩ := Built.list (w := u5) rfl rB
  have hJ : JS w wa ga wb gb n m xsA xsB (offS 0 S1 (kdOf lk f1)) (offS 0 S2 (kdOf ll f2)) S1 S2 (kdOf lk f1) (kdOf ll f2) u6 := ⟨KA.out.keep p6, kB, fun j u q => ⟨keepc p6 (TA.out j u q).1, (TA.out j u q).2.keep p6⟩, cB, bmore P5.out p6⟩
  have HJ := Lib.hid hJ
  have T2 := Lib.hid (T2'.out.keep p6)
  have T4 := Lib.hid (T4'.out.keep p6)
  clear kB rB cB p6 KA TA T2' T3' T4' P5 hJ HO1 HO2
  have ca : u6.cell? ⟨wa, 0, none⟩ = some (.slice (some ⟨ga, 0, none⟩) n n) := by rw [HJ.out.1.cells]; rfl
  have cb : u6.cell? ⟨wb, 0, none⟩ = some (.slice (some ⟨gb, 0, none⟩) m m) := by rw [HJ.out.2.1.cells]; rfl
  have la := World.block_lt_of_cell? _ _ ca
  have lb := World.block_lt_of_cell? _ _ cb
  have hmk := makeWP n m (by omega)
  have iw : IntKind.i64.wrap ((n : Int) + (m : Int)) = (n : Int) + (m : Int) := IntWalk.i64_in _ (by omega)
  go_wp2_with fail
  go_region
  have ho : ((u6.alloc (.cells (madeCells #[.nilIface] (n + m)) 134)).drew).ownsRow w.heap.size 134 1 (.slice (some ⟨u6.heap.size, 0, none⟩) 0 (n + m)) 0 [] := ownFresh u6 _ _ HJ.out.2.2.2.2.size (by unfold maxLen; omega)
  have hB6 : Below u6.heap.size u6 ((u6.alloc (.cells (madeCells #[.nilIface] (n + m)) 134)).drew) := by go_grown
  revert ho hB6
  generalize (u6.alloc (.cells (madeCells #[.nilIface] (n + m)) 134)).drew = W
  intro ho hB6
  have HOW := Lib.hid ho
  have HB6 := Lib.hid hB6
  have ca' := keepc hB6 ca
  have la' := World.block_lt_of_cell? _ _ ca'
  obtain ⟨i0, hi, hz0, hz1, hz2⟩ := info_parts infoWP
  have hi2 := Lib.hid hi
  have hz1' := Lib.hid hz1
  have HCB := Lib.hid cb
  have LA := Lib.hid lA
  have LB := Lib.hid lB
  clear hi hz0 hz1 hz2 ho hB6 ca la cb lb hmk iw lA lB
  go_wp2_with (first | (at_builtin; refine wpList_append_fits _ rfl _ _ 35 rfl w.heap.size 134 i0 1 Try.underlying35 hi2.out hz1'.out u6.heap.size 0 (n + m) [] rfl HOW.out ⟨ga, 0, none⟩ n n xsA rfl (by rw [LA.out]; omega) (fun j u q => by rw [add_at]; exact keepc HB6.out (HJ.out.2.2.1 j u q).1) (fun u hu => (by obtain ⟨j, hj⟩ := List.getElem?_of_mem hu; exact (HJ.out.2.2.1 j u hj).2.oneCell)) (by omega) ?_; intro w2 ho2 hg2; simp only [Nat.zero_add, List.nil_append] at ho2 ⊢; have hB7 := below_grown HB6.out hg2 (Nat.le_refl _); have cb2 := keepc hB7 HCB.out; have lb2 := World.block_lt_of_cell? _ _ cb2; have HO2 := Lib.hid ho2; have HB7 := Lib.hid hB7; clear ho2 hg2 hB7) | (at_builtin; refine wpList_append_fits _ rfl _ _ 35 rfl w.heap.size 134 i0 1 Try.underlying35 hi2.out hz1'.out u6.heap.size n (n + m) xsA rfl HO2.out ⟨gb, 0, none⟩ m m xsB rfl (by rw [LB.out]; omega) (fun j u q => by rw [add_at]; exact keepc HB7.out (HJ.out.2.2.2.1 j u q).1) (fun u hu => (by obtain ⟨j, hj⟩ := List.getElem?_of_mem hu; exact (HJ.out.2.2.2.1 j u hj).2.oneCell)) (by omega) ?_; intro w3 ho3 hg3; have hB8 := below_grown HB7.out hg3 (Nat.le_refl _); have HO3 := Lib.hid ho3; have HB8 := Lib.hid hB8; clear ho3 hg3 hB8))
  have hJ3 : JF w wa ga wb gb n m lk ll u6.heap.size w3.heap.size A2 A4 xsA xsB (offS 0 S1 (kdOf lk f1)) (offS 0 S2 (kdOf ll f2)) S1 S2 f1 f2 (w3.alloc (.cells #[.slice (some ⟨u6.heap.size, 0, none⟩) (n + m) (n + m)] 37)) := by
    have ha : Below w3.heap.size w3 (w3.alloc (.cells #[.slice (some ⟨u6.heap.size, 0, none⟩) (n + m) (n + m)] 37)) := (Below.refl _ _).alloc (Nat.le_refl _) _
    have hb := bmore HB8.out ha
    refine ⟨HJ.out.keep hb, Bk.fresh _ _ _, fun j u q => keepc ha ?_, T2.out.keep hb, T4.out.keep hb⟩
    have hl : j < n + m := by
      have := (List.getElem?_eq_some_iff.1 q).1
      rw [List.length_append, LA.out, LB.out] at this
      exact this
    rw [HO3.out.cellAt j (by omega)]
    exact q
  have HJ3 := Lib.hid hJ3
  clear hJ3 HJ T2 T4 HO2 HO3 HB7 HB8 HOW HB6 HCB ca' la' cb2 lb2
  refine calls_gen (S := fun W => JF w wa ga wb gb n m lk ll u6.heap.size w3.heap.size A2 A4 xsA xsB (offS 0 S1 (kdOf lk f1)) (offS 0 S2 (kdOf ll f2)) S1 S2 f1 f2 W) HJ3.out ?_
  clear HJ3
  generalize u6.heap.size = g
  generalize w3.heap.size = wj
  intro W hF
  have HF := Lib.hid hF
  clear hF
  refine (allLit_ok A1 A2 n n lk lk f1 W HF.out.2.2.2.1 Y1.out (by omega)).mono ?_
  rintro e w' ⟨r, rfl, rfl, t1, t2⟩
  cases r
  · obtain ⟨p, hp, hK, hbef⟩ := t2 rfl
    have hC := HF.out.notA LA.out hp hK hbef (by omega)
    have HC := Lib.hid hC
    clear t1 t2 hC hK hbef
    go_wp2_with fail
    refine HC.out.mono ?_
    rintro e w4 ⟨rfl, hb⟩
    have hB := bmore HF.out.1.2.2.2.2 hb
    clear hb HF HC
    go_wp2
    go_ret
    exact ⟨rfl, hB⟩
  · have hA := t1 rfl
    have HA := Lib.hid hA
    clear t1 t2 hA
    go_wp2_with fail
    refine (allLit_ok A3 A4 m m ll ll f2 W HF.out.2.2.2.2 Y2.out (by omega)).mono ?_
    rintro e w' ⟨r, rfl, rfl, t1, t2⟩
    cases r
    · obtain ⟨p, hp, hK, hbef⟩ := t2 rfl
      have hC := HF.out.notB LA.out LB.out HA.out hp hK hbef (by omega)
      have HC := Lib.hid hC
      clear t1 t2 hC hK hbef
      go_wp2_with fail
      refine HC.out.mono ?_
      rintro e w4 ⟨rfl, hb⟩
      have hB := bmore HF.out.1.2.2.2.2 hb
      clear hb HF HC
      go_wp2
      go_ret
      exact ⟨rfl, hB⟩
    · have hA2 := t1 rfl
      have HA2 := Lib.hid hA2
      clear t1 t2 hA2
      have l1 := concL_len S1 n
      have l2 := concL_len S2 m
      obtain ⟨x1, hx1⟩ : ∃ x : ByteArray, x = ⟨(concL S1 n).toArray⟩ := ⟨_, rfl⟩
      obtain ⟨x2, hx2⟩ : ∃ x : ByteArray, x = ⟨(concL S2 m).toArray⟩ := ⟨_, rfl⟩
      have e1 : x1.size = (concL S1 n).length := by rw [hx1]; rfl
      have e2 : x2.size = (concL S2 m).length := by rw [hx2]; rfl
      have X1 := Lib.hid hx1
      have X2 := Lib.hid hx2
      have h4 : x1.size + x2.size ≤ 9223372036854775807 := by omega
      have h5 : (x1 ++ x2).size ≤ 9223372036854775807 := by rw [ByteArray.size_append]; omega
      have h6 : ((x1 ++ x2).toList == (x1 ++ x2).toList) = true := by simp
      have HL1 := Lib.hid (show ((concL S1 n).length : Int) ≤ 1048576 by omega)
      have HL2 := Lib.hid (show ((concL S2 m).length : Int) ≤ 1048576 by omega)
      clear hx1 hx2 l1 l2 e1 e2
      go_wp2_with fail
      have hj := HF.out.litJ LA.out LB.out HA.out HA2.out (by omega) HL1.out HL2.out
      rw [← X1.out, ← X2.out] at hj
      refine hj.mono ?_
      clear hj
      rintro e w4 ⟨rfl, hb⟩
      have HF4 := Lib.hid (HF.out.keep hb)
      clear hb HF
      go_wp2_with fail
      have hj := HF4.out.litA LA.out HA.out (by omega) HL1.out
      rw [← X1.out] at hj
      refine hj.mono ?_
      clear hj
      rintro e w5 ⟨rfl, hb⟩
      have HF5 := Lib.hid (HF4.out.keep hb)
      clear hb HF4
      go_wp2_with fail
      have hj := HF5.out.litB LB.out HA2.out (by omega) HL2.out
      rw [← X2.out] at hj
      refine hj.mono ?_
      clear hj
      rintro e w6 ⟨rfl, hb⟩
      have hB := bmore HF5.out.1.2.2.2.2 hb
      clear hb HF5
      go_wp2
      go_ret
      exact ⟨rfl, hB⟩
theorem walkFnWordLitJoin (a0 : Option Addr) (len0 cap0 : Nat) (z0 : Nat → ByteArray) (a1 : Option Addr) (len1 cap1 : Nat) (z1 : List Int) (a2 : Option Addr) (len2 cap2 : Nat) (z2 : Nat → ByteArray) (a3 : Option Addr) (len3 cap3 : Nat) (z3 : List Int) (w : World)
    (w0 : IsStrs w a0 len0 cap0 z0) (w1 : IsRow .u8 w a1 len1 cap1 z1) (w2 : IsStrs w a2 len2 cap2 z2) (w3 : IsRow .u8 w a3 len3 cap3 z3) :
    Calls Try.prog 7 #[.slice a0 len0 cap0, .slice a1 len1 cap1, .slice a2 len2 cap2, .slice a3 len3 cap3] w fun e w' => e = .returned (.bool true) ∧ Below w.heap.size w w' := by
  have hu : ∀ z : Int, (Lit.int .u8 z).wf = true → 0 ≤ z ∧ z ≤ 255 := fun z h => by have := bounds_u8 h; omega
  have l0 := w0.len
  have l1 := w1.len
  have l2 := w2.len
  have l3 := w3.len
  exact wj12 a0 a1 a2 a3 len0 cap0 len1 cap1 len2 cap2 len3 cap3 z0 z2 (fun i => z1.getD i 0) (fun i => z3.getD i 0) w w0.src w2.src w1.src w3.src (fun i hi => w0.each hi) (fun i hi => w2.each hi) (fun i hi => hu _ (w1.wf hi)) (fun i hi => hu _ (w3.wf hi))
    (fun h => by subst h; exact w0.nilcap.2) (fun h => by subst h; exact w1.nilcap.2) (fun h => by subst h; exact w2.nilcap.2) (fun h => by subst h; exact w3.nilcap.2) (by omega) (by omega) (by omega) (by omega)
end Go.Proofs.Ytimaobpcefgdkaa
