/- The walk of FnUnquotedWordBytesConcat. -/
import Derived.Test.YtnjdffnbkjjmeaaUWE
import Derived.Deep.Cut
namespace Go.Proofs.Ytnjdffnbkjjmeaa
open Go.RowKit Go.PlainAid
theorem infoStr : (Try.prog.info? 9).map (fun i => (i.zero, i.size, i.bytes)) = some (some (.string ByteArray.empty), 1, 16) := by kernel_rfl
theorem makeK8 (n1 n2 : Nat) (h1 : n1 ≤ 65536) (h2 : n2 ≤ 65536) (W : World) : (Instr.makeSlice 59 (.int .i64 0) (.int .i64 ((n1 : Int) + (n2 : Int)))).run Try.prog W = .ok (.slice (some ⟨W.heap.size, 0, none⟩) 0 (n1 + n2)) (W.alloc (.cells (madeCells #[.int .u8 0] (n1 + n2)) 5)) := by
  obtain ⟨i0, hi, hz0, hz1, hz2⟩ := info_parts infoU8
  have h := run_make (P := Try.prog) W 59 5 i0 (.int .u8 0) Try.underlying59 hi hz0 .i64 .i64 (0 : Int) ((n1 : Int) + (n2 : Int)) (by omega) (by omega) (by rw [hz2]; omega) (by omega)
  rw [hz1] at h
  have e : ((n1 : Int) + (n2 : Int)).toNat = n1 + n2 := by omega
  rw [e] at h
  simpa [Value.cells] using h
theorem makeKs (n1 n2 : Nat) (h1 : n1 ≤ 65536) (h2 : n2 ≤ 65536) (W : World) : (Instr.makeSlice 144 (.int .i64 0) (.int .i64 ((n1 : Int) + (n2 : Int)))).run Try.prog W = .ok (.slice (some ⟨W.heap.size, 0, none⟩) 0 (n1 + n2)) (W.alloc (.cells (madeCells #[.string ByteArray.empty] (n1 + n2)) 9)) := by
  obtain ⟨i0, hi, hz0, hz1, hz2⟩ := info_parts infoStr
  have h := run_make (P := Try.prog) W 144 9 i0 (.string ByteArray.empty) Try.underlying144 hi hz0 .i64 .i64 (0 : Int) ((n1 : Int) + (n2 : Int)) (by omega) (by omega) (by rw [hz2]; omega) (by omega)
  rw [hz1] at h
  have e : ((n1 : Int) + (n2 : Int)).toNat = n1 + n2 := by omega
  rw [e] at h
  simpa [Value.cells] using h
theorem RowK.fresh {N : Nat} (W : World) (g : Nat) (e : TypeId) (z : Value) (f : Nat → Value) (hg : W.heap.size = g) (hn : N ≤ maxLen) : RowK (W.alloc (.cells (madeCells #[z] N) e)) g g e 0 N f := by
  subst hg
  have hl : (madeCells #[z] N).toList = List.replicate N z := toList_madeCells_one z N
  have hs : (madeCells #[z] N).size = N := by rw [← Array.length_toList, hl]; simp
  exact ⟨[], ⟨rfl, .inr ⟨W.heap.size, N, madeCells #[z] N, rfl, Nat.le_refl _, heap_alloc_new W _, by omega, hn, by simp [hs], by simp⟩⟩, fun j hj => absurd hj (by omega)⟩
def K12 (n1 : Nat) (K1 K2 : Nat → Int) (j : Nat) : Int := if j < n1 then K1 j else K2 (j - n1)
def S12 (n1 : Nat) (S1 S2 : Nat → ByteArray) (j : Nat) : ByteArray := if j < n1 then S1 j else S2 (j - n1)
theorem K12_lt {n1 j : Nat} {K1 K2 : Nat → Int} (h : j < n1) : K12 n1 K1 K2 j = K1 j := by unfold K12; rw [if_pos h]
theorem K12_ge {n1 j : Nat} {K1 K2 : Nat → Int} : K12 n1 K1 K2 (n1 + j) = K2 j := by unfold K12; rw [if_neg (by omega)]; congr 1; omega
theorem S12_lt {n1 j : Nat} {S1 S2 : Nat → ByteArray} (h : j < n1) : S12 n1 S1 S2 j = S1 j := by unfold S12; rw [if_pos h]
theorem S12_ge {n1 j : Nat} {S1 S2 : Nat → ByteArray} : S12 n1 S1 S2 (n1 + j) = S2 j := by unfold S12; rw [if_neg (by omega)]; congr 1; omega
theorem unqWrap (p v : Value) (w : World) (R : Ending → World → Prop) (hp : ∃ a, p = .pointer a) (hv : ∃ a, v = .pointer a) (h : Calls Try.prog 83 #[p, v] w (fun e w' => ∃ v' f, e = .returned (.tuple #[v', .bool f]) ∧ R (.returned (.tuple #[v', .bool f])) w')) :
    Calls Try.prog 66 #[p, v] w R := by
  obtain ⟨a, rfl⟩ := hp
  obtain ⟨b, rfl⟩ := hv
  have H := Lib.hid h
  clear h
  go_enter Try.func66, Try.ntmps66
  go_wp2_with fail
  refine H.out.mono ?_
  rintro e w1 ⟨v', f, rfl, hR⟩
  go_wp2
  exact hR
theorem zzUnqB (pp : Value) (wd g n : Nat) (K : Nat → Int) (S : Nat → ByteArray) (w : World) (hpp : ∃ a, pp = .pointer a) (hW : Bk w wd 129 #[.slice (some ⟨g, 0, none⟩) n n]) (hr : RowOf w g g 135 n n (El144 g K S)) (hn : n ≤ 1048576) (hs : sumU S n ≤ 1048576) :
    Calls Try.prog 66 #[pp, .pointer (some ⟨wd, 0, none⟩)] w (EndUB w (catU K S n) (flU K S n)) := by
  refine unqWrap _ _ _ _ hpp ⟨_, rfl⟩ ((unqBytes pp wd g n K S w hpp hW hr hn hs).mono ?_)
  rintro e w' ⟨v, rfl, h⟩
  exact ⟨_, _, rfl, v, rfl, h⟩
/-- The rows k12 and v12, as far as they are filled. -/
def RelC (W4 : World) (gk gv N : Nat) (K : Nat → Int) (S : Nat → ByteArray) (c : Nat) (a b : Value) (wr : World) : Prop :=
  a = .slice (some ⟨gk, 0, none⟩) c N ∧ b = .slice (some ⟨gv, 0, none⟩) c N ∧ RowK wr gk gk 5 c N (fun j => .int .u8 (K j)) ∧ RowK wr gv gv 9 c N (fun j => .string (S j)) ∧ Below W4.heap.size W4 wr
def RelC1 (W4 : World) (gk gv N n : Nat) (K : Nat → Int) (S : Nat → ByteArray) (a b i : Value) (wr : World) : Prop := ∃ k : Nat, k ≤ n ∧ i = .int .i64 k ∧ RelC W4 gk gv N K S k a b wr
def RelC2 (W4 : World) (gk gv N n1 n : Nat) (K : Nat → Int) (S : Nat → ByteArray) (a b i : Value) (wr : World) : Prop := ∃ k : Nat, k ≤ n ∧ i = .int .i64 k ∧ RelC W4 gk gv N K S (n1 + k) a b wr
def RelO (w W7 : World) (n : Nat) (i : Value) (wr : World) : Prop := ∃ k : Nat, k ≤ n ∧ i = .int .i64 k ∧ Below W7.heap.size W7 wr ∧ Below w.heap.size w wr
set_option maxHeartbeats 8000000 in
set_option maxRecDepth 100000 in
theorem law_uw (ak1 a1 ak2 a2 : Option Addr) (lk1 ck1 l1 c1 lk2 ck2 l2 c2 : Nat) (K1 K2 : Nat → Int) (S1 S2 : Nat → ByteArray) (w : World) (h1 : Src w ak1 lk1 (fun i => .int .u8 (K1 i))) (h2 : Src w a1 l1 (fun i => .string (S1 i))) (h3 : Src w ak2 lk2 (fun i => .int .u8 (K2 i))) (h4 : Src w a2 l2 (fun i => .string (S2 i)))
    (hk1 : ∀ i, i < lk1 → 0 ≤ K1 i ∧ K1 i ≤ 255) (hk2 : ∀ i, i < lk2 → 0 ≤ K2 i ∧ K2 i ≤ 255) (e1 : ak1 = none → ck1 = 0) (e2 : a1 = none → c1 = 0) (e3 : ak2 = none → ck2 = 0) (e4 : a2 = none → c2 = 0)
    (b1 : lk1 ≤ 9223372036854775807) (b2 : l1 ≤ 9223372036854775807) (b3 : lk2 ≤ 9223372036854775807) (b4 : l2 ≤ 9223372036854775807) :
    Calls Try.prog 11 #[.slice ak1 lk1 ck1, .slice a1 l1 c1, .slice ak2 lk2 ck2, .slice a2 l2 c2] w fun e w' => e = .returned (.bool true) ∧ Below w.heap.size w w' := by
  obtain ⟨i0, hi, hz0, hz1, hz2⟩ := info_parts infoU8
  obtain ⟨j0, hj, hy0, hy1, hy2⟩ := info_parts infoStr
  have hi2 := Lib.hid hi
  have hz0' := Lib.hid hz0
  have hz1' := Lib.hid hz1
  have hz2' := Lib.hid hz2
  have hj2 := Lib.hid hj
  have hy0' := Lib.hid hy0
  have hy1' := Lib.hid hy1
  have hy2' := Lib.hid hy2
  have H1 := Lib.hid h1
  have H2 := Lib.hid h2
  have H3 := Lib.hid h3
  have H4 := Lib.hid h4
  have HK1 := Lib.hid hk1
  have HK2 := Lib.hid hk2
  have E1 := Lib.hid e1
  have E2 := Lib.hid e2
  have E3 := Lib.hid e3
  have E4 := Lib.hid e4
  clear hi hz0 hz1 hz2 hj hy0 hy1 hy2 h1 h2 h3 h4 hk1 hk2 e1 e2 e3 e4
  by_cases hf : lk1 ≤ 65536 ∧ l1 ≤ 65536 ∧ lk2 ≤ 65536 ∧ l2 ≤ 65536
  case neg =>
    have HF := Lib.hid hf
    clear hf
    go_enter Try.func11, Try.ntmps11
    go_wp2_with fail
    refine (zzBytesU_ok _ _ _ _ _ _ _ _ _ _ _ _ S1 S2 _ H2.out H4.out b2 b4 b1 b3).mono ?_
    rintro e w' ⟨b, rfl, rfl, _⟩
    cases b
    · go_wp2
      go_ret
      exact ⟨rfl, Below.refl _ _⟩
    go_wp2_with fail
    all_goals (first | (go_ret; exact ⟨rfl, Below.refl _ _⟩) | (exfalso; exact HF.out ⟨by omega, by omega, by omega, by omega⟩))
  obtain ⟨f1, f2, f3, f4⟩ := hf
  have f1' : ¬ (65536 : Int) < (lk1 : Int) := by omega
  have f2' : ¬ (65536 : Int) < (l1 : Int) := by omega
  have f3' : ¬ (65536 : Int) < (lk2 : Int) := by omega
  have f4' : ¬ (65536 : Int) < (l2 : Int) := by omega
  go_enter Try.func11, Try.ntmps11
  go_wp2_with fail
  refine (zzBytesU_ok _ _ _ _ _ _ _ _ _ _ _ _ S1 S2 _ H2.out H4.out b2 b4 b1 b3).mono ?_
  rintro e w' ⟨b, rfl, rfl, hr⟩
  cases b
  · go_wp2
    go_ret
    exact ⟨rfl, Below.refl _ _⟩
  obtain ⟨_, _, _, _, z1, z2⟩ := hr rfl
  clear hr
  go_wp2_with fail
  refine (wordBytes_any _ _ _ _ _ _ S1 _ H2.out (by omega) (by omega) z1).mono ?_
  rintro e w' ⟨r1, rfl, rfl, q1⟩
  by_cases g1 : (524288 : Int) < r1
  · clear q1
    go_wp2
    go_ret
    exact ⟨rfl, Below.refl _ _⟩
  have s1 := q1 (by omega)
  clear q1
  go_wp2_with fail
  refine (wordBytes_any _ _ _ _ _ _ S2 _ H4.out (by omega) (by omega) z2).mono ?_
  rintro e w' ⟨r2, rfl, rfl, q2⟩
  by_cases g2 : (524288 : Int) < r2
  · clear q2
    go_wp2
    go_ret
    exact ⟨rfl, Below.refl _ _⟩
  have s2 := q2 (by omega)
  clear q2
  go_wp2_with fail
  refine (n010_144_zzCloneU8_any ak1 lk1 ck1 K1 _ H1.out E1.out (by omega)).mono ?_
  rintro e w1 ⟨A1, rfl, p1, hb⟩
  have B1 := hb
  have P1 := Lib.hid p1
  have H2 := Lib.hid (H2.out.keep hb)
  have H3 := Lib.hid (H3.out.keep hb)
  have H4 := Lib.hid (H4.out.keep hb)
  clear hb p1 H1
  go_wp2_with fail
  refine (n010_144_zzCloneStrs_any a1 l1 c1 S1 _ H2.out E2.out (by omega)).mono ?_
  rintro e w2 ⟨A2, rfl, p2, hb⟩
  have B2 := bmore B1 hb
  have P1 := Lib.hid (P1.out.keep hb)
  have P2 := Lib.hid p2
  have H3 := Lib.hid (H3.out.keep hb)
  have H4 := Lib.hid (H4.out.keep hb)
  clear hb p2 H2 B1
  go_wp2_with fail
  refine (n010_144_zzCloneU8_any ak2 lk2 ck2 K2 _ H3.out E3.out (by omega)).mono ?_
  rintro e w3 ⟨A3, rfl, p3, hb⟩
  have B3 := bmore B2 hb
  have P1 := Lib.hid (P1.out.keep hb)
  have P2 := Lib.hid (P2.out.keep hb)
  have P3 := Lib.hid p3
  have H4 := Lib.hid (H4.out.keep hb)
  clear hb p3 H3 B2
  go_wp2_with fail
  refine (n010_144_zzCloneStrs_any a2 l2 c2 S2 _ H4.out E4.out (by omega)).mono ?_
  rintro e w4 ⟨A4, rfl, p4, hb⟩
  have B4 := bmore B3 hb
  have P1 := Lib.hid (P1.out.keep hb)
  have P2 := Lib.hid (P2.out.keep hb)
  have P3 := Lib.hid (P3.out.keep hb)
  have P4 := Lib.hid p4
  clear hb p4 H4 B3
  obtain ⟨n1, hn1⟩ : ∃ n1, n1 = min lk1 l1 := ⟨_, rfl⟩
  obtain ⟨n2, hn2⟩ : ∃ n2, n2 = min lk2 l2 := ⟨_, rfl⟩
  have N1 := Lib.hid hn1
  have N2 := Lib.hid hn2
  have n1b : n1 ≤ 65536 := by omega
  have n2b : n2 ≤ 65536 := by omega
  clear hn1 hn2
  have hm8 := makeK8 n1 n2 n1b n2b
  have hms := makeKs n1 n2 n1b n2b
  go_wp2_with (go_at_call 65; refine (wordCount_any _ _ _ _ _ _ _).mono ?_; rintro e w' ⟨rfl, rfl⟩; first | rw [← N1.out] | rw [← N2.out])
  go_wp2
  refine wp_gen (S := fun W => RowK W w4.heap.size w4.heap.size 5 0 (n1 + n2) (fun j => .int .u8 (K12 n1 K1 K2 j)) ∧ RowK W (w4.heap.size + 1) (w4.heap.size + 1) 9 0 (n1 + n2) (fun j => .string (S12 n1 S1 S2 j)) ∧ Below w4.heap.size w4 W) ⟨RowK.keep (RowK.fresh _ _ _ _ _ rfl (by unfold maxLen; omega)) (by go_grown), RowK.fresh _ _ _ _ _ (by simp) (by unfold maxLen; omega), by go_grown⟩ ?_
  rintro W ⟨hR1, hR2, hBm⟩
  clear hm8 hms
  go_loopw [11, 12, 13] (fun a b i wr => RelC1 w4 w4.heap.size (w4.heap.size + 1) (n1 + n2) n1 (K12 n1 K1 K2) (S12 n1 S1 S2) a b i wr) (fun _ _ i _ => n1 - (intOf i).toNat)
  case atStart => exact ⟨0, by omega, by go_num, rfl, rfl, hR1, hR2, hBm⟩
  case round =>
    clear hR1 hR2 hBm
    obtain ⟨k, hk, rfl, rfl, rfl, hrk, hrs, hB⟩ := hrel
    have sB := hB.size
    by_cases hlt : k < n1
    · obtain ⟨x, hxe, hxb⟩ := src_blk P1.out (by have := N1.out; omega)
      obtain ⟨y, hye, hyb⟩ := src_blk P2.out (by have := N1.out; omega)
      obtain ⟨x', hxe', hx⟩ := (P1.out.keep hB).at_ (i := k) (by have := N1.out; omega)
      obtain ⟨y', hye', hy⟩ := (P2.out.keep hB).at_ (i := k) (by have := N1.out; omega)
      rw [hxe] at hxe'
      rw [hye] at hye'
      injection hxe' with hxe'
      injection hye' with hye'
      subst hxe' hye' hxe hye
      have hlt' : (k : Int) < (n1 : Int) := by omega
      have i0' : (0 : Int) ≤ (k : Int) := by omega
      have l1' : (k : Int) < (lk1 : Int) := by have := N1.out; omega
      have l2' : (k : Int) < (l1 : Int) := by have := N1.out; omega
      obtain ⟨xs, ho, he⟩ := hrk
      obtain ⟨ys, hs, hf⟩ := hrs
      have HE := Lib.hid he
      have HF := Lib.hid hf
      clear he hf
      go_wp2_with (first | (at_builtin; refine wpList_append_fits _ rfl (.tmp 86) (.tmp 91) 59 rfl w4.heap.size 5 i0 1 Try.underlying59 hi2.out hz1'.out w4.heap.size k (n1 + n2) xs rfl (ho.alloc _) ⟨wr.heap.size, 0, none⟩ 1 1 [.int .u8 (K1 k)] rfl rfl news1 (by simp [Value.oneCell']) (by omega) ?_; intro w5 ho2 hg2; have hy2 : w5.cell? (y.add k) = some (.string (S1 k)) := cell_grown hg2 (keepc (by go_grown) hy) (by rw [blk_of_add]; omega); have hs2 := (hs.alloc (.cells #[.int .u8 (K1 k)] 5)).kept hg2 (.inr (by simp [Value.ownBlock]))) | (at_builtin; refine wpList_append_fits _ rfl (.tmp 93) (.tmp 98) 144 rfl (w4.heap.size + 1) 9 j0 1 Try.underlying144 hj2.out hy1'.out (w4.heap.size + 1) k (n1 + n2) ys rfl (hs2.alloc _) ⟨w5.heap.size, 0, none⟩ 1 1 [.string (S1 k)] rfl rfl news1 (by simp [Value.oneCell']) (by omega) ?_; intro w6 ho3 hg3))
      have q1 := below_grown (hB.alloc sB (.cells #[.int .u8 (K1 k)] 5)) hg2 (Nat.le_refl _)
      have q2 := below_grown (q1.alloc q1.size (.cells #[.string (S1 k)] 9)) hg3 (by omega)
      have ho4 := (ho2.alloc (.cells #[.string (S1 k)] 9)).kept hg3 (.inr (by simp [Value.ownBlock]))
      have HO4 := Lib.hid ho4
      have HO3 := Lib.hid ho3
      have lx1 := own_ll ho
      have ly1 := own_ll hs
      clear ho4 ho3 ho2 hs2 hy2 hg2 hg3 ho hs
      go_wp2
      go_roundw
      case rel => exact ⟨k + 1, by omega, by go_num, rfl, rfl, RowK.push HE.out lx1 (by rw [K12_lt hlt]) HO4.out, RowK.push HF.out ly1 (by rw [S12_lt hlt]) HO3.out, q2⟩
      case measure => simp [intOf]; omega
    · obtain rfl : k = n1 := by omega
      have hge : ¬ (k : Int) < (k : Int) := by omega
      have RK := Lib.hid hrk
      have RS := Lib.hid hrs
      clear hrk hrs
      obtain ⟨n1, hkn1⟩ : ∃ n1, n1 = k := ⟨_, rfl⟩
      subst hkn1
      go_wp2
      go_loopw [11, 12, 14] (fun a b i wr => RelC2 w4 w4.heap.size (w4.heap.size + 1) (n1 + n2) n1 n2 (K12 n1 K1 K2) (S12 n1 S1 S2) a b i wr) (fun _ _ i _ => n2 - (intOf i).toNat)
      case atStart => exact ⟨0, by omega, by go_num, rfl, rfl, RK.out, RS.out, hB⟩
      case round =>
        clear RK RS hB
        obtain ⟨k, hk, rfl, rfl, rfl, hrk, hrs, hB⟩ := hrel
        have sB := hB.size
        by_cases hlt : k < n2
        · obtain ⟨x, hxe, hxb⟩ := src_blk P3.out (by have := N2.out; omega)
          obtain ⟨y, hye, hyb⟩ := src_blk P4.out (by have := N2.out; omega)
          obtain ⟨x', hxe', hx⟩ := (P3.out.keep hB).at_ (i := k) (by have := N2.out; omega)
          obtain ⟨y', hye', hy⟩ := (P4.out.keep hB).at_ (i := k) (by have := N2.out; omega)
          rw [hxe] at hxe'
          rw [hye] at hye'
          injection hxe' with hxe'
          injection hye' with hye'
          subst hxe' hye' hxe hye
          have hlt' : (k : Int) < (n2 : Int) := by omega
          have i0' : (0 : Int) ≤ (k : Int) := by omega
          have l1' : (k : Int) < (lk2 : Int) := by have := N2.out; omega
          have l2' : (k : Int) < (l2 : Int) := by have := N2.out; omega
          obtain ⟨xs, ho, he⟩ := hrk
          obtain ⟨ys, hs, hf⟩ := hrs
          have HE := Lib.hid he
          have HF := Lib.hid hf
          clear he hf
          go_wp2_with (first | (at_builtin; refine wpList_append_fits _ rfl (.tmp 105) (.tmp 110) 59 rfl w4.heap.size 5 i0 1 Try.underlying59 hi2.out hz1'.out w4.heap.size (n1 + k) (n1 + n2) xs rfl (ho.alloc _) ⟨wr.heap.size, 0, none⟩ 1 1 [.int .u8 (K2 k)] rfl rfl news1 (by simp [Value.oneCell']) (by omega) ?_; intro w5 ho2 hg2; have hy2 : w5.cell? (y.add k) = some (.string (S2 k)) := cell_grown hg2 (keepc (by go_grown) hy) (by rw [blk_of_add]; omega); have hs2 := (hs.alloc (.cells #[.int .u8 (K2 k)] 5)).kept hg2 (.inr (by simp [Value.ownBlock]))) | (at_builtin; refine wpList_append_fits _ rfl (.tmp 112) (.tmp 117) 144 rfl (w4.heap.size + 1) 9 j0 1 Try.underlying144 hj2.out hy1'.out (w4.heap.size + 1) (n1 + k) (n1 + n2) ys rfl (hs2.alloc _) ⟨w5.heap.size, 0, none⟩ 1 1 [.string (S2 k)] rfl rfl news1 (by simp [Value.oneCell']) (by omega) ?_; intro w6 ho3 hg3))
          have q1 := below_grown (hB.alloc sB (.cells #[.int .u8 (K2 k)] 5)) hg2 (Nat.le_refl _)
          have q2 := below_grown (q1.alloc q1.size (.cells #[.string (S2 k)] 9)) hg3 (by omega)
          have ho4 := (ho2.alloc (.cells #[.string (S2 k)] 9)).kept hg3 (.inr (by simp [Value.ownBlock]))
          have HO4 := Lib.hid ho4
          have HO3 := Lib.hid ho3
          have lx1 := own_ll ho
          have ly1 := own_ll hs
          clear ho4 ho3 ho2 hs2 hy2 hg2 hg3 ho hs
          go_wp2
          go_roundw
          case rel => exact ⟨k + 1, by omega, by go_num, rfl, rfl, RowK.push HE.out lx1 (by exact congrArg (Value.int .u8) K12_ge.symm) HO4.out, RowK.push HF.out ly1 (by exact congrArg Value.string S12_ge.symm) HO3.out, q2⟩
          case measure => simp [intOf]; omega
        · have hkn : k = n2 := by omega
          subst hkn
          have hge : ¬ (k : Int) < (k : Int) := by omega
          have RK := Lib.hid hrk
          have RS := Lib.hid hrs
          clear hrk hrs

          obtain ⟨n2, hkn2⟩ : ∃ n2, n2 = k := ⟨_, rfl⟩
          subst hkn2
          have BB := bmore B4 hB
          go_wp2_with fail
          refine (newParser_any _).mono ?_
          rintro e w7 ⟨bp, rfl, _, _, hb⟩
          have hB7 := bmore hB hb
          have BB := bmore BB hb
          have P1 := Lib.hid (P1.out.keep hB7)
          have P2 := Lib.hid (P2.out.keep hB7)
          have P3 := Lib.hid (P3.out.keep hB7)
          have P4 := Lib.hid (P4.out.keep hB7)
          have RK := Lib.hid (RK.out.keep hb)
          have RS := Lib.hid (RS.out.keep hb)
          have m1 : sumU S1 n1 ≤ 524288 := by have := sumU_mono S1 l1 (k := n1) (by have := N1.out; omega); omega
          have m2 : sumU S2 n2 ≤ 524288 := by have := sumU_mono S2 l2 (k := n2) (by have := N2.out; omega); omega
          have M1 := Lib.hid m1
          have M2 := Lib.hid m2
          clear hb hB hB7 m1 m2
          go_wp2_with fail
          refine (buildWord144 _ _ _ _ _ _ K1 S1 _ P1.out P2.out HK1.out (by omega) (by omega)).mono ?_
          rintro e w8 ⟨wd1, g1', rfl, kW, rW, hb⟩
          rw [← N1.out] at kW rW
          have BB := bmore BB hb
          have P3 := Lib.hid (P3.out.keep hb)
          have P4 := Lib.hid (P4.out.keep hb)
          have RK := Lib.hid (RK.out.keep hb)
          have RS := Lib.hid (RS.out.keep hb)
          have KW := Lib.hid kW
          have RW := Lib.hid rW
          clear hb kW rW P1 P2
          go_wp2_with fail
          refine (zzUnqB _ wd1 g1' n1 K1 S1 _ ⟨_, rfl⟩ KW.out RW.out (by omega) (by have := M1.out; omega)).mono ?_
          rintro e w9 ⟨v1, rfl, o1, hb⟩
          obtain ⟨oa1, oc1, rfl, so1⟩ := own_src o1
          have BB := bmore BB hb
          have P3 := Lib.hid (P3.out.keep hb)
          have P4 := Lib.hid (P4.out.keep hb)
          have RK := Lib.hid (RK.out.keep hb)
          have RS := Lib.hid (RS.out.keep hb)
          have SO1 := Lib.hid so1
          clear hb KW RW o1 so1
          go_wp2_with fail
          refine (buildWord144 _ _ _ _ _ _ K2 S2 _ P3.out P4.out HK2.out (by omega) (by omega)).mono ?_
          rintro e w10 ⟨wd2, g2', rfl, kW, rW, hb⟩
          rw [← N2.out] at kW rW
          have BB := bmore BB hb
          have RK := Lib.hid (RK.out.keep hb)
          have RS := Lib.hid (RS.out.keep hb)
          have SO1 := Lib.hid (SO1.out.keep hb)
          have KW := Lib.hid kW
          have RW := Lib.hid rW
          clear hb kW rW P3 P4
          go_wp2_with fail
          refine (zzUnqB _ wd2 g2' n2 K2 S2 _ ⟨_, rfl⟩ KW.out RW.out (by omega) (by have := M2.out; omega)).mono ?_
          rintro e w11 ⟨v2, rfl, o2, hb⟩
          obtain ⟨oa2, oc2, rfl, so2⟩ := own_src o2
          have BB := bmore BB hb
          have RK := Lib.hid (RK.out.keep hb)
          have RS := Lib.hid (RS.out.keep hb)
          have SO1 := Lib.hid (SO1.out.keep hb)
          have SO2 := Lib.hid so2
          clear hb KW RW o2 so2
          go_wp2_with fail
          refine (buildWord144 _ _ _ _ _ _ (K12 n1 K1 K2) (S12 n1 S1 S2) _ RK.out.src RS.out.src (fun i hi => ?_) (by omega) (by omega)).mono ?_
          · rcases Nat.lt_or_ge i n1 with h | h
            · rw [K12_lt h]; exact HK1.out i (by have := N1.out; omega)
            · obtain ⟨j, rfl⟩ : ∃ j, i = n1 + j := ⟨i - n1, by omega⟩
              rw [K12_ge]; exact HK2.out j (by have := N2.out; omega)
          rintro e w12 ⟨wd3, g3', rfl, kW, rW, hb⟩
          rw [Nat.min_self] at kW rW
          have BB := bmore BB hb
          have SO1 := Lib.hid (SO1.out.keep hb)
          have SO2 := Lib.hid (SO2.out.keep hb)
          have KW := Lib.hid kW
          have RW := Lib.hid rW
          clear hb kW rW RK RS
          go_wp2_with fail
          refine (zzUnqB _ wd3 g3' (n1 + n2) (K12 n1 K1 K2) (S12 n1 S1 S2) _ ⟨_, rfl⟩ KW.out RW.out (by omega) (by rw [sumU_append (S1 := S1) (S2 := S2) (fun j hj => S12_lt hj) (fun j => S12_ge)]; have := M1.out; have := M2.out; omega)).mono ?_
          rw [catU_append (K1 := K1) (K2 := K2) (S1 := S1) (S2 := S2) (fun j hj => ⟨K12_lt hj, S12_lt hj⟩) (fun j => ⟨K12_ge, S12_ge⟩), flU_append (K1 := K1) (K2 := K2) (S1 := S1) (S2 := S2) (fun j hj => ⟨K12_lt hj, S12_lt hj⟩) (fun j => ⟨K12_ge, S12_ge⟩)]
          rintro e w13 ⟨v3, rfl, o3, hb⟩
          obtain ⟨oa3, oc3, rfl, so3⟩ := own_src o3
          have BB := bmore BB hb
          have SO1 := Lib.hid (SO1.out.keep hb)
          have SO2 := Lib.hid (SO2.out.keep hb)
          have SO3 := Lib.hid so3
          have len1 := catU_le K1 S1 n1
          have len2 := catU_le K2 S2 n2
          have len1' : (catU K1 S1 n1).length ≤ 524288 := by have := M1.out; omega
          have len2' : (catU K2 S2 n2).length ≤ 524288 := by have := M2.out; omega
          rw [List.length_append]
          clear hb KW RW o3 so3 len1 len2
          revert SO1 SO2 SO3 len1' len2'
          generalize catU K1 S1 n1 = L1
          generalize catU K2 S2 n2 = L2
          generalize flU K1 S1 n1 = F1
          generalize flU K2 S2 n2 = F2
          intro SO1 SO2 SO3 len1' len2'
          have SO3' : Hid (Src w13 oa3 (L1.length + L2.length) (fun i => bv ((L1 ++ L2).getD i 0))) := by rw [← List.length_append]; exact SO3
          clear SO3
          by_cases h0 : 0 < n2
          · rw [if_pos h0]
            have h0' : (0 : Int) < (n2 : Int) := by omega
            go_wp2
            go_loopw [23] (fun i wr => RelO w w13 L1.length i wr) (fun i _ => L1.length - (intOf i).toNat)
            case atStart => exact ⟨0, by omega, by go_num, Below.refl _ _, BB⟩
            case round =>
              clear BB
              obtain ⟨k, hk, rfl, hb, BB⟩ := hrel
              by_cases hlt : k < L1.length
              · obtain ⟨x, rfl, hx⟩ := (SO1.out.keep hb).at_ hlt
                obtain ⟨y, rfl, hy⟩ := (SO3'.out.keep hb).at_ (i := k) (by omega)
                have e : (L1 ++ L2).getD k 0 = L1.getD k 0 := by simp [List.getD, List.getElem?_append_left hlt]
                rw [e] at hy
                have hlt' : (k : Int) < (L1.length : Int) := by omega
                have hlt2 : (k : Int) < (L1.length : Int) + (L2.length : Int) := by omega
                have i0' : (0 : Int) ≤ (k : Int) := by omega
                clear e
                go_wp2
                go_quiet (fail)
                go_wp2
                go_roundw
                case rel => exact ⟨k + 1, by omega, by go_num, bdrewN hb _, bdrewN BB _⟩
                case measure => simp [intOf]; omega
              · obtain rfl : k = L1.length := by omega
                have hge : ¬ (L1.length : Int) < (L1.length : Int) := by omega
                obtain ⟨W14, hW14⟩ : ∃ W, W = wr := ⟨_, rfl⟩
                subst hW14
                go_wp2
                go_loopw [24] (fun i wr => RelO w w13 L2.length i wr) (fun i _ => L2.length - (intOf i).toNat)
                case atStart => exact ⟨0, by omega, by go_num, hb, BB⟩
                case round =>
                  clear BB hb
                  obtain ⟨k, hk, rfl, hb, BB⟩ := hrel
                  by_cases hlt : k < L2.length
                  · obtain ⟨x, rfl, hx⟩ := (SO2.out.keep hb).at_ hlt
                    obtain ⟨y, rfl, hy⟩ := (SO3'.out.keep hb).at_ (i := L1.length + k) (by omega)
                    have e : (L1 ++ L2).getD (L1.length + k) 0 = L2.getD k 0 := by simp [List.getD, List.getElem?_append_right]
                    rw [e] at hy
                    have hlt' : (k : Int) < (L2.length : Int) := by omega
                    have hlt2 : (L1.length : Int) + (k : Int) < (L1.length : Int) + (L2.length : Int) := by omega
                    have i0' : (0 : Int) ≤ (k : Int) := by omega
                    have i1' : (0 : Int) ≤ (L1.length : Int) + (k : Int) := by omega
                    have i2' : ((L1.length : Int) + (k : Int)).toNat = L1.length + k := by omega
                    have iw : IntKind.i64.wrap ((L1.length : Int) + (k : Int)) = (L1.length : Int) + (k : Int) := IntWalk.i64_in _ (by omega)
                    clear e
                    go_wp2
                    go_quiet (fail)
                    go_wp2
                    clear iw i2'
                    go_roundw
                    case rel => exact ⟨k + 1, by omega, by go_num, bdrewN hb _, bdrewN BB _⟩
                    case measure => simp [intOf]; omega
                  · obtain rfl : k = L2.length := by omega
                    have hge : ¬ (L2.length : Int) < (L2.length : Int) := by omega
                    go_wp2
                    go_ret
                    exact ⟨rfl, BB⟩
          · rw [if_neg h0]
            have h0' : ¬ (0 : Int) < (n2 : Int) := by omega
            go_wp2
            go_loopw [23] (fun i wr => RelO w w13 L1.length i wr) (fun i _ => L1.length - (intOf i).toNat)
            case atStart => exact ⟨0, by omega, by go_num, Below.refl _ _, BB⟩
            case round =>
              clear BB
              obtain ⟨k, hk, rfl, hb, BB⟩ := hrel
              by_cases hlt : k < L1.length
              · obtain ⟨x, rfl, hx⟩ := (SO1.out.keep hb).at_ hlt
                obtain ⟨y, rfl, hy⟩ := (SO3'.out.keep hb).at_ (i := k) (by omega)
                have e : (L1 ++ L2).getD k 0 = L1.getD k 0 := by simp [List.getD, List.getElem?_append_left hlt]
                rw [e] at hy
                have hlt' : (k : Int) < (L1.length : Int) := by omega
                have hlt2 : (k : Int) < (L1.length : Int) + (L2.length : Int) := by omega
                have i0' : (0 : Int) ≤ (k : Int) := by omega
                clear e
                go_wp2
                go_quiet (fail)
                go_wp2
                go_roundw
                case rel => exact ⟨k + 1, by omega, by go_num, bdrewN hb _, bdrewN BB _⟩
                case measure => simp [intOf]; omega
              · obtain rfl : k = L1.length := by omega
                have hge : ¬ (L1.length : Int) < (L1.length : Int) := by omega
                obtain ⟨W14, hW14⟩ : ∃ W, W = wr := ⟨_, rfl⟩
                subst hW14
                go_wp2
                go_loopw [24] (fun i wr => RelO w w13 L2.length i wr) (fun i _ => L2.length - (intOf i).toNat)
                case atStart => exact ⟨0, by omega, by go_num, hb, BB⟩
                case round =>
                  clear BB hb
                  obtain ⟨k, hk, rfl, hb, BB⟩ := hrel
                  by_cases hlt : k < L2.length
                  · obtain ⟨x, rfl, hx⟩ := (SO2.out.keep hb).at_ hlt
                    obtain ⟨y, rfl, hy⟩ := (SO3'.out.keep hb).at_ (i := L1.length + k) (by omega)
                    have e : (L1 ++ L2).getD (L1.length + k) 0 = L2.getD k 0 := by simp [List.getD, List.getElem?_append_right]
                    rw [e] at hy
                    have hlt' : (k : Int) < (L2.length : Int) := by omega
                    have hlt2 : (L1.length : Int) + (k : Int) < (L1.length : Int) + (L2.length : Int) := by omega
                    have i0' : (0 : Int) ≤ (k : Int) := by omega
                    have i1' : (0 : Int) ≤ (L1.length : Int) + (k : Int) := by omega
                    have i2' : ((L1.length : Int) + (k : Int)).toNat = L1.length + k := by omega
                    have iw : IntKind.i64.wrap ((L1.length : Int) + (k : Int)) = (L1.length : Int) + (k : Int) := IntWalk.i64_in _ (by omega)
                    clear e
                    go_wp2
                    go_quiet (fail)
                    go_wp2
                    clear iw i2'
                    go_roundw
                    case rel => exact ⟨k + 1, by omega, by go_num, bdrewN hb _, bdrewN BB _⟩
                    case measure => simp [intOf]; omega
                  · obtain rfl : k = L2.length := by omega
                    have hge : ¬ (L2.length : Int) < (L2.length : Int) := by omega
                    go_wp2
                    go_ret
                    exact ⟨rfl, BB⟩
theorem walkFnUnquotedWordBytesConcat (a0 : Option Addr) (len0 cap0 : Nat) (z0 : List Int) (a1 : Option Addr) (len1 cap1 : Nat) (z1 : Nat → ByteArray) (a2 : Option Addr) (len2 cap2 : Nat) (z2 : List Int) (a3 : Option Addr) (len3 cap3 : Nat) (z3 : Nat → ByteArray) (w : World)
    (w0 : IsRow .u8 w a0 len0 cap0 z0) (w1 : IsStrs w a1 len1 cap1 z1) (w2 : IsRow .u8 w a2 len2 cap2 z2) (w3 : IsStrs w a3 len3 cap3 z3) :
    Calls Try.prog 11 #[.slice a0 len0 cap0, .slice a1 len1 cap1, .slice a2 len2 cap2, .slice a3 len3 cap3] w fun e w' => e = .returned (.bool true) ∧ Below w.heap.size w w' := by
  have hu : ∀ z : Int, (Lit.int .u8 z).wf = true → 0 ≤ z ∧ z ≤ 255 := fun z h => by have := bounds_u8 h; omega
  have l0 := w0.len
  have l1 := w1.len
  have l2 := w2.len
  have l3 := w3.len
  exact law_uw a0 a1 a2 a3 len0 cap0 len1 cap1 len2 cap2 len3 cap3 (fun i => z0.getD i 0) (fun i => z2.getD i 0) z1 z3 w w0.src w1.src w2.src w3.src (fun i hi => hu _ (w0.wf hi)) (fun i hi => hu _ (w2.wf hi)) (fun h => by subst h; exact w0.nilcap.2) (fun h => by subst h; exact w1.nilcap.2) (fun h => by subst h; exact w2.nilcap.2) (fun h => by subst h; exact w3.nilcap.2) (by omega) (by omega) (by omega) (by omega)
end Go.Proofs.Ytnjdffnbkjjmeaa
