/- Word.Pos and Word.End of a word that buildWord laid, and of its pieces. -/
import Derived.Test.YtimaobpcefgdkaaWJ
import Derived.Test.YtimaobpcefgdkaaNodes
import Derived.StillTailTactics
namespace Go.Proofs.Ytimaobpcefgdkaa
open Go.RowKit
theorem SglQuoted_Pos_12 (b : Nat) (o lc : Int) (w : World) (h0 : w.cell? ⟨b, 0, none⟩ = some (.int .u32 o)) (h1 : w.cell? ⟨b, 1, none⟩ = some (.int .u32 lc)) :
    Calls Try.prog 130 #[.pointer (some ⟨b, 0, none⟩)] w fun e w' => e = .returned (P2 o lc) ∧ Below w.heap.size w w' := by
  have hlt : b < w.heap.size := World.block_lt_of_cell? _ _ h0
  go_enter Try.func130, Try.ntmps130
  go_wp2
  go_returns
  exact ⟨rfl, by go_grown⟩
theorem SglQuoted_End_12 (b : Nat) (o lc : Int) (w : World) (h0 : w.cell? ⟨b, 2, none⟩ = some (.int .u32 o)) (h1 : w.cell? ⟨b, 3, none⟩ = some (.int .u32 lc)) (o0 : 0 ≤ o) (o1 : o < 4294967296) (l0 : 0 ≤ lc) (l1 : lc < 4294967296) :
    Calls Try.prog 129 #[.pointer (some ⟨b, 0, none⟩)] w fun e w' => e = .returned (P2 (addO o lc 1) (addL o lc 1)) ∧ Below w.heap.size w w' := by
  have hlt : b < w.heap.size := World.block_lt_of_cell? _ _ h0
  go_enter Try.func129, Try.ntmps129
  go_wp2_with (go_at_call 78; refine (addCol_any _ _ _ _ (by omega) (by omega) (by omega) (by omega) (by omega) (by omega)).mono ?_; rintro e w1 ⟨rfl, hb⟩; obtain ⟨hc, hf, hz, hB, hs⟩ := bcell (w := w) (by go_grown) hb; clear hb)
  refine bodyPost_ret (v := P2 (addO o lc 1) (addL o lc 1)) (by simp [results, Try.results129, go_sem, hc]) rfl ⟨rfl, ?_⟩
  go_grown
set_option maxRecDepth 100000 in
theorem WE_End_Lit (b n cap bl : Nat) (x : Addr) (o lc : Int) (w : World) (hW : w.cell? ⟨b, 0, none⟩ = some (.slice (some x) (n + 1) cap)) (hn : n ≤ 4611686018427387904)
    (hp : w.cell? (x.add n) = some (.iface 28 (.pointer (some ⟨bl, 0, none⟩)))) (hend : ∀ W, Below w.heap.size w W → Calls Try.prog 91 #[.pointer (some ⟨bl, 0, none⟩)] W fun e w' => e = .returned (P2 o lc) ∧ Below W.heap.size W w') :
    Calls Try.prog 64 #[.pointer (some ⟨b, 0, none⟩)] w fun e w' => e = .returned (P2 o lc) ∧ Below w.heap.size w w' := by
  have lb := World.block_lt_of_cell? _ _ hW
  have lp := World.block_lt_of_cell? _ _ hp
  have HE := Lib.hid hend
  clear hend
  go_enter Try.func64, Try.ntmps64
  go_wp2
  refine wp_gen (S := fun W => W.cell? ⟨b, 0, none⟩ = some (.slice (some x) (n + 1) cap) ∧ W.cell? (x.add n) = some (.iface 28 (.pointer (some ⟨bl, 0, none⟩))) ∧ Bk W w.heap.size 30 #[.int .u32 0, .int .u32 0] ∧ Below w.heap.size w W) ⟨by simp [go_sem, hW, lb], keepc (by go_grown) hp, Bk.fresh _ _ _, by go_grown⟩ ?_
  clear hW hp lb lp
  rintro W ⟨hW, hp, kR, hB⟩
  have i0 : (0 : Int) ≤ (n : Int) := Int.natCast_nonneg _
  have i1 : (n : Int) < (n : Int) + 1 := by omega
  have iw : IntKind.i64.wrap (n : Int) = (n : Int) := IntWalk.i64_in _ (by omega)
  go_still_tail 12, (by kernel_rfl)
  change wpList _ _ _ _ _ W.drew
  clear iw i0 i1
  go_wp2_with fail
  refine (HE.out W.drew hB.drew).mono ?_
  rintro e w1 ⟨rfl, hb⟩
  have kR1 := kR.drew.keep hb
  have B1 := bmore (w := w) hB.drew hb
  clear hb kR hB hW hp HE
  have cR := kR1.cells
  have fR := kR1.frz
  go_wp2
  refine bodyPost_ret (v := P2 o lc) (by simp [results, Try.results64, go_sem, cR]) rfl ⟨rfl, ?_⟩
  go_grown
set_option maxRecDepth 100000 in
theorem WE_Pos_Lit (b n cap bl : Nat) (x : Addr) (o lc : Int) (w : World) (hW : w.cell? ⟨b, 0, none⟩ = some (.slice (some x) (n + 1) cap)) (hn : n ≤ 4611686018427387904)
    (hp : w.cell? x = some (.iface 28 (.pointer (some ⟨bl, 0, none⟩)))) (hend : ∀ W, Below w.heap.size w W → Calls Try.prog 79 #[.pointer (some ⟨bl, 0, none⟩)] W fun e w' => e = .returned (P2 o lc) ∧ Below W.heap.size W w') :
    Calls Try.prog 65 #[.pointer (some ⟨b, 0, none⟩)] w fun e w' => e = .returned (P2 o lc) ∧ Below w.heap.size w w' := by
  have lb := World.block_lt_of_cell? _ _ hW
  have lp := World.block_lt_of_cell? _ _ hp
  have HE := Lib.hid hend
  clear hend
  have i1 : (0 : Int) < (n : Int) + 1 := by omega
  go_enter Try.func65, Try.ntmps65
  go_wp2_with fail
  refine (HE.out _ (by go_grown)).mono ?_
  rintro e w1 ⟨rfl, hb⟩
  have kR1 := (Bk.fresh _ _ _).keep hb
  have B1 := bmore (w := w) (by go_grown) hb
  clear hb
  have cR := kR1.cells
  have fR := kR1.frz
  go_wp2
  refine bodyPost_ret (v := P2 o lc) (by simp [results, Try.results65, go_sem, cR]) rfl ⟨rfl, ?_⟩
  go_grown
set_option maxRecDepth 100000 in
theorem WE_End_SglQuoted (b n cap bl : Nat) (x : Addr) (o lc : Int) (w : World) (hW : w.cell? ⟨b, 0, none⟩ = some (.slice (some x) (n + 1) cap)) (hn : n ≤ 4611686018427387904)
    (hp : w.cell? (x.add n) = some (.iface 127 (.pointer (some ⟨bl, 0, none⟩)))) (hend : ∀ W, Below w.heap.size w W → Calls Try.prog 129 #[.pointer (some ⟨bl, 0, none⟩)] W fun e w' => e = .returned (P2 o lc) ∧ Below W.heap.size W w') :
    Calls Try.prog 64 #[.pointer (some ⟨b, 0, none⟩)] w fun e w' => e = .returned (P2 o lc) ∧ Below w.heap.size w w' := by
  have lb := World.block_lt_of_cell? _ _ hW
  have lp := World.block_lt_of_cell? _ _ hp
  have HE := Lib.hid hend
  clear hend
  go_enter Try.func64, Try.ntmps64
  go_wp2
  refine wp_gen (S := fun W => W.cell? ⟨b, 0, none⟩ = some (.slice (some x) (n + 1) cap) ∧ W.cell? (x.add n) = some (.iface 127 (.pointer (some ⟨bl, 0, none⟩))) ∧ Bk W w.heap.size 30 #[.int .u32 0, .int .u32 0] ∧ Below w.heap.size w W) ⟨by simp [go_sem, hW, lb], keepc (by go_grown) hp, Bk.fresh _ _ _, by go_grown⟩ ?_
  clear hW hp lb lp
  rintro W ⟨hW, hp, kR, hB⟩
  have i0 : (0 : Int) ≤ (n : Int) := Int.natCast_nonneg _
  have i1 : (n : Int) < (n : Int) + 1 := by omega
  have iw : IntKind.i64.wrap (n : Int) = (n : Int) := IntWalk.i64_in _ (by omega)
  go_still_tail 12, (by kernel_rfl)
  change wpList _ _ _ _ _ W.drew
  clear iw i0 i1
  go_wp2_with fail
  refine (HE.out W.drew hB.drew).mono ?_
  rintro e w1 ⟨rfl, hb⟩
  have kR1 := kR.drew.keep hb
  have B1 := bmore (w := w) hB.drew hb
  clear hb kR hB hW hp HE
  have cR := kR1.cells
  have fR := kR1.frz
  go_wp2
  refine bodyPost_ret (v := P2 o lc) (by simp [results, Try.results64, go_sem, cR]) rfl ⟨rfl, ?_⟩
  go_grown
set_option maxRecDepth 100000 in
theorem WE_Pos_SglQuoted (b n cap bl : Nat) (x : Addr) (o lc : Int) (w : World) (hW : w.cell? ⟨b, 0, none⟩ = some (.slice (some x) (n + 1) cap)) (hn : n ≤ 4611686018427387904)
    (hp : w.cell? x = some (.iface 127 (.pointer (some ⟨bl, 0, none⟩)))) (hend : ∀ W, Below w.heap.size w W → Calls Try.prog 130 #[.pointer (some ⟨bl, 0, none⟩)] W fun e w' => e = .returned (P2 o lc) ∧ Below W.heap.size W w') :
    Calls Try.prog 65 #[.pointer (some ⟨b, 0, none⟩)] w fun e w' => e = .returned (P2 o lc) ∧ Below w.heap.size w w' := by
  have lb := World.block_lt_of_cell? _ _ hW
  have lp := World.block_lt_of_cell? _ _ hp
  have HE := Lib.hid hend
  clear hend
  have i1 : (0 : Int) < (n : Int) + 1 := by omega
  go_enter Try.func65, Try.ntmps65
  go_wp2_with fail
  refine (HE.out _ (by go_grown)).mono ?_
  rintro e w1 ⟨rfl, hb⟩
  have kR1 := (Bk.fresh _ _ _).keep hb
  have B1 := bmore (w := w) (by go_grown) hb
  clear hb
  have cR := kR1.cells
  have fR := kR1.frz
  go_wp2
  refine bodyPost_ret (v := P2 o lc) (by simp [results, Try.results65, go_sem, cR]) rfl ⟨rfl, ?_⟩
  go_grown
set_option maxRecDepth 100000 in
theorem WE_End_DblQuoted (b n cap bl : Nat) (x : Addr) (o lc : Int) (w : World) (hW : w.cell? ⟨b, 0, none⟩ = some (.slice (some x) (n + 1) cap)) (hn : n ≤ 4611686018427387904)
    (hp : w.cell? (x.add n) = some (.iface 130 (.pointer (some ⟨bl, 0, none⟩)))) (hend : ∀ W, Below w.heap.size w W → Calls Try.prog 132 #[.pointer (some ⟨bl, 0, none⟩)] W fun e w' => e = .returned (P2 o lc) ∧ Below W.heap.size W w') :
    Calls Try.prog 64 #[.pointer (some ⟨b, 0, none⟩)] w fun e w' => e = .returned (P2 o lc) ∧ Below w.heap.size w w' := by
  have lb := World.block_lt_of_cell? _ _ hW
  have lp := World.block_lt_of_cell? _ _ hp
  have HE := Lib.hid hend
  clear hend
  go_enter Try.func64, Try.ntmps64
  go_wp2
  refine wp_gen (S := fun W => W.cell? ⟨b, 0, none⟩ = some (.slice (some x) (n + 1) cap) ∧ W.cell? (x.add n) = some (.iface 130 (.pointer (some ⟨bl, 0, none⟩))) ∧ Bk W w.heap.size 30 #[.int .u32 0, .int .u32 0] ∧ Below w.heap.size w W) ⟨by simp [go_sem, hW, lb], keepc (by go_grown) hp, Bk.fresh _ _ _, by go_grown⟩ ?_
  clear hW hp lb lp
  rintro W ⟨hW, hp, kR, hB⟩
  have i0 : (0 : Int) ≤ (n : Int) := Int.natCast_nonneg _
  have i1 : (n : Int) < (n : Int) + 1 := by omega
  have iw : IntKind.i64.wrap (n : Int) = (n : Int) := IntWalk.i64_in _ (by omega)
  go_still_tail 12, (by kernel_rfl)
  change wpList _ _ _ _ _ W.drew
  clear iw i0 i1
  go_wp2_with fail
  refine (HE.out W.drew hB.drew).mono ?_
  rintro e w1 ⟨rfl, hb⟩
  have kR1 := kR.drew.keep hb
  have B1 := bmore (w := w) hB.drew hb
  clear hb kR hB hW hp HE
  have cR := kR1.cells
  have fR := kR1.frz
  go_wp2
  refine bodyPost_ret (v := P2 o lc) (by simp [results, Try.results64, go_sem, cR]) rfl ⟨rfl, ?_⟩
  go_grown
set_option maxRecDepth 100000 in
theorem WE_Pos_DblQuoted (b n cap bl : Nat) (x : Addr) (o lc : Int) (w : World) (hW : w.cell? ⟨b, 0, none⟩ = some (.slice (some x) (n + 1) cap)) (hn : n ≤ 4611686018427387904)
    (hp : w.cell? x = some (.iface 130 (.pointer (some ⟨bl, 0, none⟩)))) (hend : ∀ W, Below w.heap.size w W → Calls Try.prog 133 #[.pointer (some ⟨bl, 0, none⟩)] W fun e w' => e = .returned (P2 o lc) ∧ Below W.heap.size W w') :
    Calls Try.prog 65 #[.pointer (some ⟨b, 0, none⟩)] w fun e w' => e = .returned (P2 o lc) ∧ Below w.heap.size w w' := by
  have lb := World.block_lt_of_cell? _ _ hW
  have lp := World.block_lt_of_cell? _ _ hp
  have HE := Lib.hid hend
  clear hend
  have i1 : (0 : Int) < (n : Int) + 1 := by omega
  go_enter Try.func65, Try.ntmps65
  go_wp2_with fail
  refine (HE.out _ (by go_grown)).mono ?_
  rintro e w1 ⟨rfl, hb⟩
  have kR1 := (Bk.fresh _ _ _).keep hb
  have B1 := bmore (w := w) (by go_grown) hb
  clear hb
  have cR := kR1.cells
  have fR := kR1.frz
  go_wp2
  refine bodyPost_ret (v := P2 o lc) (by simp [results, Try.results65, go_sem, cR]) rfl ⟨rfl, ?_⟩
  go_grown
/-- The position at offset o of line 1. -/
theorem npL_1 (c : Int) : npL 1 c = 16384 + npF c 16383 := by unfold npL npF; simp
theorem addO_np (o : Int) (h0 : 0 ≤ o) (h1 : o ≤ 33554432) : addO (npO o) (npL 1 (o + 1)) 1 = npO (o + 1) := by
  have e : npL 1 (o + 1) = 16384 + npF (o + 1) 16383 := npL_1 _
  have b := npF_bd (o + 1) 16383 (by omega) (by omega)
  have v : vld (npO o) (npL 1 (o + 1)) = true := vld_mk (by unfold npO; omega) (by omega)
  unfold addO
  rw [if_pos v]
  unfold npO
  omega
theorem addL_np (o : Int) (h0 : 0 ≤ o) (h1 : o ≤ 33554432) : addL (npO o) (npL 1 (o + 1)) 1 = npL 1 (o + 1 + 1) := by
  have e : npL 1 (o + 1) = 16384 + npF (o + 1) 16383 := npL_1 _
  have e2 : npL 1 (o + 1 + 1) = 16384 + npF (o + 1 + 1) 16383 := npL_1 _
  have b := npF_bd (o + 1) 16383 (by omega) (by omega)
  have v : vld (npO o) (npL 1 (o + 1)) = true := vld_mk (by unfold npO; omega) (by omega)
  unfold addL
  rw [if_pos v, e2, e]
  have hm : (16384 + npF (o + 1) 16383) % 16384 = npF (o + 1) 16383 := by omega
  unfold addC
  rw [hm]
  unfold npF
  split <;> split <;> (try split) <;> omega
/-- Word.End at the last part j. -/
theorem WE_End (off : Nat → Int) (S : Nat → ByteArray) (K : Nat → Int) (b n cap j : Nat) (x : Addr) (v : Value) (w : World) (hW : w.cell? ⟨b, 0, none⟩ = some (.slice (some x) (n + 1) cap)) (hn : n ≤ 65536)
    (hp : w.cell? (x.add n) = some v) (hv : PEl off S K j v w) (hoff : off (j + 1) = off j + (S j).size + (if K j = 0 then 0 else 2)) (hbd : 0 ≤ off j ∧ off j ≤ 16777216) (hsz : (S j).size ≤ 1048576) :
    Calls Try.prog 64 #[.pointer (some ⟨b, 0, none⟩)] w fun e w' => e = .returned (P2 (npO (off (j + 1))) (npL 1 (off (j + 1) + 1))) ∧ Below w.heap.size w w' := by
  obtain ⟨bl, ⟨h1, rfl, h3⟩ | ⟨h1, rfl, h3⟩ | ⟨h1, ps, rfl, h3⟩⟩ := hv
  · rw [if_pos h1] at hoff
    have e : off (j + 1) = off j + ((S j).size : Int) := by omega
    rw [e]
    exact WE_End_Lit b n cap bl x _ _ w hW (by omega) hp (fun W hB => Lit_End_any bl _ _ W (by rw [(h3.keep hB).cells]; rfl) (by rw [(h3.keep hB).cells]; rfl))
  all_goals
    rw [if_neg (by omega)] at hoff
    have e : off (j + 1) = off j + 1 + ((S j).size : Int) + 1 := by omega
    have bo := npO_bd (off j + 1 + ((S j).size : Int)) (by omega)
    have bl2 := npL_bd 1 (off j + 1 + ((S j).size : Int) + 1) (by omega) (by omega)
    rw [e, ← addO_np _ (by omega) (by omega), ← addL_np (off j + 1 + ((S j).size : Int)) (by omega) (by omega)]
  · exact WE_End_SglQuoted b n cap bl x _ _ w hW (by omega) hp (fun W hB => SglQuoted_End_12 bl _ _ W (by rw [(h3.keep hB).cells]; rfl) (by rw [(h3.keep hB).cells]; rfl) (by omega) (by omega) (by omega) (by omega))
  · exact WE_End_DblQuoted b n cap bl x _ _ w hW (by omega) hp (fun W hB => DblQuoted_End_any bl _ _ W (by rw [(h3.keep hB).cells]; rfl) (by rw [(h3.keep hB).cells]; rfl) (by omega) (by omega) (by omega) (by omega))
/-- Word.Pos at the first part j. -/
theorem WE_Pos (off : Nat → Int) (S : Nat → ByteArray) (K : Nat → Int) (b n cap j : Nat) (x : Addr) (v : Value) (w : World) (hW : w.cell? ⟨b, 0, none⟩ = some (.slice (some x) (n + 1) cap)) (hn : n ≤ 65536)
    (hp : w.cell? x = some v) (hv : PEl off S K j v w) :
    Calls Try.prog 65 #[.pointer (some ⟨b, 0, none⟩)] w fun e w' => e = .returned (P2 (npO (off j)) (npL 1 (off j + 1))) ∧ Below w.heap.size w w' := by
  obtain ⟨bl, ⟨h1, rfl, h3⟩ | ⟨h1, rfl, h3⟩ | ⟨h1, ps, rfl, h3⟩⟩ := hv
  · exact WE_Pos_Lit b n cap bl x _ _ w hW (by omega) hp (fun W hB => Lit_Pos_any bl _ _ W (by rw [(h3.keep hB).cells]; rfl) (by rw [(h3.keep hB).cells]; rfl))
  · exact WE_Pos_SglQuoted b n cap bl x _ _ w hW (by omega) hp (fun W hB => SglQuoted_Pos_12 bl _ _ W (by rw [(h3.keep hB).cells]; rfl) (by rw [(h3.keep hB).cells]; rfl))
  · exact WE_Pos_DblQuoted b n cap bl x _ _ w hW (by omega) hp (fun W hB => DblQuoted_Pos_any bl _ _ W (by rw [(h3.keep hB).cells]; rfl) (by rw [(h3.keep hB).cells]; rfl))
def RetWE (w : World) (n lk : Nat) (S : Nat → ByteArray) (e : Ending) (w' : World) : Prop :=
  ∃ r : Bool, e = .returned (.bool r) ∧ w = w' ∧ (r = true → n ≤ 1048576 ∧ lk ≤ 1048576 ∧ sumS S n ≤ 1048576)
set_option maxHeartbeats 4000000 in
set_option maxRecDepth 100000 in
theorem zzBytesWE_ok (base : Int) (a ak : Option Addr) (n c lk ck : Nat) (S1 : Nat → ByteArray) (w : World) (h1 : Src w a n (fun i => .string (S1 i))) (z1 : ∀ i, i < n → (S1 i).size ≤ 9223372036854775807)
    (b1 : n ≤ 9223372036854775807) (b3 : lk ≤ 9223372036854775807) :
    Calls Try.prog 62 #[.int .u32 base, .slice a n c, .slice ak lk ck] w (RetWE w n lk S1) := by
  have H1 := Lib.hid h1
  have Z1 := Lib.hid z1
  clear h1 z1
  by_cases g1 : 1048576 < n
  · go_enter Try.func62, Try.ntmps62
    go_wp2
    go_ret
    exact ⟨false, rfl, rfl, by simp⟩
  have g1' : ¬ (1048576 : Int) < (n : Int) := by omega
  go_enter Try.func62, Try.ntmps62
  go_wp2_with fail
  go_loopw [7, 8] (fun zn i wr => RelZ w n S1 zn i wr) (fun _ i _ => n - (intOf i).toNat)
  case atStart => exact ⟨0, _, by omega, by go_num, rfl, by omega, by omega, rfl, by simp only [sumS]; omega⟩
  case round =>
    obtain ⟨k, z, hk, rfl, rfl, z0, z1, rfl, HK⟩ := hrel
    by_cases hlt : k < n
    · have hlt' : (k : Int) < (n : Int) := by omega
      obtain ⟨x, rfl, hx⟩ := H1.out.at_ hlt
      have lx := World.block_lt_of_cell? _ _ hx
      have i0 : (0 : Int) ≤ (k : Int) := by omega
      have hz := Z1.out k hlt
      by_cases g2 : 1048576 < (S1 k).size
      · go_wp2
        go_ret
        exact ⟨false, rfl, rfl, by simp⟩
      have g2' : ¬ (1048576 : Int) < ((S1 k).size : Int) := by omega
      by_cases g3 : (1048576 : Int) < z + ((S1 k).size : Int)
      · go_wp2
        go_ret
        exact ⟨false, rfl, rfl, by simp⟩
      go_wp2
      go_roundw
      case rel => exact ⟨k + 1, _, by omega, by go_num, rfl, by omega, by omega, rfl, by simp only [sumS]; omega⟩
      case measure => simp [intOf]; omega
    · obtain rfl : k = n := by omega
      have hlt' : ¬ (k : Int) < (k : Int) := by omega
      by_cases g4 : 1048576 < lk
      · go_wp2
        go_ret
        exact ⟨false, rfl, rfl, by simp⟩
      have g4' : ¬ (1048576 : Int) < (lk : Int) := by omega
      by_cases g5 : (1048576 : Int) < z + (lk : Int)
      · go_wp2
        go_ret
        exact ⟨false, rfl, rfl, by simp⟩
      go_wp2
      go_ret
      exact ⟨true, rfl, rfl, fun _ => ⟨by omega, by omega, by omega⟩⟩
def RetOK (w : World) (n : Nat) (e : Ending) (w' : World) : Prop := ∃ r : Bool, e = .returned (.bool r) ∧ w = w' ∧ (r = true → n ≤ 65536)
/-- sizeOK: where it says yes there are at most 65536 values. -/
theorem sizeOK_ok (a ak : Option Addr) (n c lk ck : Nat) (S : Nat → ByteArray) (w : World) (h1 : Src w a n (fun i => .string (S i))) (z1 : ∀ i, i < n → (S i).size ≤ 1048576) (b1 : n ≤ 1048576) (b3 : lk ≤ 1048576) :
    Calls Try.prog 63 #[.slice a n c, .slice ak lk ck] w (RetOK w n) := by
  by_cases g : 65536 < n
  · clear h1 z1
    go_enter Try.func63, Try.ntmps63
    go_wp2_with (go_at_call 31; go_in)
    go_ret
    exact ⟨false, rfl, rfl, by simp⟩
  · have hs := Lib.hid (sizeSum_ok a ak n c lk ck S w h1 z1 b1 b3)
    clear h1 z1
    go_enter Try.func63, Try.ntmps63
    go_wp2_with fail
    refine hs.out.mono ?_
    rintro e w' ⟨v, rfl, rfl, v0, v1⟩
    go_wp2
    all_goals (go_ret; exact ⟨_, rfl, rfl, fun _ => by omega⟩)
end Go.Proofs.Ytimaobpcefgdkaa
