/- The walk of FnBinaryTestPosIsFirstInSource. -/
import Derived.Test.YtimaobpcefgdkaaBinTest
namespace Go.Proofs.Ytimaobpcefgdkaa
open Go.RowKit
def Rel17a (w : World) (xs xl : Int) (n : Nat) (v i : Value) (wr : World) : Prop :=
  ∃ d b : Nat, d + 2 ≤ n + 1 ∧ i = .int .i64 ((d : Int) + 2) ∧ v = .pointer (some ⟨b, 0, none⟩) ∧ Chain17 wr xs xl d b ∧ Below w.heap.size w wr
def Rel17b (w : World) (rb : Nat) (xs xl : Int) (n : Nat) (i : Value) (wr : World) : Prop :=
  ∃ d : Nat, d + 1 ≤ n + 1 ∧ i = .int .i64 ((d : Int) + 1) ∧ wr.cell? ⟨rb, 0, none⟩ = some (.int .u32 xs) ∧ wr.cell? ⟨rb, 1, none⟩ = some (.int .u32 xl) ∧ Below w.heap.size w wr
set_option maxHeartbeats 8000000 in
set_option maxRecDepth 100000 in
theorem walkFnBinaryTestPosIsFirstInSource (a0 : Int) (a1 : Int) (a2 : ByteArray) (w0 : (Lit.int .i64 a0).wf = true) (w1 : (Lit.int .u32 a1).wf = true) (w2 : a2.size ≤ maxLen) (w : World) :
    Calls Try.prog 10 #[.int .i64 a0, .int .u32 a1, .string a2] w fun e w' => e = .returned (.bool true) ∧ Below w.heap.size w w' := by
  have b0 := bounds_i64 w0
  have b1 := bounds_u32 w1
  unfold maxLen at w2
  clear w0 w1
  by_cases hs : a2.size ≤ 1048576
  case neg =>
    go_enter Try.func10, Try.ntmps10
    go_wp2_with (go_at_call 54; refine (zzBytes17_no _ _ _ _ hs w2).mono ?_; rintro e w' ⟨rfl, rfl⟩)
    go_ret
    exact ⟨rfl, Below.refl _ _⟩
  by_cases h1 : a0 < 1
  · go_enter Try.func10, Try.ntmps10
    go_wp2_with (go_at_call 54; refine (zzBytes17_any _ _ _ _ hs).mono ?_; rintro e w' ⟨rfl, rfl⟩)
    go_ret
    exact ⟨rfl, Below.refl _ _⟩
  have h1' : decide (a0 < 1) = false := by simpa using h1
  by_cases h2 : 4096 < a0
  · go_enter Try.func10, Try.ntmps10
    go_wp2_with (go_at_call 54; refine (zzBytes17_any _ _ _ _ hs).mono ?_; rintro e w' ⟨rfl, rfl⟩)
    go_ret
    exact ⟨rfl, Below.refl _ _⟩
  have h2' : decide (4096 < a0) = false := by simpa using h2
  by_cases h3 : 4096 < a1
  · go_enter Try.func10, Try.ntmps10
    go_wp2_with (go_at_call 54; refine (zzBytes17_any _ _ _ _ hs).mono ?_; rintro e w' ⟨rfl, rfl⟩)
    go_ret
    exact ⟨rfl, Below.refl _ _⟩
  obtain ⟨n, rfl⟩ : ∃ n : Nat, a0 = (n : Int) := ⟨a0.toNat, by omega⟩
  have hL := srcL_small a1 (by omega) (by omega)
  have HL := Lib.hid hL
  clear hL
  go_enter Try.func10, Try.ntmps10
  go_wp2_with (go_at_call 54; refine (zzBytes17_any _ _ _ _ hs).mono ?_; rintro e w' ⟨rfl, rfl⟩)
  refine (srcPos17 _ _ (by omega) (by omega)).mono ?_
  rintro e v1 ⟨rfl, B1⟩
  go_wp2_with fail
  refine (srcPos17 _ _ (by omega) (by omega)).mono ?_
  rintro e v2 ⟨rfl, hb⟩
  have B2 := bmore B1 hb
  clear hb B1
  go_wp2_with fail
  refine (wordOfLit17 _ _ _ _ _ _).mono ?_
  rintro e v3 ⟨bl, rfl, kl, hb⟩
  have B3 := bmore B2 hb
  clear hb B2
  go_wp2_with fail
  refine (srcPos17 _ _ (by omega) (by omega)).mono ?_
  rintro e v4 ⟨rfl, hb⟩
  have B4 := bmore B3 hb
  have kl := kl.keep hb
  clear hb B3
  go_wp2_with fail
  refine (srcPos17 _ _ (by omega) (by omega)).mono ?_
  rintro e v5 ⟨rfl, hb⟩
  have B5 := bmore B4 hb
  have kl := kl.keep hb
  clear hb B4
  go_wp2_with fail
  refine (srcPos17 _ _ (by omega) (by omega)).mono ?_
  rintro e v6 ⟨rfl, hb⟩
  have B6 := bmore B5 hb
  have kl := kl.keep hb
  clear hb B5
  go_wp2_with fail
  refine (wordOfLit17 _ _ _ _ _ _).mono ?_
  rintro e v7 ⟨by_, rfl, _, hb⟩
  have B7 := bmore B6 hb
  have kl := kl.keep hb
  clear hb B6
  go_wp2_with fail
  refine (binOverWord17 _ _ _ _ _ _ _ kl).mono ?_
  rintro e v8 ⟨b8, rfl, k8, hb⟩
  have B8 := bmore B7 hb
  clear hb B7 kl
  go_wp2_with fail
  go_loopw [8, 9] (fun v i wr => Rel17a w a1 (srcL a1) n v i wr) (fun _ i _ => n + 1 - (intOf i).toNat)
  case atStart => exact ⟨0, b8, by omega, by go_num, rfl, k8, B8⟩
  case round =>
    clear k8 B8
    obtain ⟨d, bb, hd, rfl, rfl, hch, hB⟩ := hrel
    by_cases hlt : d + 2 ≤ n
    · have hlt' : (d : Int) + 2 ≤ (n : Int) := by omega
      go_wp2_with fail
      refine (srcPos17 _ _ (by omega) (by omega)).mono ?_
      rintro e x1 ⟨rfl, hb⟩
      have B1 := bmore hB hb
      have hch := Chain17.keep hb d bb hch
      clear hb
      go_wp2_with fail
      refine (srcPos17 _ _ (by omega) (by omega)).mono ?_
      rintro e x2 ⟨rfl, hb⟩
      have B2 := bmore B1 hb
      have hch := Chain17.keep hb d bb hch
      clear hb B1
      go_wp2_with fail
      refine (srcPos17 _ _ (by omega) (by omega)).mono ?_
      rintro e x3 ⟨rfl, hb⟩
      have B3 := bmore B2 hb
      have hch := Chain17.keep hb d bb hch
      clear hb B2
      go_wp2_with fail
      refine (wordOfLit17 _ _ _ _ _ _).mono ?_
      rintro e x4 ⟨bw, rfl, _, hb⟩
      have B4 := bmore B3 hb
      have hch := Chain17.keep hb d bb hch
      clear hb B3
      go_wp2_with fail
      refine (binOverBin17 _ _ _ _ d _ _ _ hch).mono ?_
      rintro e x5 ⟨b2, rfl, k2, hb⟩
      have B5 := bmore B4 hb
      clear hb B4 hch
      go_wp2_with fail
      go_roundw
      case rel => exact ⟨d + 1, b2, by omega, by go_num, rfl, k2, B5⟩
      case measure => simp [intOf]; omega
    · have hge : ¬ ((d : Int) + 2 ≤ (n : Int)) := by omega
      go_wp2_with fail
      refine (Chain17.pos d bb _ hch).mono ?_
      rintro e y1 ⟨rfl, hb⟩
      have B1 := bmore hB hb
      clear hb hch hB
      have kS := srcL_ne a1 (by omega) (by omega)
      have q1 : offv a1 = a1 := by unfold offv; rw [if_neg (by omega)]
      have q2 : srcL a1 / 16384 = 1 := by rw [HL.out]; omega
      have q3 : srcL a1 % 16384 = a1 + 1 := by rw [HL.out]; omega
      have s1 := B1.size
      go_wp2_with fail
      refine calls_gen (S := fun W => W.cell? ⟨y1.heap.size, 0, none⟩ = some (.int .u32 a1) ∧ W.cell? ⟨y1.heap.size, 1, none⟩ = some (.int .u32 (srcL a1)) ∧ Below w.heap.size w W) ⟨by simp [go_sem], by simp [go_sem], by go_grown⟩ ?_
      rintro W ⟨c0, c1, BW⟩
      generalize y1.heap.size = rb at c0 c1 ⊢
      clear B1 s1
      refine (offset_any _ _ _ (by omega) (by omega)).mono ?_
      rintro e z1 ⟨rfl, hb⟩
      rw [q1]
      have c0 := keepc hb c0
      have c1 := keepc hb c1
      have BW := bmore BW hb
      clear hb q1
      go_wp2_with fail
      refine (line_any _ _ _ (by omega) (by omega)).mono ?_
      rintro e z2 ⟨rfl, hb⟩
      rw [q2]
      have c0 := keepc hb c0
      have c1 := keepc hb c1
      have BW := bmore BW hb
      clear hb q2
      go_wp2_with fail
      refine (col_any _ _ _ (by omega) (by omega)).mono ?_
      rintro e z3 ⟨rfl, hb⟩
      rw [q3]
      have c0 := keepc hb c0
      have c1 := keepc hb c1
      have BW := bmore BW hb
      clear hb q3
      go_wp2_with fail
      go_loopw [12] (fun i wr => Rel17b w rb a1 (srcL a1) n i wr) (fun i _ => n + 1 - (intOf i).toNat)
      case atStart => exact ⟨0, by omega, by go_num, c0, c1, BW⟩
      case round =>
        clear c0 c1 BW
        obtain ⟨k, hk, rfl, c0, c1, BW⟩ := hrel
        by_cases hkn : k + 1 ≤ n
        · have hkn' : (k : Int) + 1 ≤ (n : Int) := by omega
          have p1 : aft a1 (srcL a1) (a1 + 3 * ((k : Int) + 1) - 2) = false := by simp only [aft, Bool.and_eq_false_iff, decide_eq_false_iff_not]; right; omega
          have p2 : aft (a1 + 3 * ((k : Int) + 1) - 2) (srcL (a1 + 3 * ((k : Int) + 1) - 2)) a1 = true := by
            have hne := srcL_ne (a1 + 3 * ((k : Int) + 1) - 2) (by omega) (by omega)
            have : vld (a1 + 3 * ((k : Int) + 1) - 2) (srcL (a1 + 3 * ((k : Int) + 1) - 2)) = true := vld_mk (by omega) hne.1
            simp only [aft, this, Bool.true_and, decide_eq_true_eq]; omega
          have P1 := Lib.hid p1
          have P2' := Lib.hid p2
          clear p1 p2
          go_wp2_with fail
          refine (srcPos17 _ _ (by omega) (by omega)).mono ?_
          rintro e x1 ⟨rfl, hb⟩
          have c0 := keepc hb c0
          have c1 := keepc hb c1
          have BW := bmore BW hb
          have sx := BW.size
          have lr : rb < x1.heap.size := World.block_lt_of_cell? _ _ c0
          clear hb
          go_wp2_with fail
          refine calls_gen (S := fun W => W.cell? ⟨rb, 0, none⟩ = some (.int .u32 a1) ∧ W.cell? ⟨rb, 1, none⟩ = some (.int .u32 (srcL a1)) ∧ W.cell? ⟨x1.heap.size, 0, none⟩ = some (.int .u32 (a1 + 3 * ((k : Int) + 1) - 2)) ∧ W.cell? ⟨x1.heap.size, 1, none⟩ = some (.int .u32 (srcL (a1 + 3 * ((k : Int) + 1) - 2))) ∧ Below w.heap.size w W) ⟨by simp [go_sem, c0, lr], by simp [go_sem, c1, lr], by simp [go_sem], by simp [go_sem], by go_grown⟩ ?_
          clear c0 c1 BW sx lr
          rintro W2 ⟨c0, c1, d0, d1, BW⟩
          refine (after_any _ _ _ _ _).mono ?_
          rintro e x2 ⟨rfl, hb⟩
          rw [P1.out]
          have c0 := keepc hb c0
          have c1 := keepc hb c1
          have d0 := keepc hb d0
          have d1 := keepc hb d1
          have BW := bmore BW hb
          clear hb
          go_wp2_with fail
          refine (after_any _ _ _ _ _).mono ?_
          rintro e x3 ⟨rfl, hb⟩
          rw [P2'.out]
          have c0 := keepc hb c0
          have c1 := keepc hb c1
          have BW := bmore BW hb
          clear hb d0 d1
          go_wp2_with fail
          go_roundw
          case rel => exact ⟨k + 1, by omega, by go_num, c0, c1, BW⟩
          case measure => simp [intOf]; omega
        · have hkn' : ¬ ((k : Int) + 1 ≤ (n : Int)) := by omega
          go_wp2
          go_ret
          exact ⟨rfl, BW⟩
end Go.Proofs.Ytimaobpcefgdkaa
