/- The walk of FnPostNestedRestoresOuter. -/
import Derived.Test.YtnjdffnbkjjmeaaPars
namespace Go.Proofs.Ytnjdffnbkjjmeaa
open Go.RowKit
theorem zzPre_any (b : Nat) (q bu q2 : Int) (w : World) (h : PS w b q bu) :
    Calls Try.prog 31 #[.pointer (some ⟨b, 0, none⟩), .int .u32 q2] w fun e w' => e = .returned (.agg #[.int .u32 q, .int .i64 bu]) ∧ PS w' b q2 0 ∧ w.grownBy w' (some b) := by
  have hl := h.cells.2.2.2.2.2
  have H := Lib.hid h
  clear h
  have nb : ¬ w.heap.size = b := by omega
  have nb' : ¬ b = w.heap.size := by omega
  go_enter Try.func31, Try.ntmps31
  go_wp2_with fail
  refine (preNested_any b q bu q2 _ (H.out.keep (by go_grown))).mono ?_
  rintro e w1 ⟨rfl, hP, hg⟩
  have kR := (Bk.fresh w 73 #[.int .u32 0, .int .i64 0]).grown hg (by intro h; injection h with h; omega)
  have cR := kR.cells
  have fR := kR.frz
  have hg2 : w.grownBy w1 (some b) := World.grownBy.trans (grown_of_below (by go_grown) (some b)) hg
  have HP := Lib.hid hP
  have HK := Lib.hid kR
  clear hP kR hg
  go_wp2
  refine bp_gen (S := fun W' => Bk W' w.heap.size 73 #[.int .u32 q, .int .i64 bu] ∧ PS W' b q2 0 ∧ w.grownBy W' (some b)) ⟨?_, ?_, ?_⟩ ?_
  · exact (HK.out.put 0 (.int .u32 q)).put 1 (.int .i64 bu)
  · exact (HP.out.far (p := ⟨w.heap.size, 0, none⟩) nb' (.int .u32 q)).far (p := ⟨w.heap.size, 1, none⟩) nb' (.int .i64 bu)
  · exact only_setCell (only_setCell hg2 (.inr (Nat.le_refl _)) _) (.inr (Nat.le_refl _)) _
  clear cR fR
  rintro W' ⟨kS, hP, hg⟩
  have cW := kS.cells
  refine bodyPost_ret (v := .agg #[.int .u32 q, .int .i64 bu]) (by simp [results, Try.results31, go_sem, cW]) rfl ⟨rfl, hP, hg⟩
theorem zzPost_any (b : Nat) (q bu q2 b2 : Int) (w : World) (h : PS w b q bu) :
    Calls Try.prog 33 #[.pointer (some ⟨b, 0, none⟩), .agg #[.int .u32 q2, .int .i64 b2]] w fun e w' => e = .returned (.tuple #[]) ∧ PS w' b q2 b2 ∧ w.grownBy w' (some b) := by
  have hl := h.cells.2.2.2.2.2
  have H := Lib.hid h
  clear h
  go_enter Try.func33, Try.ntmps33
  go_wp2_with fail
  refine (postNested_any b q bu q2 b2 _ (H.out.keep (by go_grown))).mono ?_
  rintro e w1 ⟨rfl, hP, hg⟩
  have hg2 : w.grownBy w1 (some b) := World.grownBy.trans (grown_of_below (by go_grown) (some b)) hg
  go_wp2
  go_end0
  exact ⟨rfl, hP, hg2⟩
theorem zzQuote_any (b : Nat) (q bu : Int) (w : World) (h : PS w b q bu) :
    Calls Try.prog 29 #[.pointer (some ⟨b, 0, none⟩)] w fun e w' => e = .returned (.int .u32 q) ∧ w = w' := by
  have hc := h.cells.1
  clear h
  go_enter Try.func29, Try.ntmps29
  go_wp2
  go_ret
  exact ⟨rfl, rfl⟩
theorem zzBuried_any (b : Nat) (q bu : Int) (w : World) (h : PS w b q bu) :
    Calls Try.prog 30 #[.pointer (some ⟨b, 0, none⟩)] w fun e w' => e = .returned (.int .i64 bu) ∧ w = w' := by
  have hc := h.cells.2.1
  clear h
  go_enter Try.func30, Try.ntmps30
  go_wp2
  go_ret
  exact ⟨rfl, rfl⟩
theorem zzNum_any (b : Nat) (q bu : Int) (w : World) (h : PS w b q bu) :
    Calls Try.prog 28 #[.pointer (some ⟨b, 0, none⟩)] w fun e w' => e = .returned (.int .i64 0) ∧ w = w' := by
  have hc := h.cells.2.2.1
  clear h
  go_enter Try.func28, Try.ntmps28
  go_wp2
  go_ret
  exact ⟨rfl, rfl⟩
theorem zzQuoteOf_any (c : Int) (w : World) (h0 : 0 ≤ c) (h1 : c ≤ 255) :
    Calls Try.prog 32 #[.int .u8 c] w fun e w' => ∃ v : Int, e = .returned (.int .u32 v) ∧ w = w' := by
  go_enter Try.func32, Try.ntmps32
  go_wp2
  go_ret
  exact ⟨_, rfl, rfl⟩
theorem zzBytes144_any (q : Int) (a : Option Addr) (n c : Nat) (w : World) (h : n ≤ 9223372036854775807) :
    Calls Try.prog 26 #[.int .u8 q, .slice a n c] w fun e w' => ∃ b : Bool, e = .returned (.bool b) ∧ w = w' := by
  go_enter Try.func26, Try.ntmps26
  go_wp2
  all_goals (go_ret; exact ⟨_, rfl, rfl⟩)
theorem or1_bd (a : Int) (h0 : 0 ≤ a) (h1 : a ≤ 255) : 0 ≤ bits .or .u8 a 1 ∧ bits .or .u8 a 1 ≤ 255 := by
  have e := u8_or a 1 h0 (by omega) (by omega) (by omega)
  rw [e]
  have h2 : a.toNat ||| (1 : Int).toNat < 2 ^ 8 := Nat.or_lt_two_pow (by have : (2 : Nat) ^ 8 = 256 := by decide
                                                                         omega) (by decide)
  have h4 : (2 : Nat) ^ 8 = 256 := by decide
  rw [h4] at h2
  omega
def Rel144 (W0 : World) (b bs n : Nat) (i : Value) (wr : World) : Prop :=
  ∃ (k : Nat) (q : Int), k ≤ n ∧ i = .int .i64 k ∧ PS wr b q 0 ∧ Bk wr bs 73 #[.int .u32 0, .int .i64 0] ∧ Below W0.heap.size W0 wr
set_option maxHeartbeats 4000000 in
set_option maxRecDepth 100000 in
theorem postN144 (a0 : Int) (a1 : Option Addr) (n cap : Nat) (f : Nat → Int) (w : World) (b0 : 0 ≤ a0 ∧ a0 ≤ 255) (hn : n ≤ 65536) (hs : Src w a1 n (fun i => .int .u8 (f i))) (hf : ∀ i, i < n → 0 ≤ f i ∧ f i ≤ 255) (hc : a1 = none → cap = 0) :
    Calls Try.prog 6 #[.int .u8 a0, .slice a1 n cap] w fun e w' => e = .returned (.bool true) ∧ Below w.heap.size w w' := by
  have HS := Lib.hid hs
  have HF := Lib.hid hf
  clear hs hf
  have hn' : ¬ (65536 : Int) < (n : Int) := by omega
  go_enter Try.func6, Try.ntmps6
  go_wp2_with fail
  refine (zzBytes144_any _ _ _ _ _ (by omega)).mono ?_
  rintro e w' ⟨b, rfl, rfl⟩
  cases b
  · go_wp2
    go_ret
    exact ⟨rfl, Below.refl _ _⟩
  go_wp2_with fail
  refine (n010_144_zzCloneU8_any a1 n cap f _ HS.out hc (by omega)).mono ?_
  rintro e W0 ⟨A, rfl, hs, B⟩
  have HS := Lib.hid hs
  clear hs
  go_wp2_with fail
  refine (newParser_any _).mono ?_
  rintro e v1 ⟨b, rfl, hbge, hP, hb⟩
  have B1 := hb
  have HP := Lib.hid hP
  clear hb hP
  go_wp2_with fail
  refine (zzNum_any b 0 0 _ HP.out).mono ?_
  rintro e w' ⟨rfl, rfl⟩
  go_wp2_with fail
  refine (zzQuote_any b 0 0 _ HP.out).mono ?_
  rintro e w' ⟨rfl, rfl⟩
  go_wp2_with fail
  refine (zzBuried_any b 0 0 _ HP.out).mono ?_
  rintro e w' ⟨rfl, rfl⟩
  have ob := or1_bd a0 b0.1 b0.2
  go_wp2_with fail
  refine (zzQuoteOf_any _ _ ob.1 ob.2).mono ?_
  rintro e w' ⟨q1, rfl, rfl⟩
  clear ob
  go_wp2_with fail
  refine (zzPre_any b 0 0 q1 _ HP.out).mono ?_
  rintro e v2 ⟨rfl, hP, hg⟩
  have B2 := below_grown B1 hg hbge
  have hl := hP.cells.2.2.2.2.2
  clear hg HP B1
  have HP := Lib.hid hP
  clear hP
  go_wp2_with fail
  refine wp_gen (S := fun W => PS W b q1 0 ∧ Bk W v2.heap.size 73 #[.int .u32 0, .int .i64 0] ∧ Below W0.heap.size W0 W) ⟨HP.out.keep (by go_grown), Bk.fresh _ _ _, by go_grown⟩ ?_
  rintro W ⟨hP, kS, hB⟩
  have nbs : ¬ v2.heap.size = b := by omega
  clear HP B2
  go_loopw [10] (fun i wr => Rel144 W0 b v2.heap.size n i wr) (fun i _ => n - (intOf i).toNat)
  case atStart => exact ⟨0, q1, by omega, by go_num, hP, kS, hB⟩
  case round =>
    clear hP kS hB
    obtain ⟨k, q, hk, rfl, hP, kS, hB⟩ := hrel
    by_cases hlt : k < n
    · obtain ⟨x, rfl, hx⟩ := (HS.out.keep hB).at_ hlt
      have fb := HF.out k hlt
      have hlt' : (k : Int) < (n : Int) := by omega
      have HP := Lib.hid hP
      have HK := Lib.hid kS
      clear hP kS
      go_wp2_with fail
      refine (zzQuoteOf_any _ _ fb.1 fb.2).mono ?_
      rintro e w' ⟨q2, rfl, rfl⟩
      go_wp2_with fail
      refine (zzPre_any b q 0 q2 _ HP.out).mono ?_
      rintro e v3 ⟨rfl, hP, hg⟩
      have kS := HK.out.grown hg (by intro h; injection h with h; exact nbs h)
      have hB := below_grown hB hg hbge
      clear hg HP HK
      go_wp2
      go_roundw
      case rel => exact ⟨k + 1, q2, by omega, by go_num, hP, kS, hB⟩
      case measure => simp [intOf]; omega
    · obtain rfl : k = n := by omega
      have ng : ¬ ((k : Int) < (k : Int)) := by omega
      have cS := kS.cells
      have HP := Lib.hid hP
      have HK := Lib.hid kS
      clear hP kS HS HF
      go_wp2_with fail
      refine (zzPost_any b q 0 0 0 _ HP.out).mono ?_
      rintro e v4 ⟨rfl, hP, hg⟩
      have kS := HK.out.grown hg (by intro h; injection h with h; exact nbs h)
      have hB := below_grown hB hg hbge
      clear hg HP HK cS
      have cS := kS.cells
      have HP := Lib.hid hP
      clear hP kS
      go_wp2_with fail
      refine (zzQuote_any b 0 0 _ HP.out).mono ?_
      rintro e w' ⟨rfl, rfl⟩
      go_wp2_with fail
      refine (zzBuried_any b 0 0 _ HP.out).mono ?_
      rintro e w' ⟨rfl, rfl⟩
      go_wp2_with fail
      refine (zzPost_any b 0 0 0 0 _ HP.out).mono ?_
      rintro e v5 ⟨rfl, hP, hg⟩
      have hB := below_grown hB hg hbge
      clear hg HP cS
      have HP := Lib.hid hP
      clear hP
      go_wp2_with fail
      refine (zzQuote_any b 0 0 _ HP.out).mono ?_
      rintro e w' ⟨rfl, rfl⟩
      go_wp2_with fail
      refine (zzBuried_any b 0 0 _ HP.out).mono ?_
      rintro e w' ⟨rfl, rfl⟩
      go_wp2_with fail
      refine (zzNum_any b 0 0 _ HP.out).mono ?_
      rintro e w' ⟨rfl, rfl⟩
      go_wp2
      go_ret
      exact ⟨rfl, bmore B hB⟩
theorem walkFnPostNestedRestoresOuter (a0 : Int) (a1 : Option Addr) (len1 cap1 : Nat) (z1 : List Int) (w : World) (w0 : (Lit.int .u8 a0).wf = true) (w1 : IsRow .u8 w a1 len1 cap1 z1) :
    Calls Try.prog 6 #[.int .u8 a0, .slice a1 len1 cap1] w fun e w' => e = .returned (.bool true) ∧ Below w.heap.size w w' := by
  have b0 := bounds_u8 w0
  have l1 := w1.len
  by_cases h1 : 65536 < len1
  · clear w1
    have h1' : (65536 : Int) < (len1 : Int) := by omega
    go_enter Try.func6, Try.ntmps6
    go_wp2_with fail
    refine (zzBytes144_any _ _ _ _ _ (by omega)).mono ?_
    rintro e w' ⟨b, rfl, rfl⟩
    cases b <;> (go_wp2_with fail; go_ret; exact ⟨rfl, Below.refl _ _⟩)
  exact postN144 a0 a1 len1 cap1 _ w (by omega) (by omega) w1.src (fun i hi => by have := bounds_u8 (w1.wf hi); omega) (fun h => by subst h; exact w1.nilcap.2)
end Go.Proofs.Ytnjdffnbkjjmeaa
