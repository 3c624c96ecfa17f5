/- Bounds of FnWordLitJoin: zzBytes_FnWordLitJoin, sizeSum, allLit. -/
import Derived.Test.YtimaobpcefgdkaaBW
import Derived.Test.YtimaobpcefgdkaaArgs
namespace Go.Proofs.Ytimaobpcefgdkaa
open Go.RowKit
def sumS (S : Nat → ByteArray) : Nat → Int
  | 0 => 0
  | k + 1 => sumS S k + (S k).size
theorem sumS_nonneg (S : Nat → ByteArray) : ∀ k, 0 ≤ sumS S k
  | 0 => by simp [sumS]
  | k + 1 => by have := sumS_nonneg S k; simp only [sumS]; omega
theorem sumS_each (S : Nat → ByteArray) : ∀ n j, j < n → ((S j).size : Int) ≤ sumS S n
  | 0, j, h => by omega
  | n + 1, j, h => by
    simp only [sumS]
    have h0 := sumS_nonneg S n
    rcases Nat.lt_or_ge j n with h1 | h1
    · have := sumS_each S n j h1; omega
    · obtain rfl : j = n := by omega
      omega
theorem sumS_mono (S : Nat → ByteArray) : ∀ n k, k ≤ n → sumS S k ≤ sumS S n
  | 0, k, h => by obtain rfl : k = 0 := by omega
                  exact Int.le_refl _
  | n + 1, k, h => by
    rcases Nat.lt_or_ge k (n + 1) with h1 | h1
    · have := sumS_mono S n k (by omega); simp only [sumS]; omega
    · obtain rfl : k = n + 1 := by omega
      exact Int.le_refl _
def RelZ (w : World) (n : Nat) (S : Nat → ByteArray) (zn i : Value) (wr : World) : Prop :=
  ∃ (k : Nat) (z : Int), k ≤ n ∧ i = .int .i64 k ∧ zn = .int .i64 z ∧ 0 ≤ z ∧ z ≤ 1048576 ∧ w = wr ∧ sumS S k ≤ z
def RetWJ (w : World) (n m lk1 lk2 : Nat) (S1 S2 : Nat → ByteArray) (e : Ending) (w' : World) : Prop :=
  ∃ r : Bool, e = .returned (.bool r) ∧ w = w' ∧ (r = true → n ≤ 1048576 ∧ m ≤ 1048576 ∧ lk1 ≤ 1048576 ∧ lk2 ≤ 1048576 ∧ sumS S1 n ≤ 1048576 ∧ sumS S2 m ≤ 1048576)
set_option maxHeartbeats 4000000 in
set_option maxRecDepth 100000 in
theorem zzBytesWJ_ok (a ak b bk : Option Addr) (n c lk ck m d ll cl : Nat) (S1 S2 : Nat → ByteArray) (w : World) (h1 : Src w a n (fun i => .string (S1 i))) (h2 : Src w b m (fun i => .string (S2 i))) (z1 : ∀ i, i < n → (S1 i).size ≤ 9223372036854775807) (z2 : ∀ i, i < m → (S2 i).size ≤ 9223372036854775807)
    (b1 : n ≤ 9223372036854775807) (b2 : m ≤ 9223372036854775807) (b3 : lk ≤ 9223372036854775807) (b4 : ll ≤ 9223372036854775807) :
    Calls Try.prog 30 #[.slice a n c, .slice ak lk ck, .slice b m d, .slice bk ll cl] w (RetWJ w n m lk ll S1 S2) := by
  have H1 := Lib.hid h1
  have H2 := Lib.hid h2
  have Z1 := Lib.hid z1
  have Z2 := Lib.hid z2
  clear h1 h2 z1 z2
  by_cases g1 : 1048576 < n
  · go_enter Try.func30, Try.ntmps30
    go_wp2
    go_ret
    exact ⟨false, rfl, rfl, by simp⟩
  have g1' : ¬ (1048576 : Int) < (n : Int) := by omega
  go_enter Try.func30, Try.ntmps30
  go_wp2_with fail
  go_loopw [9, 10] (fun zn i wr => RelZ w n S1 zn i wr) (fun _ i _ => n - (intOf i).toNat)
  case atStart => exact ⟨0, _, by omega, by go_num, rfl, by omega, by omega, rfl, by simp only [sumS]; omega⟩
  case round =>
    obtain ⟨k, z, hk, rfl, rfl, z0, z1, rfl, HK⟩ := hrel
    by_cases hlt : k < n
    · have hlt' : (k : Int) < (n : Int) := by omega
      obtain ⟨x, rfl, hx⟩ := H1.out.at_ hlt
      have lx := World.block_lt_of_cell? _ _ hx
      have i0 : (0 : Int) ≤ (k : Int) := by omega
      have hz := Z1.out k hlt
      by_cases g2 : 1048576 < (S1 k).size
      · go_wp2
        go_ret
        exact ⟨false, rfl, rfl, by simp⟩
      have g2' : ¬ (1048576 : Int) < ((S1 k).size : Int) := by omega
      by_cases g3 : (1048576 : Int) < z + ((S1 k).size : Int)
      · go_wp2
        go_ret
        exact ⟨false, rfl, rfl, by simp⟩
      go_wp2
      go_roundw
      case rel => exact ⟨k + 1, _, by omega, by go_num, rfl, by omega, by omega, rfl, by simp only [sumS]; omega⟩
      case measure => simp [intOf]; omega
    · obtain rfl : k = n := by omega
      have hlt' : ¬ (k : Int) < (k : Int) := by omega
      by_cases g4 : 1048576 < lk
      · go_wp2
        go_ret
        exact ⟨false, rfl, rfl, by simp⟩
      have g4' : ¬ (1048576 : Int) < (lk : Int) := by omega
      by_cases g5 : (1048576 : Int) < z + (lk : Int)
      · go_wp2
        go_ret
        exact ⟨false, rfl, rfl, by simp⟩
      by_cases g6 : 1048576 < m
      · go_wp2
        go_ret
        exact ⟨false, rfl, rfl, by simp⟩
      have g6' : ¬ (1048576 : Int) < (m : Int) := by omega
      by_cases g7 : (1048576 : Int) < z + (lk : Int) + (m : Int)
      · go_wp2
        go_ret
        exact ⟨false, rfl, rfl, by simp⟩
      go_wp2_with fail
      go_loopw [9, 11] (fun zn i wr => RelZ w m S2 zn i wr) (fun _ i _ => m - (intOf i).toNat)
      case atStart => exact ⟨0, _, by omega, by go_num, rfl, by omega, by omega, rfl, by simp only [sumS]; omega⟩
      case round =>
        obtain ⟨q, y, hq, rfl, rfl, y0, y1, rfl, HQ⟩ := hrel
        by_cases hlt2 : q < m
        · have hlt2' : (q : Int) < (m : Int) := by omega
          obtain ⟨x, rfl, hx⟩ := H2.out.at_ hlt2
          have lx := World.block_lt_of_cell? _ _ hx
          have i0 : (0 : Int) ≤ (q : Int) := by omega
          have hz := Z2.out q hlt2
          by_cases g8 : 1048576 < (S2 q).size
          · go_wp2
            go_ret
            exact ⟨false, rfl, rfl, by simp⟩
          have g8' : ¬ (1048576 : Int) < ((S2 q).size : Int) := by omega
          by_cases g9 : (1048576 : Int) < y + ((S2 q).size : Int)
          · go_wp2
            go_ret
            exact ⟨false, rfl, rfl, by simp⟩
          go_wp2
          go_roundw
          case rel => exact ⟨q + 1, _, by omega, by go_num, rfl, by omega, by omega, rfl, by simp only [sumS]; omega⟩
          case measure => simp [intOf]; omega
        · obtain rfl : q = m := by omega
          have hlt2' : ¬ (q : Int) < (q : Int) := by omega
          by_cases g10 : 1048576 < ll
          · go_wp2
            go_ret
            exact ⟨false, rfl, rfl, by simp⟩
          have g10' : ¬ (1048576 : Int) < (ll : Int) := by omega
          by_cases g11 : (1048576 : Int) < y + (ll : Int)
          · go_wp2
            go_ret
            exact ⟨false, rfl, rfl, by simp⟩
          go_wp2
          go_ret
          exact ⟨true, rfl, rfl, fun _ => ⟨by omega, by omega, by omega, by omega, by omega, by omega⟩⟩
def RelZ2 (w : World) (n : Nat) (zn i : Value) (wr : World) : Prop :=
  ∃ (k : Nat) (z : Int), k ≤ n ∧ i = .int .i64 k ∧ zn = .int .i64 z ∧ 0 ≤ z ∧ z ≤ 4194304 ∧ w = wr
def RetZ (w : World) (e : Ending) (w' : World) : Prop := ∃ v : Int, e = .returned (.int .i64 v) ∧ w = w' ∧ 0 ≤ v ∧ v ≤ 4194304
set_option maxHeartbeats 4000000 in
set_option maxRecDepth 100000 in
theorem sizeSum_ok (a ak : Option Addr) (n c lk ck : Nat) (S : Nat → ByteArray) (w : World) (h1 : Src w a n (fun i => .string (S i))) (z1 : ∀ i, i < n → (S i).size ≤ 1048576) (b1 : n ≤ 1048576) (b3 : lk ≤ 1048576) :
    Calls Try.prog 31 #[.slice a n c, .slice ak lk ck] w (RetZ w) := by
  have H1 := Lib.hid h1
  have Z1 := Lib.hid z1
  clear h1 z1
  by_cases g1 : 65536 < n
  · go_enter Try.func31, Try.ntmps31
    go_wp2
    go_ret
    exact ⟨_, rfl, rfl, by omega, by omega⟩
  have g1' : ¬ (65536 : Int) < (n : Int) := by omega
  have g2' : ¬ (1048576 : Int) < (lk : Int) := by omega
  go_enter Try.func31, Try.ntmps31
  go_wp2_with fail
  go_loopw [5, 6] (fun zn i wr => RelZ2 w n zn i wr) (fun _ i _ => n - (intOf i).toNat)
  case atStart => exact ⟨0, _, by omega, by go_num, rfl, by omega, by omega, rfl⟩
  case round =>
    obtain ⟨k, z, hk, rfl, rfl, z0, z1, rfl⟩ := hrel
    by_cases hlt : k < n
    · have hlt' : (k : Int) < (n : Int) := by omega
      obtain ⟨x, rfl, hx⟩ := H1.out.at_ hlt
      have lx := World.block_lt_of_cell? _ _ hx
      have i0 : (0 : Int) ≤ (k : Int) := by omega
      have hz := Z1.out k hlt
      by_cases g3 : (1048576 : Int) < z + ((S k).size : Int)
      · go_wp2
        go_ret
        exact ⟨_, rfl, rfl, by omega, by omega⟩
      go_wp2
      go_roundw
      case rel => exact ⟨k + 1, _, by omega, by go_num, rfl, by omega, by omega, rfl⟩
      case measure => simp [intOf]; omega
    · obtain rfl : k = n := by omega
      have hlt' : ¬ (k : Int) < (k : Int) := by omega
      go_wp2
      go_ret
      exact ⟨_, rfl, rfl, by omega, by omega⟩
/-- Are all parts literals? -/
def RetAL (w : World) (n lk : Nat) (f : Nat → Int) (e : Ending) (w' : World) : Prop := ∃ r : Bool, e = .returned (.bool r) ∧ w = w' ∧ (r = true → ∀ j, j < n → kdOf lk f j = 0) ∧ (r = false → ∃ j, j < n ∧ kdOf lk f j ≠ 0 ∧ ∀ i, i < j → kdOf lk f i = 0)
def RelAL (w : World) (n lk : Nat) (f : Nat → Int) (i : Value) (wr : World) : Prop := ∃ k : Nat, k ≤ n ∧ i = .int .i64 k ∧ w = wr ∧ Hid (∀ j, j < k → kdOf lk f j = 0)
set_option maxHeartbeats 4000000 in
set_option maxRecDepth 100000 in
theorem allLit_ok (a ak : Option Addr) (n c lk ck : Nat) (f : Nat → Int) (w : World) (hk : Src w ak lk (fun i => .int .u8 (f i))) (hf : ∀ j, j < lk → 0 ≤ f j ∧ f j ≤ 255) (b1 : n ≤ 1048576) :
    Calls Try.prog 35 #[.slice a n c, .slice ak lk ck] w (RetAL w n lk f) := by
  have HK := Lib.hid hk
  have HF := Lib.hid hf
  clear hk hf
  go_enter Try.func35, Try.ntmps35
  go_wp2_with fail
  go_loopw [5] (fun i wr => RelAL w n lk f i wr) (fun i _ => n - (intOf i).toNat)
  case atStart => exact ⟨0, by omega, by go_num, rfl, Lib.hid (fun j hj => by omega)⟩
  case round =>
    obtain ⟨k, hk, rfl, rfl, HA⟩ := hrel
    by_cases hlt : k < n
    · have hlt' : (k : Int) < (n : Int) := by omega
      have hP := partKind_any ak lk ck k f w HK.out HF.out
      have hkd := kdOf_bd lk f k
      by_cases h0 : kdOf lk f k = 0
      · rw [h0] at hP
        have HP := Lib.hid hP
        clear hP
        go_wp2_with fail
        refine HP.out.mono ?_
        rintro e w' ⟨rfl, rfl⟩
        go_wp2
        go_roundw
        case rel => exact ⟨k + 1, by omega, by go_num, rfl, Lib.hid (fun j hj => by rcases Nat.lt_or_ge j k with h | h; (· exact HA.out j h); (· obtain rfl : j = k := (by omega); exact h0))⟩
        case measure => simp [intOf]; omega
      · have h0' : (kdOf lk f k != 0) = true := by simpa using h0
        have HP := Lib.hid hP
        have H0 := Lib.hid h0
        clear hP h0
        go_wp2_with fail
        refine HP.out.mono ?_
        rintro e w' ⟨rfl, rfl⟩
        go_wp2
        go_ret
        exact ⟨false, rfl, rfl, by simp, fun _ => ⟨k, hlt, H0.out, HA.out⟩⟩
    · obtain rfl : k = n := by omega
      have hlt' : ¬ (k : Int) < (k : Int) := by omega
      go_wp2
      go_ret
      exact ⟨true, rfl, rfl, fun _ => HA.out, by simp⟩
end Go.Proofs.Ytimaobpcefgdkaa
