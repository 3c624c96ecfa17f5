/- The law's bounds (zzWordBytes, zzBytes), rows that are appended to with room, and the plain law of concatenation. -/
import Derived.Test.YtnjdffnbkjjmeaaUWD
import Derived.Test.YtnjdffnbkjjmeaaArgs
namespace Go.Proofs.Ytnjdffnbkjjmeaa
open Go.RowKit Go.PlainAid
/-- A row with room for n that holds k elements, told by a function of the place. -/
def RowK (W : World) (base g : Nat) (e : TypeId) (k n : Nat) (f : Nat → Value) : Prop :=
  ∃ xs : List Value, W.ownsRow base e 1 (.slice (some ⟨g, 0, none⟩) k n) k xs ∧ ∀ j, j < k → xs[j]? = some (f j)
theorem RowK.keep {W W1 : World} {base g k n : Nat} {e : TypeId} {f : Nat → Value} (h : RowK W base g e k n f) (hb : Below W.heap.size W W1) : RowK W1 base g e k n f := by
  obtain ⟨xs, ho, he⟩ := h
  exact ⟨xs, own_below ho hb, he⟩
theorem RowK.grown {W W1 : World} {base g k n : Nat} {e : TypeId} {f : Nat → Value} {row : Option Nat} (h : RowK W base g e k n f) (hb : W.grownBy W1 row) (hne : some g ≠ row) : RowK W1 base g e k n f := by
  obtain ⟨xs, ho, he⟩ := h
  exact ⟨xs, ho.kept hb (.inr (by simpa [Value.ownBlock] using hne)), he⟩
theorem RowK.push {W : World} {base g k n : Nat} {e : TypeId} {f : Nat → Value} {xs : List Value} {v : Value} (he : ∀ j, j < k → xs[j]? = some (f j)) (hl : xs.length = k) (hv : v = f k) (ho : W.ownsRow base e 1 (.slice (some ⟨g, 0, none⟩) (k + 1) n) (k + 1) (xs ++ [v])) : RowK W base g e (k + 1) n f := by
  refine ⟨_, ho, fun j hj => ?_⟩
  rcases Nat.lt_or_ge j k with h1 | h1
  · rw [List.getElem?_append_left (by omega)]
    exact he j h1
  · obtain rfl : j = k := by omega
    rw [List.getElem?_append_right (by omega), hl, Nat.sub_self]
    simp [hv]
theorem RowK.src {W : World} {base g k n : Nat} {e : TypeId} {f : Nat → Value} (h : RowK W base g e k n f) : Src W (some ⟨g, 0, none⟩) k f := by
  obtain ⟨xs, ho, he⟩ := h
  refine .inr ⟨_, rfl, fun i hi => ?_⟩
  have hc := ho.cellAt i (by omega)
  rw [he i hi] at hc
  rcases i with _ | i <;> simpa [Addr.add] using hc
theorem RowK.lt {W : World} {base g k n : Nat} {e : TypeId} {f : Nat → Value} (h : RowK W base g e k n f) : base ≤ g ∧ g < W.heap.size := by
  obtain ⟨xs, ho, _⟩ := h
  exact ho.lt g rfl
/-- What an own buffer reads as. -/
theorem own_src {W : World} {B : Nat} {v : Value} {l : List UInt8} (h : W.ownsRow B 5 1 v l.length (l.map bv)) : ∃ (a : Option Addr) (c : Nat), v = .slice a l.length c ∧ Src W a l.length (fun i => bv (l.getD i 0)) := by
  rcases h.2 with ⟨rfl, h0⟩ | ⟨g, cap, cur, rfl, hb, hg, h1, h2, h3, h4⟩
  · rw [h0]
    exact ⟨none, 0, rfl, .inl ⟨rfl, rfl⟩⟩
  · refine ⟨_, _, rfl, .inr ⟨_, rfl, fun i hi => ?_⟩⟩
    have hc := h.cells (g := g) rfl i (bv (l.getD i 0)) (by simp [List.getD, hi])
    rcases i with _ | i <;> simpa [Addr.add] using hc
theorem catU_congr {K K' : Nat → Int} {S S' : Nat → ByteArray} : ∀ n, (∀ j, j < n → K j = K' j ∧ S j = S' j) → catU K S n = catU K' S' n
  | 0, _ => rfl
  | n + 1, h => by
    have h1 := h n (by omega)
    simp only [catU]
    rw [catU_congr n (fun j hj => h j (by omega)), h1.1, h1.2]
theorem catU_append {K K1 K2 : Nat → Int} {S S1 S2 : Nat → ByteArray} {n1 : Nat} (h1 : ∀ j, j < n1 → K j = K1 j ∧ S j = S1 j) (h2 : ∀ j, K (n1 + j) = K2 j ∧ S (n1 + j) = S2 j) : ∀ m, catU K S (n1 + m) = catU K1 S1 n1 ++ catU K2 S2 m
  | 0 => by simp [catU, catU_congr n1 h1]
  | m + 1 => by
    show catU K S (n1 + m) ++ ub (K (n1 + m) % 5) (S (n1 + m)).data.toList = _
    rw [catU_append h1 h2 m, (h2 m).1, (h2 m).2]
    simp [catU]
theorem flU_append {K K1 K2 : Nat → Int} {S S1 S2 : Nat → ByteArray} {n1 : Nat} (h1 : ∀ j, j < n1 → K j = K1 j ∧ S j = S1 j) (h2 : ∀ j, K (n1 + j) = K2 j ∧ S (n1 + j) = S2 j) (m : Nat) : flU K S (n1 + m) = if 0 < m then flU K2 S2 m else flU K1 S1 n1 := by
  rcases m with _ | m
  · rw [if_neg (by omega)]
    rcases n1 with _ | n
    · rfl
    · have h := h1 n (by omega)
      show uf (K n % 5) _ = uf (K1 n % 5) _
      rw [h.1, h.2]
  · rw [if_pos (by omega)]
    show uf (K (n1 + m) % 5) (S (n1 + m)).data.toList = uf (K2 m % 5) (S2 m).data.toList
    rw [(h2 m).1, (h2 m).2]
theorem sumU_congr {S S' : Nat → ByteArray} : ∀ n, (∀ j, j < n → S j = S' j) → sumU S n = sumU S' n
  | 0, _ => rfl
  | n + 1, h => by
    simp only [sumU]
    rw [sumU_congr n (fun j hj => h j (by omega)), h n (by omega)]
theorem sumU_append {S S1 S2 : Nat → ByteArray} {n1 : Nat} (h1 : ∀ j, j < n1 → S j = S1 j) (h2 : ∀ j, S (n1 + j) = S2 j) : ∀ m, sumU S (n1 + m) = sumU S1 n1 + sumU S2 m
  | 0 => by simp [sumU, sumU_congr n1 h1]
  | m + 1 => by
    show sumU S (n1 + m) + (S (n1 + m)).size = _
    rw [sumU_append h1 h2 m, h2 m]
    simp [sumU]; omega
def RelWB (w : World) (n : Nat) (S : Nat → ByteArray) (t i : Value) (wr : World) : Prop :=
  ∃ (k : Nat) (z : Int), k ≤ n ∧ i = .int .i64 k ∧ t = .int .i64 z ∧ 0 ≤ z ∧ z ≤ 1048576 ∧ w = wr ∧ (sumU S k : Int) ≤ z
def RetWB (w : World) (n : Nat) (S : Nat → ByteArray) (e : Ending) (w' : World) : Prop := ∃ r : Int, e = .returned (.int .i64 r) ∧ w = w' ∧ (r ≤ 524288 → sumU S n ≤ 524288)
set_option maxHeartbeats 1000000 in
set_option maxRecDepth 100000 in
theorem wordBytes_any (ak a : Option Addr) (lk ck n c : Nat) (S : Nat → ByteArray) (w : World) (h1 : Src w a n (fun i => .string (S i))) (b1 : lk ≤ 65536) (b2 : n ≤ 65536) (hz : sumU S n ≤ 1048576) :
    Calls Try.prog 63 #[.slice ak lk ck, .slice a n c] w (RetWB w n S) := by
  have H1 := Lib.hid h1
  have Z1 := Lib.hid hz
  clear h1 hz
  go_enter Try.func63, Try.ntmps63
  go_wp2
  go_loopw [5, 6] (fun t i wr => RelWB w n S t i wr) (fun _ i _ => n - (intOf i).toNat)
  case atStart => exact ⟨0, _, by omega, by go_num, rfl, by omega, by omega, rfl, by simp only [sumU]; omega⟩
  case round =>
    obtain ⟨k, z, hk, rfl, rfl, z0, z1, rfl, HK⟩ := hrel
    by_cases hlt : k < n
    · have hlt' : (k : Int) < (n : Int) := by omega
      obtain ⟨x, rfl, hx⟩ := H1.out.at_ hlt
      have i0 : (0 : Int) ≤ (k : Int) := by omega
      have hz := sumU_each S n k hlt
      have hz2 : (S k).size ≤ 1048576 := by have := Z1.out; omega
      have hm := sumU_mono S n (k := k + 1) (by omega)
      have hm1 : sumU S (k + 1) = sumU S k + (S k).size := rfl
      have HM := Lib.hid hm
      have HM1 := Lib.hid hm1
      clear hz hm hm1
      by_cases g3 : (1048576 : Int) < z + ((S k).size : Int)
      · go_wp2
        go_ret
        exact ⟨_, rfl, rfl, fun h => by omega⟩
      · go_wp2
        go_roundw
        case rel => exact ⟨k + 1, _, by omega, by go_num, rfl, by omega, by omega, rfl, by rw [HM1.out]; omega⟩
        case measure => simp [intOf]; omega
    · obtain rfl : k = n := by omega
      have hge : ¬ (k : Int) < (k : Int) := by omega
      go_wp2
      go_ret
      exact ⟨_, rfl, rfl, fun h => by omega⟩
def RetU (w : World) (n m lk ll : Nat) (S1 S2 : Nat → ByteArray) (e : Ending) (w' : World) : Prop :=
  ∃ r : Bool, e = .returned (.bool r) ∧ w = w' ∧ (r = true → n ≤ 1048576 ∧ m ≤ 1048576 ∧ lk ≤ 1048576 ∧ ll ≤ 1048576 ∧ sumU S1 n ≤ 1048576 ∧ sumU S2 m ≤ 1048576)
set_option maxHeartbeats 4000000 in
set_option maxRecDepth 100000 in
theorem zzBytesU_ok (ak a bk b : Option Addr) (lk ck n c ll cl m d : Nat) (S1 S2 : Nat → ByteArray) (w : World) (h1 : Src w a n (fun i => .string (S1 i))) (h2 : Src w b m (fun i => .string (S2 i)))
    (b1 : n ≤ 9223372036854775807) (b2 : m ≤ 9223372036854775807) (b3 : lk ≤ 9223372036854775807) (b4 : ll ≤ 9223372036854775807) :
    Calls Try.prog 62 #[.slice ak lk ck, .slice a n c, .slice bk ll cl, .slice b m d] w (RetU w n m lk ll S1 S2) := by
  have H1 := Lib.hid h1
  have H2 := Lib.hid h2
  clear h1 h2
  by_cases g4 : 1048576 < lk
  · go_enter Try.func62, Try.ntmps62
    go_wp2
    go_ret
    exact ⟨false, rfl, rfl, by simp⟩
  have g4' : ¬ (1048576 : Int) < (lk : Int) := by omega
  by_cases g1 : 1048576 < n
  · go_enter Try.func62, Try.ntmps62
    go_wp2
    go_ret
    exact ⟨false, rfl, rfl, by simp⟩
  have g1' : ¬ (1048576 : Int) < (n : Int) := by omega
  by_cases g0 : (1048576 : Int) < (lk : Int) + (n : Int)
  · go_enter Try.func62, Try.ntmps62
    go_wp2
    go_ret
    exact ⟨false, rfl, rfl, by simp⟩
  go_enter Try.func62, Try.ntmps62
  go_wp2_with fail
  go_loopw [9, 10] (fun zn i wr => RelWB w n S1 zn i wr) (fun _ i _ => n - (intOf i).toNat)
  case atStart => exact ⟨0, _, by omega, by go_num, rfl, by omega, by omega, rfl, by simp only [sumU]; omega⟩
  case round =>
    obtain ⟨k, z, hk, rfl, rfl, z0, z1, rfl, HK⟩ := hrel
    by_cases hlt : k < n
    · have hlt' : (k : Int) < (n : Int) := by omega
      obtain ⟨x, rfl, hx⟩ := H1.out.at_ hlt
      have i0 : (0 : Int) ≤ (k : Int) := by omega
      by_cases g2 : 1048576 < (S1 k).size
      · go_wp2
        all_goals (go_ret; exact ⟨false, rfl, rfl, by simp⟩)
      have g2' : ¬ (1048576 : Int) < ((S1 k).size : Int) := by omega
      by_cases g3 : (1048576 : Int) < z + ((S1 k).size : Int)
      · go_wp2
        go_ret
        exact ⟨false, rfl, rfl, by simp⟩
      go_wp2
      go_roundw
      case rel => exact ⟨k + 1, _, by omega, by go_num, rfl, by omega, by omega, rfl, by simp only [sumU]; omega⟩
      case measure => simp [intOf]; omega
    · obtain rfl : k = n := by omega
      have hlt' : ¬ (k : Int) < (k : Int) := by omega
      by_cases g5 : 1048576 < ll
      · go_wp2
        go_ret
        exact ⟨false, rfl, rfl, by simp⟩
      have g5' : ¬ (1048576 : Int) < (ll : Int) := by omega
      by_cases g6 : (1048576 : Int) < z + (ll : Int)
      · go_wp2
        go_ret
        exact ⟨false, rfl, rfl, by simp⟩
      by_cases g7 : 1048576 < m
      · go_wp2
        go_ret
        exact ⟨false, rfl, rfl, by simp⟩
      have g7' : ¬ (1048576 : Int) < (m : Int) := by omega
      by_cases g8 : (1048576 : Int) < z + (ll : Int) + (m : Int)
      · go_wp2
        go_ret
        exact ⟨false, rfl, rfl, by simp⟩
      go_wp2_with fail
      go_loopw [9, 11] (fun zn i wr => RelWB w m S2 zn i wr) (fun _ i _ => m - (intOf i).toNat)
      case atStart => exact ⟨0, _, by omega, by go_num, rfl, by omega, by omega, rfl, by simp only [sumU]; omega⟩
      case round =>
        obtain ⟨q, y, hq, rfl, rfl, y0, y1, rfl, HQ⟩ := hrel
        by_cases hlt2 : q < m
        · have hlt2' : (q : Int) < (m : Int) := by omega
          obtain ⟨x, rfl, hx⟩ := H2.out.at_ hlt2
          have i0 : (0 : Int) ≤ (q : Int) := by omega
          by_cases g2 : 1048576 < (S2 q).size
          · go_wp2
            all_goals (go_ret; exact ⟨false, rfl, rfl, by simp⟩)
          have g2' : ¬ (1048576 : Int) < ((S2 q).size : Int) := by omega
          by_cases g3 : (1048576 : Int) < y + ((S2 q).size : Int)
          · go_wp2
            go_ret
            exact ⟨false, rfl, rfl, by simp⟩
          go_wp2
          go_roundw
          case rel => exact ⟨q + 1, _, by omega, by go_num, rfl, by omega, by omega, rfl, by simp only [sumU]; omega⟩
          case measure => simp [intOf]; omega
        · obtain rfl : q = m := by omega
          have hlt2' : ¬ (q : Int) < (q : Int) := by omega
          go_wp2
          go_ret
          exact ⟨true, rfl, rfl, fun _ => ⟨by omega, by omega, by omega, by omega, by omega, by omega⟩⟩
end Go.Proofs.Ytnjdffnbkjjmeaa
