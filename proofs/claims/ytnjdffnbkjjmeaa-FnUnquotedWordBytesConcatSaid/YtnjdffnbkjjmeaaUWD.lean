/- Parser.unquotedWordBytes of a word that zzBuildWord laid; zzWordBytes and the law's bound. -/
import Derived.Test.YtnjdffnbkjjmeaaUWC
namespace Go.Proofs.Ytnjdffnbkjjmeaa
open Go.RowKit Go.PlainAid
/-- The bytes of the first n parts; the flag of the last of them. -/
def catU (K : Nat → Int) (S : Nat → ByteArray) : Nat → List UInt8
  | 0 => []
  | n + 1 => catU K S n ++ ub (K n % 5) (S n).data.toList
def flU (K : Nat → Int) (S : Nat → ByteArray) : Nat → Bool
  | 0 => false
  | n + 1 => uf (K n % 5) (S n).data.toList
def sumU (S : Nat → ByteArray) : Nat → Nat
  | 0 => 0
  | k + 1 => sumU S k + (S k).size
theorem catU_le (K : Nat → Int) (S : Nat → ByteArray) : ∀ n, (catU K S n).length ≤ sumU S n
  | 0 => by simp [catU]
  | n + 1 => by
    have h1 := catU_le K S n
    have h2 := ub_le (K n % 5) (S n).data.toList
    have h3 : (S n).data.toList.length = (S n).size := by simp
    simp only [catU, sumU, List.length_append]
    omega
theorem sumU_each (S : Nat → ByteArray) : ∀ n j, j < n → (S j).size ≤ sumU S n
  | 0, j, h => by omega
  | n + 1, j, h => by
    simp only [sumU]
    rcases Nat.lt_or_ge j n with h1 | h1
    · have := sumU_each S n j h1; omega
    · obtain rfl : j = n := by omega
      omega
theorem sumU_mono (S : Nat → ByteArray) {k : Nat} : ∀ n, k ≤ n → sumU S k ≤ sumU S n
  | 0, h => by obtain rfl : k = 0 := by omega
               exact Nat.le_refl _
  | n + 1, h => by
    rcases Nat.lt_or_ge k (n + 1) with h1 | h1
    · have := sumU_mono S n (k := k) (by omega); simp only [sumU]; omega
    · obtain rfl : k = n + 1 := by omega
      exact Nat.le_refl _
def RelUB (w : World) (n : Nat) (K : Nat → Int) (S : Nat → ByteArray) (v d i : Value) (wr : World) : Prop :=
  ∃ k : Nat, k ≤ n ∧ i = .int .i64 k ∧ d = .bool (flU K S k) ∧ wr.ownsRow w.heap.size 5 1 v (catU K S k).length ((catU K S k).map bv) ∧ Below w.heap.size w wr
def EndUB (w : World) (l : List UInt8) (f : Bool) (e : Ending) (w' : World) : Prop :=
  ∃ v : Value, e = .returned (.tuple #[v, .bool f]) ∧ w'.ownsRow w.heap.size 5 1 v l.length (l.map bv) ∧ Below w.heap.size w w'
theorem make4 (W : World) : ∃ W1 : World, (Instr.makeSlice 59 (.int .i64 0) (.int .i64 4)).run Try.prog W = .ok (.slice (some ⟨W.heap.size, 0, none⟩) 0 4) W1 ∧ W1.ownsRow W.heap.size 5 1 (.slice (some ⟨W.heap.size, 0, none⟩) 0 4) 0 [] ∧ Below W.heap.size W W1 := by
  obtain ⟨i0, hi, hz0, hz1, hz2⟩ := info_parts infoU8
  have h := run_make (P := Try.prog) W 59 5 i0 (.int .u8 0) Try.underlying59 hi hz0 .i64 .i64 (0 : Int) (4 : Int) (by omega) (by omega) (by rw [hz2]; omega) (by omega)
  refine ⟨_, h, ⟨rfl, .inr ⟨W.heap.size, 4, _, rfl, Nat.le_refl _, heap_alloc_new W _, by omega, by unfold maxLen; omega, ?_, by simp⟩⟩, (Below.refl _ _).alloc (Nat.le_refl _) _⟩
  rw [hz1]
  show (madeCells #[.int .u8 0] (4 * 1)).size = 4 * 1
  rw [← Array.length_toList, toList_madeCells_one]
  simp
set_option maxHeartbeats 4000000 in
set_option maxRecDepth 100000 in
theorem unqBytes (pp : Value) (wd g n : Nat) (K : Nat → Int) (S : Nat → ByteArray) (w : World) (hpp : ∃ a, pp = .pointer a) (hW : Bk w wd 129 #[.slice (some ⟨g, 0, none⟩) n n]) (hr : RowOf w g g 135 n n (El144 g K S)) (hn : n ≤ 1048576) (hs : sumU S n ≤ 1048576) :
    Calls Try.prog 83 #[pp, .pointer (some ⟨wd, 0, none⟩)] w (EndUB w (catU K S n) (flU K S n)) := by
  obtain ⟨pa, rfl⟩ := hpp
  have cW := hW.cells
  have lW := hW.lt
  have lg := hr.lt.2
  have HR := Lib.hid hr
  obtain ⟨W1, hmk, hown, hB1⟩ := make4 w
  have HO := Lib.hid hown
  have hc : W1.cell? ⟨wd, 0, none⟩ = some (.slice (some ⟨g, 0, none⟩) n n) := by rw [(hW.keep hB1).cells]; rfl
  clear hr hown hW cW
  go_enter Try.func83, Try.ntmps83
  go_wp2
  clear hmk hc
  go_loopw [6, 7, 16] (fun v d i wr => RelUB w n K S v d i wr) (fun _ _ i _ => n - (intOf i).toNat)
  case atStart => exact ⟨0, by omega, by go_num, rfl, by simpa [catU] using HO.out, hB1⟩
  case round =>
    clear HO hB1
    obtain ⟨k, hk, rfl, rfl, hown, hB⟩ := hrel
    by_cases hlt : k < n
    · obtain ⟨u, hu, lo, t, b, hlo, rfl, hp⟩ := HR.out.at_ hlt
      have hc : wr.cell? ⟨g, k, none⟩ = some (.iface t (.pointer (some ⟨b, 0, none⟩))) := keepc hB hu
      have hlt' : (k : Int) < (n : Int) := by omega
      have i0 : (0 : Int) ≤ (k : Int) := by omega
      have h1 := sumU_each S n k hlt
      have h2 := catU_le K S k
      have h3 := sumU_mono S n (k := k) (by omega)
      have hsl := own_sl hown
      have HO := Lib.hid hown
      have HP := Lib.hid hp
      have L2 : (catU K S k).length ≤ 2097152 := by omega
      clear hown hp hu h2 h3
      obtain ⟨va, vn, vc, rfl⟩ := hsl
      go_wp2_with fail
      refine (uwp_any lo _ _ _ (catU K S k) (K k % 5) (S k) w _ ⟨_, rfl⟩ hB HO.out HP.out (by omega) L2).mono ?_
      rintro e w1 ⟨v', rfl, ho, hb'⟩
      have HO' := Lib.hid ho
      clear ho L2
      go_wp2
      go_roundw
      case rel => exact ⟨k + 1, by omega, by go_num, rfl, HO'.out, hB.trans hb'⟩
      case measure => simp [intOf]; omega
    · obtain rfl : k = n := by omega
      have hge : ¬ ((k : Int) < (k : Int)) := by omega
      have HO := Lib.hid hown
      clear hown
      go_wp2
      go_ret2
      exact ⟨_, rfl, HO.out, hB⟩
end Go.Proofs.Ytnjdffnbkjjmeaa
