/- zzSimpleParamsWord_b2: what it lays. -/
import Derived.Test.YtnjdffnbkjjmeaaUP
import Derived.Test.YtnjdffnbkjjmeaaPE
namespace Go.Proofs.Ytnjdffnbkjjmeaa
open Go.RowKit
def FirstK (fk : Nat) (v : Value) (pe : Nat) : Prop := if fk = 0 then v = .iface 122 (.pointer (some ⟨pe, 0, none⟩)) else if fk = 1 then ∃ a : Addr, v = .iface 64 (.pointer (some a)) else ∃ a : Addr, v = .iface 123 (.pointer (some a))
/-- The expansion and its name, as zzParamExp_b2 laid them. -/
def PEl (W : World) (pe lt : Nat) (cs : Array Value) (s : ByteArray) : Prop := Bk W pe 142 cs ∧ W.cell? ⟨lt, 4, none⟩ = some (.string s)
theorem PEl.keep {W W1 : World} {pe lt : Nat} {cs : Array Value} {s : ByteArray} (h : PEl W pe lt cs s) (hb : Below W.heap.size W W1) : PEl W1 pe lt cs s := ⟨h.1.keep hb, keepc hb h.2⟩
theorem PEl.alloc {W : World} {pe lt : Nat} {cs : Array Value} {s : ByteArray} (h : PEl W pe lt cs s) (o : Obj) : PEl (W.alloc o) pe lt cs s := h.keep ((Below.refl _ _).alloc (Nat.le_refl _) _)
theorem PEl.far {W : World} {pe lt : Nat} {cs : Array Value} {s : ByteArray} (h : PEl W pe lt cs s) {p : Addr} (h1 : pe ≠ p.block) (h2 : lt ≠ p.block) (u : Value) : PEl (W.setCell p u) pe lt cs s := ⟨h.1.far h1 u, cell_far h.2 h2⟩
theorem PEl.lt {W : World} {pe lt : Nat} {cs : Array Value} {s : ByteArray} (h : PEl W pe lt cs s) : pe < W.heap.size ∧ lt < W.heap.size := ⟨h.1.lt, World.block_lt_of_cell? _ _ h.2⟩
def SWB (w : World) (n fk k : Nat) (s : ByteArray) (e : Ending) (w' : World) : Prop :=
  ∃ (wd pe lt gO : Nat) (cs : Array Value) (v0 : Value), e = .returned (.tuple #[.pointer (some ⟨wd, 0, none⟩), .pointer (some ⟨pe, 0, none⟩), .pointer (some ⟨lt, 0, none⟩)]) ∧
    Bk w' wd 129 #[.slice (some ⟨gO, 0, none⟩) n n] ∧ PEl w' pe lt cs s ∧ PF w' w.heap.size gO n n v0 ∧ FirstK fk v0 pe ∧ cs[13]? = some (if k = 16 then .pointer none else .pointer (some ⟨lt, 0, none⟩)) ∧ (k ≠ 16 → SimpleIs cs (k == 0)) ∧ Below w.heap.size w w'
def RelSW (w : World) (g pe lt n : Nat) (v0 : Value) (cs : Array Value) (s : ByteArray) (i : Value) (wr : World) : Prop :=
  ∃ k : Nat, k ≤ n ∧ i = .int .i64 k ∧ PF wr w.heap.size g n k v0 ∧ PEl wr pe lt cs s ∧ Below w.heap.size w wr
set_option maxHeartbeats 4000000 in
set_option maxRecDepth 100000 in
theorem sw_0 (n k : Nat) (hn : n ≤ 65536) (hk : k ≤ 16) (s : ByteArray) (w : World) :
    Calls Try.prog 69 #[.string s, .int .i64 (n : Int), .int .i64 0, .int .i64 (k : Int)] w (SWB w n 0 k s) := by
  have hmk := makeWP n (by omega)
  go_enter Try.func69, Try.ntmps69
  go_wp2_with fail
  refine (pex_any k hk s _).mono ?_
  rintro e v1 ⟨pe, lt, cs, rfl, kP, cL, c13, hS, hge, hB1⟩
  have HP : Hid (PEl v1 pe lt cs s) := Lib.hid ⟨kP, cL⟩
  have lP := HP.out.lt
  have C13 := Lib.hid c13
  have HS := Lib.hid hS
  have sB1 := hB1.size
  clear kP cL c13 hS
  go_wp2
  refine wp_gen (S := fun W => PF W w.heap.size (v1.heap.size) n 0 (.iface 122 (.pointer (some ⟨pe, 0, none⟩))) ∧ PEl W pe lt cs s ∧ Below w.heap.size w W) ⟨PF.newAt (by simp) _ (by omega) (by unfold maxLen; omega), HP.out.keep (by go_grown), by go_grown⟩ ?_
  rintro W ⟨hR, hP, hB⟩
  clear hmk HP
  go_loopw [15] (fun i wr => RelSW w (v1.heap.size) pe lt n (.iface 122 (.pointer (some ⟨pe, 0, none⟩))) cs s i wr) (fun i _ => n - (intOf i).toNat)
  case atStart => exact ⟨0, by omega, by go_num, hR, hP, hB⟩
  case round =>
    clear hR hP hB
    obtain ⟨j, hj, rfl, hR, hP, hB⟩ := hrel
    by_cases hlt : j < n
    · have hlt' : (j : Int) < (n : Int) := by omega
      obtain ⟨ov, hov⟩ := hR.at_ hlt
      have hf := hR.frz j
      have hg := hR.lt.2
      have HR := Lib.hid hR
      have HP := Lib.hid hP
      clear hR hP
      by_cases h0 : j = 0
      · subst h0
        go_wp2
        go_roundw
        case rel => exact ⟨1, by omega, by go_num, HR.out.push (by first | exact PartV.lit _ | exact PartV.pe _ | exact PartV.dq _ | exact PartV.cs _) (fun _ => rfl), HP.out.far (by first | (simp; done) | (simp; omega)) (by first | (simp; done) | (simp; omega)) _, hB.setCell (by first | (simp; done) | (simp; omega)) _⟩
        case measure => simp [intOf]; omega
      · have h0' : ((j : Int) == 0) = false := by simp; omega
        go_wp2
        go_roundw
        case rel => exact ⟨j + 1, by omega, by go_num, (HR.out.push (PartV.lit _) (fun h => absurd h h0)).alloc _, (HP.out.far (by first | (simp; done) | (simp; omega)) (by first | (simp; done) | (simp; omega)) _).alloc _, (hB.setCell (by first | (simp; done) | (simp; omega)) _).alloc (by rw [size_setCell]; exact hB.size) _⟩
        case measure => simp [intOf]; omega
    · obtain rfl : j = n := by omega
      have hge : ¬ ((j : Int) < (j : Int)) := by omega
      have HR := Lib.hid hR
      have HP := Lib.hid hP
      clear hR hP
      go_wp2
      refine bodyPost_ret (v := .tuple #[.pointer (some ⟨wr.heap.size, 0, none⟩), .pointer (some ⟨pe, 0, none⟩), .pointer (some ⟨lt, 0, none⟩)]) (by simp [results, Try.results69]) rfl ⟨_, _, _, _, _, _, rfl, Bk.fresh _ _ _, HP.out.keep (by go_grown), HR.out.keep (by go_grown), by unfold FirstK; simp, C13.out, HS.out, hB.alloc hB.size _⟩
set_option maxHeartbeats 4000000 in
set_option maxRecDepth 100000 in
theorem sw_1 (n k : Nat) (hn : n ≤ 65536) (hk : k ≤ 16) (s : ByteArray) (w : World) :
    Calls Try.prog 69 #[.string s, .int .i64 (n : Int), .int .i64 1, .int .i64 (k : Int)] w (SWB w n 1 k s) := by
  have hmk := makeWP n (by omega)
  go_enter Try.func69, Try.ntmps69
  go_wp2_with fail
  refine (pex_any k hk s _).mono ?_
  rintro e v1 ⟨pe, lt, cs, rfl, kP, cL, c13, hS, hge, hB1⟩
  have HP : Hid (PEl v1 pe lt cs s) := Lib.hid ⟨kP, cL⟩
  have lP := HP.out.lt
  have C13 := Lib.hid c13
  have HS := Lib.hid hS
  have sB1 := hB1.size
  clear kP cL c13 hS
  go_wp2
  refine wp_gen (S := fun W => PF W w.heap.size (v1.heap.size + 1) n 0 (.iface 64 (.pointer (some ⟨v1.heap.size, 0, none⟩))) ∧ PEl W pe lt cs s ∧ Below w.heap.size w W) ⟨PF.newAt (by simp) _ (by omega) (by unfold maxLen; omega), HP.out.keep (by go_grown), by go_grown⟩ ?_
  rintro W ⟨hR, hP, hB⟩
  clear hmk HP
  go_loopw [15] (fun i wr => RelSW w (v1.heap.size + 1) pe lt n (.iface 64 (.pointer (some ⟨v1.heap.size, 0, none⟩))) cs s i wr) (fun i _ => n - (intOf i).toNat)
  case atStart => exact ⟨0, by omega, by go_num, hR, hP, hB⟩
  case round =>
    clear hR hP hB
    obtain ⟨j, hj, rfl, hR, hP, hB⟩ := hrel
    by_cases hlt : j < n
    · have hlt' : (j : Int) < (n : Int) := by omega
      obtain ⟨ov, hov⟩ := hR.at_ hlt
      have hf := hR.frz j
      have hg := hR.lt.2
      have HR := Lib.hid hR
      have HP := Lib.hid hP
      clear hR hP
      by_cases h0 : j = 0
      · subst h0
        go_wp2
        go_roundw
        case rel => exact ⟨1, by omega, by go_num, HR.out.push (by first | exact PartV.lit _ | exact PartV.pe _ | exact PartV.dq _ | exact PartV.cs _) (fun _ => rfl), HP.out.far (by first | (simp; done) | (simp; omega)) (by first | (simp; done) | (simp; omega)) _, hB.setCell (by first | (simp; done) | (simp; omega)) _⟩
        case measure => simp [intOf]; omega
      · have h0' : ((j : Int) == 0) = false := by simp; omega
        go_wp2
        go_roundw
        case rel => exact ⟨j + 1, by omega, by go_num, (HR.out.push (PartV.lit _) (fun h => absurd h h0)).alloc _, (HP.out.far (by first | (simp; done) | (simp; omega)) (by first | (simp; done) | (simp; omega)) _).alloc _, (hB.setCell (by first | (simp; done) | (simp; omega)) _).alloc (by rw [size_setCell]; exact hB.size) _⟩
        case measure => simp [intOf]; omega
    · obtain rfl : j = n := by omega
      have hge : ¬ ((j : Int) < (j : Int)) := by omega
      have HR := Lib.hid hR
      have HP := Lib.hid hP
      clear hR hP
      go_wp2
      refine bodyPost_ret (v := .tuple #[.pointer (some ⟨wr.heap.size, 0, none⟩), .pointer (some ⟨pe, 0, none⟩), .pointer (some ⟨lt, 0, none⟩)]) (by simp [results, Try.results69]) rfl ⟨_, _, _, _, _, _, rfl, Bk.fresh _ _ _, HP.out.keep (by go_grown), HR.out.keep (by go_grown), by unfold FirstK; simp, C13.out, HS.out, hB.alloc hB.size _⟩
set_option maxHeartbeats 4000000 in
set_option maxRecDepth 100000 in
theorem sw_2 (n k : Nat) (hn : n ≤ 65536) (hk : k ≤ 16) (s : ByteArray) (w : World) :
    Calls Try.prog 69 #[.string s, .int .i64 (n : Int), .int .i64 2, .int .i64 (k : Int)] w (SWB w n 2 k s) := by
  have hmk := makeWP n (by omega)
  go_enter Try.func69, Try.ntmps69
  go_wp2_with fail
  refine (pex_any k hk s _).mono ?_
  rintro e v1 ⟨pe, lt, cs, rfl, kP, cL, c13, hS, hge, hB1⟩
  have HP : Hid (PEl v1 pe lt cs s) := Lib.hid ⟨kP, cL⟩
  have lP := HP.out.lt
  have C13 := Lib.hid c13
  have HS := Lib.hid hS
  have sB1 := hB1.size
  clear kP cL c13 hS
  go_wp2
  refine wp_gen (S := fun W => PF W w.heap.size (v1.heap.size + 1 + 1) n 0 (.iface 123 (.pointer (some ⟨v1.heap.size + 1, 0, none⟩))) ∧ PEl W pe lt cs s ∧ Below w.heap.size w W) ⟨PF.newAt (by simp) _ (by omega) (by unfold maxLen; omega), HP.out.keep (by go_grown), by go_grown⟩ ?_
  rintro W ⟨hR, hP, hB⟩
  clear hmk HP
  go_loopw [15] (fun i wr => RelSW w (v1.heap.size + 1 + 1) pe lt n (.iface 123 (.pointer (some ⟨v1.heap.size + 1, 0, none⟩))) cs s i wr) (fun i _ => n - (intOf i).toNat)
  case atStart => exact ⟨0, by omega, by go_num, hR, hP, hB⟩
  case round =>
    clear hR hP hB
    obtain ⟨j, hj, rfl, hR, hP, hB⟩ := hrel
    by_cases hlt : j < n
    · have hlt' : (j : Int) < (n : Int) := by omega
      obtain ⟨ov, hov⟩ := hR.at_ hlt
      have hf := hR.frz j
      have hg := hR.lt.2
      have HR := Lib.hid hR
      have HP := Lib.hid hP
      clear hR hP
      by_cases h0 : j = 0
      · subst h0
        go_wp2
        go_roundw
        case rel => exact ⟨1, by omega, by go_num, HR.out.push (by first | exact PartV.lit _ | exact PartV.pe _ | exact PartV.dq _ | exact PartV.cs _) (fun _ => rfl), HP.out.far (by first | (simp; done) | (simp; omega)) (by first | (simp; done) | (simp; omega)) _, hB.setCell (by first | (simp; done) | (simp; omega)) _⟩
        case measure => simp [intOf]; omega
      · have h0' : ((j : Int) == 0) = false := by simp; omega
        go_wp2
        go_roundw
        case rel => exact ⟨j + 1, by omega, by go_num, (HR.out.push (PartV.lit _) (fun h => absurd h h0)).alloc _, (HP.out.far (by first | (simp; done) | (simp; omega)) (by first | (simp; done) | (simp; omega)) _).alloc _, (hB.setCell (by first | (simp; done) | (simp; omega)) _).alloc (by rw [size_setCell]; exact hB.size) _⟩
        case measure => simp [intOf]; omega
    · obtain rfl : j = n := by omega
      have hge : ¬ ((j : Int) < (j : Int)) := by omega
      have HR := Lib.hid hR
      have HP := Lib.hid hP
      clear hR hP
      go_wp2
      refine bodyPost_ret (v := .tuple #[.pointer (some ⟨wr.heap.size, 0, none⟩), .pointer (some ⟨pe, 0, none⟩), .pointer (some ⟨lt, 0, none⟩)]) (by simp [results, Try.results69]) rfl ⟨_, _, _, _, _, _, rfl, Bk.fresh _ _ _, HP.out.keep (by go_grown), HR.out.keep (by go_grown), by unfold FirstK; simp, C13.out, HS.out, hB.alloc hB.size _⟩
theorem sw_any (n fk k : Nat) (hf : fk ≤ 2) (hn : n ≤ 65536) (hk : k ≤ 16) (s : ByteArray) (w : World) :
    Calls Try.prog 69 #[.string s, .int .i64 (n : Int), .int .i64 (fk : Int), .int .i64 (k : Int)] w (SWB w n fk k s) := by
  rcases (by omega : fk = 0 ∨ fk = 1 ∨ fk = 2) with rfl | rfl | rfl
  · exact sw_0 n k hn hk s w
  · exact sw_1 n k hn hk s w
  · exact sw_2 n k hn hk s w
end Go.Proofs.Ytnjdffnbkjjmeaa
