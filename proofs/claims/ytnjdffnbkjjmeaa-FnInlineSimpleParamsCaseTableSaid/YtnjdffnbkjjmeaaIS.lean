/- The law's own zzValidName_b2; simplifier.inlineSimpleParams and its shim. -/
import Derived.Test.YtnjdffnbkjjmeaaVN
import Derived.Test.YtnjdffnbkjjmeaaSW
import Derived.Test.YtnjdffnbkjjmeaaUQ
namespace Go.Proofs.Ytnjdffnbkjjmeaa
open Go.RowKit Go.PlainAid
theorem cls8 (c : Int) : (97 ≤ c ∧ c ≤ 122) ∨ (¬ 97 ≤ c ∧ 65 ≤ c ∧ c ≤ 90) ∨ (¬ 97 ≤ c ∧ 65 ≤ c ∧ ¬ c ≤ 90 ∧ (c == 95) = true) ∨ (¬ 97 ≤ c ∧ ¬ 65 ≤ c ∧ (c == 95) = false ∧ 48 ≤ c ∧ c ≤ 57) ∨ (¬ 97 ≤ c ∧ ¬ 65 ≤ c ∧ (c == 95) = false ∧ ¬ 48 ≤ c) ∨ (¬ 97 ≤ c ∧ ¬ 65 ≤ c ∧ (c == 95) = false ∧ 48 ≤ c ∧ ¬ c ≤ 57) ∨
    (¬ 97 ≤ c ∧ 65 ≤ c ∧ ¬ c ≤ 90 ∧ (c == 95) = false ∧ 48 ≤ c ∧ ¬ c ≤ 57) ∨ (97 ≤ c ∧ ¬ c ≤ 122 ∧ 65 ≤ c ∧ ¬ c ≤ 90 ∧ (c == 95) = false ∧ 48 ≤ c ∧ ¬ c ≤ 57) := by
  simp
  omega
def RelZV (s : ByteArray) (V : Bool) (i : Value) : Prop := ∃ k : Nat, k ≤ s.size ∧ i = .int .i64 k ∧ Hid (restV k s.data.toList = V)
set_option maxHeartbeats 4000000 in
theorem zzValid_any (s : ByteArray) (w : World) (hs : s.size ≤ 1048576) :
    Calls Try.prog 71 #[.string s] w fun e w' => e = .returned (.bool (vnB s.data.toList)) ∧ w = w' := by
  by_cases h0 : s.size = 0
  · rw [vnB_nil h0]
    go_enter Try.func71, Try.ntmps71
    go_wp2
    go_ret
    exact ⟨rfl, rfl⟩
  obtain ⟨V, hV⟩ : ∃ V, V = vnB s.data.toList := ⟨_, rfl⟩
  rw [← hV]
  have hr : restV 0 s.data.toList = V := by rw [hV]; rfl
  have HR := Lib.hid hr
  have H0 := Lib.hid h0
  have h0' : ((s.size : Int) == 0) = false := beq_eq_false_iff_ne.2 (by omega)
  clear hr hV h0
  go_enter Try.func71, Try.ntmps71
  go_wp2
  go_loop [3] (fun i => RelZV s V i) (fun i => s.size - (intOf i).toNat)
  case atStart => exact ⟨0, by omega, by go_num, HR⟩
  case round =>
    clear HR
    obtain ⟨k, hk, rfl, hV⟩ := hrel
    by_cases hlt : k < s.size
    · have hv := hV.out
      rw [restV_at hlt] at hv
      have hlt' : (k : Int) < (s.size : Int) := by omega
      have hbt := get_bt s
      have eb : ((s[k]).toNat : Int) = bt s k := get_bt s k hlt
      rw [eb] at hv
      clear eb
      cases hok : okAt (decide (k = 0)) (bt s k)
      · rw [hok] at hv
        simp at hv
        subst hv
        clear hV
        unfold okAt letB digB at hok
        rcases cls8 (bt s k) with ⟨c1, c2⟩ | ⟨c1, c2, c3⟩ | ⟨c1, c2, c3, c4⟩ | ⟨c1, c2, c3, c4, c5⟩ | ⟨c1, c2, c3, c4⟩ | ⟨c1, c2, c3, c4, c5⟩ | ⟨c1, c2, c3, c4, c5, c6⟩ | ⟨c1, c2, c3, c4, c5, c6, c7⟩
        · simp [c1, c2] at hok
        · simp [c1, c2, c3] at hok
        · simp [c4] at hok
        · have hk0 : ¬ (0 : Int) < (k : Int) := by
            simp [c1, c2, c3, c4, c5] at hok
            omega
          clear hok
          go_wp2
          go_ret
          exact ⟨rfl, rfl⟩
        all_goals
          clear hok
          by_cases hk0 : (0 : Int) < (k : Int)
          all_goals
            go_wp2
            go_ret
            exact ⟨rfl, rfl⟩
      · rw [hok] at hv
        have HV := Lib.hid (by simpa using hv : restV (k + 1) s.data.toList = V)
        clear hv hV
        unfold okAt letB digB at hok
        rcases cls8 (bt s k) with ⟨c1, c2⟩ | ⟨c1, c2, c3⟩ | ⟨c1, c2, c3, c4⟩ | ⟨c1, c2, c3, c4, c5⟩ | ⟨c1, c2, c3, c4⟩ | ⟨c1, c2, c3, c4, c5⟩ | ⟨c1, c2, c3, c4, c5, c6⟩ | ⟨c1, c2, c3, c4, c5, c6, c7⟩
        · clear hok
          go_wp2
          go_round
          case rel => exact ⟨k + 1, by omega, by go_num, HV⟩
          case measure => simp [intOf]; omega
        · clear hok
          go_wp2
          go_round
          case rel => exact ⟨k + 1, by omega, by go_num, HV⟩
          case measure => simp [intOf]; omega
        · clear hok
          go_wp2
          go_round
          case rel => exact ⟨k + 1, by omega, by go_num, HV⟩
          case measure => simp [intOf]; omega
        · have hk0 : (0 : Int) < (k : Int) := by
            simp [c1, c2, c3, c4, c5] at hok
            omega
          clear hok
          go_wp2
          go_round
          case rel => exact ⟨k + 1, by omega, by go_num, HV⟩
          case measure => simp [intOf]; omega
        · simp [c1, c2, c3, c4] at hok
        · simp [c1, c2, c3, c4, c5] at hok
        · simp [c1, c2, c3, c4, c5, c6] at hok
        · simp [c1, c2, c3, c4, c5, c6, c7] at hok
    · obtain rfl : k = s.size := by omega
      have hv := hV.out
      rw [restV_end (by have := H0.out; omega)] at hv
      subst hv
      go_wp2
      go_ret
      exact ⟨rfl, rfl⟩
theorem is_tw (a : Option Addr) (w : World) : (Instr.typeAssert (.iface 44 (.pointer a)) 78 44 true).run Try.prog w = .ok (.tuple #[.pointer a, .bool true]) w := by kernel_rfl
theorem is_pd (a : Option Addr) (w : World) : (Instr.typeAssert (.iface 123 (.pointer a)) 135 122 true).run Try.prog w = .ok (.tuple #[.pointer none, .bool false]) w := by kernel_rfl
set_option maxHeartbeats 1000000 in
theorem isp_no1 (sb wd n c : Nat) (A : Option Addr) (w : World) (hw : w.cell? ⟨wd, 0, none⟩ = some (.slice A n c)) (hn : n ≠ 1) :
    Calls Try.prog 86 #[.pointer (some ⟨sb, 0, none⟩), .iface 44 (.pointer (some ⟨wd, 0, none⟩))] w (RetX (.iface 44 (.pointer (some ⟨wd, 0, none⟩))) w) := by
  have t1 := is_tw
  have hn' : ((n : Int) == 1) = false := by simp; omega
  have hn2 : ((n : Int) != 1) = true := by simp; omega
  clear hn
  go_enter Try.func86, Try.ntmps86
  go_wp2
  go_ret
  exact ⟨rfl, by go_grown⟩
set_option maxHeartbeats 1000000 in
theorem isp_no2 (sb wd c : Nat) (x : Addr) (v : Value) (w : World) (hw : w.cell? ⟨wd, 0, none⟩ = some (.slice (some x) 1 c)) (hv : w.cell? x = some v) (ht : NotPe v) :
    Calls Try.prog 86 #[.pointer (some ⟨sb, 0, none⟩), .iface 44 (.pointer (some ⟨wd, 0, none⟩))] w (RetX (.iface 44 (.pointer (some ⟨wd, 0, none⟩))) w) := by
  have t1 := is_tw
  unfold NotPe at ht
  go_enter Try.func86, Try.ntmps86
  go_wp2
  go_ret
  exact ⟨rfl, by go_grown⟩
set_option maxHeartbeats 1000000 in
theorem isp_no3 (sb wd c pe : Nat) (x : Addr) (w : World) (hw : w.cell? ⟨wd, 0, none⟩ = some (.slice (some x) 1 c)) (hv : w.cell? x = some (.iface 122 (.pointer (some ⟨pe, 0, none⟩)))) (hp : w.cell? ⟨pe, 13, none⟩ = some (.pointer none)) :
    Calls Try.prog 86 #[.pointer (some ⟨sb, 0, none⟩), .iface 44 (.pointer (some ⟨wd, 0, none⟩))] w (RetX (.iface 44 (.pointer (some ⟨wd, 0, none⟩))) w) := by
  have t1 := is_tw
  have t2 := uq_pp
  go_enter Try.func86, Try.ntmps86
  go_wp2
  go_ret
  exact ⟨rfl, by go_grown⟩
set_option maxHeartbeats 1000000 in
theorem isp_no4 (sb wd c pe lt : Nat) (x : Addr) (s : ByteArray) (w : World) (hw : w.cell? ⟨wd, 0, none⟩ = some (.slice (some x) 1 c)) (hv : w.cell? x = some (.iface 122 (.pointer (some ⟨pe, 0, none⟩)))) (hp : w.cell? ⟨pe, 13, none⟩ = some (.pointer (some ⟨lt, 0, none⟩))) (hl : w.cell? ⟨lt, 4, none⟩ = some (.string s)) (hs : s.size ≤ 1048576) (hb : vnB s.data.toList = false) :
    Calls Try.prog 86 #[.pointer (some ⟨sb, 0, none⟩), .iface 44 (.pointer (some ⟨wd, 0, none⟩))] w (RetX (.iface 44 (.pointer (some ⟨wd, 0, none⟩))) w) := by
  have t1 := is_tw
  have t2 := uq_pp
  have HB := Lib.hid hb
  clear hb
  go_enter Try.func86, Try.ntmps86
  go_wp2_with (go_at_call 87; refine (validName_any _ _ hs).mono ?_; rintro e w1 ⟨rfl, hb⟩; rw [HB.out])
  go_ret
  exact ⟨rfl, by assumption⟩
end Go.Proofs.Ytnjdffnbkjjmeaa
