/- ValidName and the law's own zzValidName_b2: both are one plain function of the name's bytes. -/
import Derived.Test.YtnjdffnbkjjmeaaSP
import Derived.Deep.LoopGhost
import Derived.Laws.RangeAny
import Derived.PlainAid
import Derived.Laws.BytesArg
import Derived.Laws.IdiomStrings
namespace Go.Proofs.Ytnjdffnbkjjmeaa
open Go.RowKit Go.PlainAid
def letB (c : Int) : Bool := (decide (97 ≤ c) && decide (c ≤ 122)) || (decide (65 ≤ c) && decide (c ≤ 90))
def digB (c : Int) : Bool := decide (48 ≤ c) && decide (c ≤ 57)
def okAt (first : Bool) (c : Int) : Bool := letB c || c == 95 || (!first && digB c)
def okRest : List UInt8 → Bool
  | [] => true
  | c :: r => okAt false (c.toNat : Int) && okRest r
/-- A valid name. -/
def vnB : List UInt8 → Bool
  | [] => false
  | c :: r => okAt true (c.toNat : Int) && okRest r
def restV (pos : Nat) (l : List UInt8) : Bool := if pos = 0 then vnB l else okRest (l.drop pos)
theorem vn_drop {s : ByteArray} {k : Nat} (h : k < s.size) : s.data.toList.drop k = s[k] :: s.data.toList.drop (k + 1) := by
  rw [List.drop_eq_getElem_cons (by simpa using h)]
  rfl
theorem restV_at {s : ByteArray} {pos : Nat} (h : pos < s.size) : restV pos s.data.toList = (okAt (decide (pos = 0)) ((s[pos]).toNat : Int) && restV (pos + 1) s.data.toList) := by
  have e := vn_drop h
  unfold restV
  rw [if_neg (by omega : ¬ pos + 1 = 0)]
  by_cases h0 : pos = 0
  · subst h0
    rw [if_pos rfl]
    rw [List.drop_zero] at e
    rw [e]
    simp [vnB]
  · rw [if_neg h0, e]
    simp [okRest, h0]
theorem restV_end {s : ByteArray} (h : 0 < s.size) : restV s.size s.data.toList = true := by
  unfold restV
  rw [if_neg (by omega), List.drop_eq_nil_of_le (by simp)]
  rfl
theorem vnB_nil {s : ByteArray} (h : s.size = 0) : vnB s.data.toList = false := by
  have : s.data.toList = [] := List.eq_nil_of_length_eq_zero (by simpa using h)
  rw [this]; rfl
theorem width_high {s : ByteArray} {pos : Nat} (h : pos < s.size) (ha : 128 ≤ (s[pos]).toNat) : letB ((Utf8.decode s pos).1 : Int) = false ∧ ((((Utf8.decode s pos).1 : Nat) : Int) == 95) = false ∧ digB ((Utf8.decode s pos).1 : Int) = false := by
  have := (decode_high s pos h ha).1
  unfold letB digB
  refine ⟨?_, ?_, ?_⟩
  · have h1 : ¬ (((Utf8.decode s pos).1 : Nat) : Int) ≤ 122 := by omega
    have h2 : ¬ (((Utf8.decode s pos).1 : Nat) : Int) ≤ 90 := by omega
    simp [h1, h2]
  · simp; omega
  · have h1 : ¬ (((Utf8.decode s pos).1 : Nat) : Int) ≤ 57 := by omega
    simp [h1]
/-- A byte beyond ASCII is in no name. -/
theorem okAt_high {f : Bool} {c : Int} (h : 128 ≤ c) : okAt f c = false := by
  unfold okAt letB digB
  have h1 : ¬ c ≤ 122 := by omega
  have h2 : ¬ c ≤ 90 := by omega
  have h3 : ¬ c ≤ 57 := by omega
  have h4 : (c == 95) = false := by simp; omega
  simp [h1, h2, h3, h4]
theorem letter_any (c : Int) (w : World) :
    Calls Try.prog 89 #[.int .i32 c] w fun e w' => e = .returned (.bool (letB c)) ∧ w = w' := by
  unfold letB
  by_cases h1 : 97 ≤ c <;> by_cases h2 : c ≤ 122 <;> by_cases h3 : 65 ≤ c <;> by_cases h4 : c ≤ 90
  all_goals
    simp only [h1, h2, h3, h4, decide_true, decide_false]
    go_enter Try.func89, Try.ntmps89
    go_wp2
    go_ret
    exact ⟨rfl, rfl⟩
theorem digit_any (c : Int) (w : World) :
    Calls Try.prog 90 #[.int .i32 c] w fun e w' => e = .returned (.bool (digB c)) ∧ w = w' := by
  unfold digB
  by_cases h1 : 48 ≤ c <;> by_cases h2 : c ≤ 57
  all_goals
    simp only [h1, h2, decide_true, decide_false]
    go_enter Try.func90, Try.ntmps90
    go_wp2
    go_ret
    exact ⟨rfl, rfl⟩
theorem okAt_false {f : Prop} [Decidable f] {c : Int} (h : okAt (decide f) c = false) : letB c = false ∧ (c == 95) = false ∧ (f ∨ digB c = false) := by
  unfold okAt at h
  cases h1 : letB c <;> cases h2 : (c == 95) <;> simp [h1, h2] at h ⊢
  by_cases hf : f
  · exact .inl hf
  · simp [hf] at h
    exact .inr h
theorem okAt_true {pos : Nat} {c : Int} (h : okAt (decide (pos = 0)) c = true) : letB c = true ∨ (letB c = false ∧ (c == 95) = true) ∨ (letB c = false ∧ (c == 95) = false ∧ (0 : Int) < (pos : Int) ∧ digB c = true) := by
  unfold okAt at h
  cases h1 : letB c <;> cases h2 : (c == 95) <;> simp [h1, h2] at h ⊢
  exact ⟨by omega, h.2⟩
theorem okAt_small {f : Bool} {n : Nat} (h : okAt f (n : Int) = true) : n < 128 := by
  rcases Nat.lt_or_ge n 128 with h1 | h1
  · exact h1
  · rw [okAt_high (by omega)] at h
    cases h
def RelVN (w : World) (s : ByteArray) (V : Bool) (k : Nat) (wr : World) : Prop := ∃ pos : Nat, pos + k = s.size ∧ wr = w.iter s pos ∧ Hid (restV pos s.data.toList = V)
set_option maxHeartbeats 2000000 in
theorem validName_any (s : ByteArray) (w : World) (hs : s.size ≤ 1048576) :
    Calls Try.prog 87 #[.string s] w fun e w' => e = .returned (.bool (vnB s.data.toList)) ∧ Below w.heap.size w w' := by
  by_cases h0 : s.size = 0
  · rw [vnB_nil h0]
    have hl : s.data.toList = [] := List.eq_nil_of_length_eq_zero (by simpa using h0)
    have hl3 : s.toList.isEmpty = true := by rw [ByteArray.toList_eq, hl]; rfl
    clear h0 hl
    go_enter Try.func87, Try.ntmps87
    go_wp2
    go_ret
    exact ⟨rfl, Below.refl _ _⟩
  obtain ⟨V, hV⟩ : ∃ V, V = vnB s.data.toList := ⟨_, rfl⟩
  rw [← hV]
  have hr : restV 0 s.data.toList = V := by rw [hV]; rfl
  have HR := Lib.hid hr
  have hl3 : s.toList.isEmpty = false := by
    rw [ByteArray.toList_eq, Bool.eq_false_iff]
    intro h
    rw [List.isEmpty_iff] at h
    exact h0 (by simpa using congrArg List.length h)
  have H0 := Lib.hid h0
  clear hr hV h0
  go_enter Try.func87, Try.ntmps87
  go_wp2
  go_loopg [] s.size (fun k wr => RelVN w s V k wr)
  case atStart => exact ⟨0, by omega, rfl, HR.out⟩
  case round =>
    clear HR
    obtain ⟨pos, hk, rfl, hV⟩ := hrel
    rcases gk with _ | k
    · obtain rfl : pos = s.size := by omega
      have hv := hV.out
      rw [restV_end (by have := H0.out; omega)] at hv
      subst hv
      have hnx : ∀ ty, (Instr.next (.pointer (some ⟨w.heap.size, 0, none⟩)) true ty).run Try.prog (w.iter s s.size) = _ := fun ty => run_next_end w s s.size ty (by omega)
      go_wp2
      go_ret
      exact ⟨rfl, (Below.refl _ _).alloc (Nat.le_refl _) _⟩
    · have hp : pos < s.size := by omega
      have hv := hV.out
      rw [restV_at hp] at hv
      cases hok : okAt (decide (pos = 0)) ((s[pos]).toNat : Int)
      · rw [hok] at hv
        simp at hv
        subst hv
        by_cases ha : (s[pos]).toNat < 128
        · have hnx : ∀ ty, (Instr.next (.pointer (some ⟨w.heap.size, 0, none⟩)) true ty).run Try.prog (w.iter s pos) = _ := fun ty => run_next_ascii w s pos ty hp ha
          obtain ⟨k1, k2, k3⟩ := okAt_false hok
          obtain ⟨c, hc⟩ : ∃ c : Int, c = ((s[pos]).toNat : Int) := ⟨_, rfl⟩
          rw [← hc] at k1 k2 k3
          simp only [← hc] at hnx
          clear hok hc ha
          rcases k3 with h3 | h3
          · have h3' : ¬ (0 : Int) < (pos : Int) := by omega
            clear h3
            go_wp2_with (go_at_call 89; refine (letter_any _ _).mono ?_; rintro e w' ⟨rfl, rfl⟩)
            go_ret
            exact ⟨rfl, (Below.refl _ _).alloc (Nat.le_refl _) _⟩
          · by_cases h4 : 0 < pos
            · have h4' : (0 : Int) < (pos : Int) := by omega
              go_wp2_with (first | (go_at_call 89; refine (letter_any _ _).mono ?_; rintro e w' ⟨rfl, rfl⟩) | (go_at_call 90; refine (digit_any _ _).mono ?_; rintro e w' ⟨rfl, rfl⟩))
              go_ret
              exact ⟨rfl, (Below.refl _ _).alloc (Nat.le_refl _) _⟩
            · have h4' : ¬ (0 : Int) < (pos : Int) := by omega
              go_wp2_with (first | (go_at_call 89; refine (letter_any _ _).mono ?_; rintro e w' ⟨rfl, rfl⟩) | (go_at_call 90; refine (digit_any _ _).mono ?_; rintro e w' ⟨rfl, rfl⟩))
              go_ret
              exact ⟨rfl, (Below.refl _ _).alloc (Nat.le_refl _) _⟩
        · have hnx : ∀ ty, (Instr.next (.pointer (some ⟨w.heap.size, 0, none⟩)) true ty).run Try.prog (w.iter s pos) = _ := fun ty => run_next_any w s pos ty hp
          obtain ⟨k1, k2, k3⟩ := width_high hp (by omega)
          obtain ⟨c, hc⟩ : ∃ c : Int, c = ((Utf8.decode s pos).1 : Int) := ⟨_, rfl⟩
          rw [← hc] at k1 k2 k3
          simp only [← hc] at hnx
          clear hok hc ha
          by_cases h4 : (0 : Int) < (pos : Int)
          all_goals
            go_wp2_with (first | (go_at_call 89; refine (letter_any _ _).mono ?_; rintro e w' ⟨rfl, rfl⟩) | (go_at_call 90; refine (digit_any _ _).mono ?_; rintro e w' ⟨rfl, rfl⟩))
            go_ret
            exact ⟨rfl, (Below.refl _ _).alloc (Nat.le_refl _) _⟩
      · rw [hok] at hv
        have HV := Lib.hid (by simpa using hv : restV (pos + 1) s.data.toList = V)
        have hnx : ∀ ty, (Instr.next (.pointer (some ⟨w.heap.size, 0, none⟩)) true ty).run Try.prog (w.iter s pos) = _ := fun ty => run_next_ascii w s pos ty hp (okAt_small hok)
        have k3 := okAt_true hok
        obtain ⟨c, hc⟩ : ∃ c : Int, c = ((s[pos]).toNat : Int) := ⟨_, rfl⟩
        rw [← hc] at k3
        simp only [← hc] at hnx
        clear hok hc hv hV
        rcases k3 with k1 | ⟨k1, k2⟩ | ⟨k1, k2, k3, k4⟩
        all_goals
          go_wp2_with (first | (go_at_call 89; refine (letter_any _ _).mono ?_; rintro e w' ⟨rfl, rfl⟩) | (go_at_call 90; refine (digit_any _ _).mono ?_; rintro e w' ⟨rfl, rfl⟩))
          go_roundg k
          case measure => omega
          case rel => exact ⟨pos + 1, by omega, rfl, HV⟩
end Go.Proofs.Ytnjdffnbkjjmeaa
