/- Word parts as values: they compare equal to themselves; copying and comparing slices of them. -/
import Derived.Test.YtnjdffnbkjjmeaaRPT
import Derived.Test.YtnjdffnbkjjmeaaSrc
namespace Go.Proofs.Ytnjdffnbkjjmeaa
open Go.RowKit
theorem pieq_Lit (a : Addr) (w : World) : (binOp .eql 135 (.iface 64 (.pointer (some a))) (.iface 64 (.pointer (some a)))).run Try.prog w = .ok (.bool true) w := by
  obtain ⟨j, hj⟩ : ∃ j, Try.prog.info? 66 = some j := Option.isSome_iff_exists.1 (by kernel_rfl)
  obtain ⟨i, hi, hc⟩ : ∃ i, Try.prog.info? 64 = some i ∧ i.comparable = true := by
    have h : (Try.prog.info? 64).map (·.comparable) = some true := by kernel_rfl
    cases hh : Try.prog.info? 64 with
    | none => rw [hh] at h; cases h
    | some i => rw [hh] at h; exact ⟨i, rfl, by simpa using h⟩
  exact run_eql_iface_ptr_same w a Try.underlying135 Try.underlying64 hi hc hj
theorem psame_Lit (a : Addr) (w : World) :
    Calls Try.prog 61 #[.iface 64 (.pointer (some a)), .iface 64 (.pointer (some a))] w fun e w' => e = .returned (.bool true) ∧ w = w' := by
  have h := pieq_Lit
  go_enter Try.func61, Try.ntmps61
  go_wp2
  go_ret
  exact ⟨rfl, rfl⟩
theorem pieq_ParamExp (a : Addr) (w : World) : (binOp .eql 135 (.iface 122 (.pointer (some a))) (.iface 122 (.pointer (some a)))).run Try.prog w = .ok (.bool true) w := by
  obtain ⟨j, hj⟩ : ∃ j, Try.prog.info? 142 = some j := Option.isSome_iff_exists.1 (by kernel_rfl)
  obtain ⟨i, hi, hc⟩ : ∃ i, Try.prog.info? 122 = some i ∧ i.comparable = true := by
    have h : (Try.prog.info? 122).map (·.comparable) = some true := by kernel_rfl
    cases hh : Try.prog.info? 122 with
    | none => rw [hh] at h; cases h
    | some i => rw [hh] at h; exact ⟨i, rfl, by simpa using h⟩
  exact run_eql_iface_ptr_same w a Try.underlying135 Try.underlying122 hi hc hj
theorem psame_ParamExp (a : Addr) (w : World) :
    Calls Try.prog 61 #[.iface 122 (.pointer (some a)), .iface 122 (.pointer (some a))] w fun e w' => e = .returned (.bool true) ∧ w = w' := by
  have h := pieq_ParamExp
  go_enter Try.func61, Try.ntmps61
  go_wp2
  go_ret
  exact ⟨rfl, rfl⟩
theorem pieq_DblQuoted (a : Addr) (w : World) : (binOp .eql 135 (.iface 123 (.pointer (some a))) (.iface 123 (.pointer (some a)))).run Try.prog w = .ok (.bool true) w := by
  obtain ⟨j, hj⟩ : ∃ j, Try.prog.info? 131 = some j := Option.isSome_iff_exists.1 (by kernel_rfl)
  obtain ⟨i, hi, hc⟩ : ∃ i, Try.prog.info? 123 = some i ∧ i.comparable = true := by
    have h : (Try.prog.info? 123).map (·.comparable) = some true := by kernel_rfl
    cases hh : Try.prog.info? 123 with
    | none => rw [hh] at h; cases h
    | some i => rw [hh] at h; exact ⟨i, rfl, by simpa using h⟩
  exact run_eql_iface_ptr_same w a Try.underlying135 Try.underlying123 hi hc hj
theorem psame_DblQuoted (a : Addr) (w : World) :
    Calls Try.prog 61 #[.iface 123 (.pointer (some a)), .iface 123 (.pointer (some a))] w fun e w' => e = .returned (.bool true) ∧ w = w' := by
  have h := pieq_DblQuoted
  go_enter Try.func61, Try.ntmps61
  go_wp2
  go_ret
  exact ⟨rfl, rfl⟩
theorem pieq_CmdSubst (a : Addr) (w : World) : (binOp .eql 135 (.iface 203 (.pointer (some a))) (.iface 203 (.pointer (some a)))).run Try.prog w = .ok (.bool true) w := by
  obtain ⟨j, hj⟩ : ∃ j, Try.prog.info? 205 = some j := Option.isSome_iff_exists.1 (by kernel_rfl)
  obtain ⟨i, hi, hc⟩ : ∃ i, Try.prog.info? 203 = some i ∧ i.comparable = true := by
    have h : (Try.prog.info? 203).map (·.comparable) = some true := by kernel_rfl
    cases hh : Try.prog.info? 203 with
    | none => rw [hh] at h; cases h
    | some i => rw [hh] at h; exact ⟨i, rfl, by simpa using h⟩
  exact run_eql_iface_ptr_same w a Try.underlying135 Try.underlying203 hi hc hj
theorem psame_CmdSubst (a : Addr) (w : World) :
    Calls Try.prog 61 #[.iface 203 (.pointer (some a)), .iface 203 (.pointer (some a))] w fun e w' => e = .returned (.bool true) ∧ w = w' := by
  have h := pieq_CmdSubst
  go_enter Try.func61, Try.ntmps61
  go_wp2
  go_ret
  exact ⟨rfl, rfl⟩
/-- A word part that is there, of one of the four kinds that the laws build. -/
def PartV (v : Value) : Prop := ∃ (t : TypeId) (a : Addr), (t = 64 ∨ t = 122 ∨ t = 123 ∨ t = 203) ∧ v = .iface t (.pointer (some a))
theorem PartV.lit (a : Addr) : PartV (.iface 64 (.pointer (some a))) := ⟨_, a, .inl rfl, rfl⟩
theorem PartV.pe (a : Addr) : PartV (.iface 122 (.pointer (some a))) := ⟨_, a, .inr (.inl rfl), rfl⟩
theorem PartV.dq (a : Addr) : PartV (.iface 123 (.pointer (some a))) := ⟨_, a, .inr (.inr (.inl rfl)), rfl⟩
theorem PartV.cs (a : Addr) : PartV (.iface 203 (.pointer (some a))) := ⟨_, a, .inr (.inr (.inr rfl)), rfl⟩
theorem psame {v : Value} (h : PartV v) (w : World) : Calls Try.prog 61 #[v, v] w fun e w' => e = .returned (.bool true) ∧ w' = w := by
  obtain ⟨t, a, rfl | rfl | rfl | rfl, rfl⟩ := h
  · exact (psame_Lit a w).mono (fun _ _ h => ⟨h.1, h.2.symm⟩)
  · exact (psame_ParamExp a w).mono (fun _ _ h => ⟨h.1, h.2.symm⟩)
  · exact (psame_DblQuoted a w).mono (fun _ _ h => ⟨h.1, h.2.symm⟩)
  · exact (psame_CmdSubst a w).mono (fun _ _ h => ⟨h.1, h.2.symm⟩)
theorem makeWP (n : Nat) (hn : n ≤ 1048576) (W : World) : (Instr.makeSlice 126 (.int .i64 (n : Int)) (.int .i64 (n : Int))).run Try.prog W = .ok (.slice (some ⟨W.heap.size, 0, none⟩) n n) (W.alloc (.cells (madeCells #[.nilIface] n) 135)) :=
  makeN 126 135 .nilIface 16 Try.underlying126 (by kernel_rfl) rfl n (by omega) (by omega) W
set_option maxHeartbeats 1000000 in
set_option maxRecDepth 100000 in
theorem copyParts_any (g n cap base : Nat) (f : Nat → Value) (w : World) (hs : RowF w base g 135 n f) (hv : ∀ j, j < n → PartV (f j)) (hn : n ≤ 1048576) :
    Calls Try.prog 57 #[.slice (some ⟨g, 0, none⟩) n cap] w fun e w' => e = .returned (.slice (some ⟨w.heap.size, 0, none⟩) n n) ∧ RowF w' w.heap.size w.heap.size 135 n f ∧ Below w.heap.size w w' := by
  have hmk := makeWP n hn
  have HS := Lib.hid hs
  have HV := Lib.hid hv
  have lg := hs.lt.2
  clear hs hv
  go_enter Try.func57, Try.ntmps57
  go_wp2
  refine wp_gen (S := fun W => RowF W w.heap.size w.heap.size 135 n (fun _ => .nilIface) ∧ Below w.heap.size w W) ⟨RowF.fresh _ _ _ (Nat.le_refl _) (by unfold maxLen; omega), by go_grown⟩ ?_
  rintro W ⟨hR, hB⟩
  go_loopw [4] (fun i wr => ∃ k : Nat, k ≤ n ∧ i = .int .i64 k ∧ RowF wr w.heap.size w.heap.size 135 n (fun j => if j < k then f j else .nilIface) ∧ Below w.heap.size w wr) (fun i _ => n - (intOf i).toNat)
  case atStart => exact ⟨0, by omega, by go_num, hR.congr (fun j _ => by simp), hB⟩
  case round =>
    clear hR hB
    obtain ⟨k, hk, rfl, hR, hB⟩ := hrel
    by_cases hlt : k < n
    · obtain ⟨t, a, _, hfk⟩ := HV.out k hlt
      have hc : wr.cell? ⟨g, k, none⟩ = some (.iface t (.pointer (some a))) := by rw [← hfk]; exact (hB.cell lg).trans (HS.out.cell hlt)
      have HF := Lib.hid hfk
      clear hfk
      have hd := hR.cell hlt
      have hf := hR.frz k
      have hg := hR.lt.2
      rw [if_neg (by omega)] at hd
      have hlt' : (k : Int) < (n : Int) := by omega
      have HR := Lib.hid hR
      clear hR
      go_wp2
      go_roundw
      case rel => exact ⟨k + 1, by omega, by go_num, (HR.out.put _).congr (fun j hj => by
        by_cases h1 : j = k
        · subst h1; simp [HF.out]
        · by_cases h2 : j < k
          · rw [if_neg h1, if_pos h2, if_pos (by omega)]
          · rw [if_neg h1, if_neg h2, if_neg (by omega)]), hB.setCell (by simp) _⟩
      case measure => simp [intOf]; omega
    · obtain rfl : k = n := by omega
      have HR := Lib.hid (hR.congr (f' := f) (fun j hj => by simp [hj]))
      clear hR
      go_wp2
      go_ret
      exact ⟨rfl, HR.out, hB⟩
set_option maxHeartbeats 1000000 in
set_option maxRecDepth 100000 in
theorem sameParts_any (g1 g2 n c1 c2 b1 b2 : Nat) (f : Nat → Value) (w : World) (h1 : RowF w b1 g1 135 n f) (h2 : RowF w b2 g2 135 n f) (hv : ∀ j, j < n → PartV (f j)) (hn : n ≤ 1048576) :
    Calls Try.prog 60 #[.slice (some ⟨g1, 0, none⟩) n c1, .slice (some ⟨g2, 0, none⟩) n c2] w fun e w' => e = .returned (.bool true) ∧ Below w.heap.size w w' := by
  have H1 := Lib.hid h1
  have H2 := Lib.hid h2
  have HV := Lib.hid hv
  have l1 := h1.lt.2
  have l2 := h2.lt.2
  clear h1 h2 hv
  go_enter Try.func60, Try.ntmps60
  go_wp2
  go_loopw [5] (fun i wr => ∃ k : Nat, k ≤ n ∧ i = .int .i64 k ∧ Below w.heap.size w wr) (fun i _ => n - (intOf i).toNat)
  case atStart => exact ⟨0, by omega, by go_num, Below.refl _ _⟩
  case round =>
    obtain ⟨k, hk, rfl, hB⟩ := hrel
    by_cases hlt : k < n
    · have e1 : wr.cell? ⟨g1, k, none⟩ = some (f k) := (hB.cell l1).trans (H1.out.cell hlt)
      have e2 : wr.cell? ⟨g2, k, none⟩ = some (f k) := (hB.cell l2).trans (H2.out.cell hlt)
      have hlt' : (k : Int) < (n : Int) := by omega
      have hvk := HV.out k hlt
      have i0 : (0 : Int) ≤ (k : Int) := by omega
      have HVK := Lib.hid hvk
      clear hvk
      go_wp2
      go_quiet ((go_at_call 61; exact Calls.quiet_of_same (psame HVK.out _)))
      go_wp2
      go_roundw
      case rel => exact ⟨k + 1, by omega, by go_num, bdrewN hB _⟩
      case measure => simp [intOf]; omega
    · obtain rfl : k = n := by omega
      go_wp2
      go_ret
      exact ⟨rfl, hB⟩
end Go.Proofs.Ytnjdffnbkjjmeaa
