/- The walk of FnUnquotedWordPartEscapeRoundTrip. -/
import Derived.Test.YtnjdffnbkjjmeaaUnq
namespace Go.Proofs.Ytnjdffnbkjjmeaa
open Go.RowKit Go.PlainAid
def escL (l : List UInt8) : List UInt8 := l.flatMap fun c => [92, c]
theorem escL_len (l : List UInt8) : (escL l).length = 2 * l.length := by
  induction l with
  | nil => rfl
  | cons c r ih => simp [escL] at ih ⊢; omega
theorem escL_snoc (l : List UInt8) (c : UInt8) : escL (l ++ [c]) = escL l ++ [92, c] := by simp [escL]
theorem unq_escL : ∀ l : List UInt8, unq (escL l) = l
  | [] => rfl
  | c :: r => by
    show unq (92 :: c :: escL r) = c :: r
    rw [unq_esc, unq_escL r]
theorem qf_escL (l : List UInt8) : qf (escL l) = decide (0 < l.length) := by
  cases l with
  | nil => rfl
  | cons c r =>
    show qf (92 :: c :: escL r) = _
    rw [qf_esc]; simp
theorem conv_own {W : World} {B : Nat} {v : Value} (l : List UInt8) (h : W.ownsRow B 5 1 v l.length (l.map bv)) : (convert 59 9 v).run Try.prog W = .ok (.string ⟨l.toArray⟩) W := by
  rcases h.2 with ⟨rfl, h0⟩ | ⟨g, cap, cur, rfl, hb, hg, h1, h2, h3, h4⟩
  · have hl : l = [] := List.eq_nil_of_length_eq_zero h0
    subst hl
    exact run_convert_bytes_nil W 59 5 Try.underlying59 Try.underlying5 0 0 _ Try.underlying9
  · refine run_convert_bytes_back W 59 9 5 ⟨g, 0, none⟩ cap l Try.underlying59 Try.underlying5 Try.underlying9 (fun j hj => ?_)
    have hc := h.cells (g := g) rfl j (bv l[j]) (by simp [hj])
    exact hc
theorem zzUnq_any (pp v x : Value) (q : Bool) (w : World) (R : Ending → World → Prop) (hv : ∃ a n c, v = .slice a n c) (hx : ∃ t a, x = .iface t (.pointer a)) (hpp : ∃ a, pp = .pointer a) (h : Calls Try.prog 75 #[pp, v, x, .bool q] w (fun e w' => ∃ v' f, e = .returned (.tuple #[v', .bool f]) ∧ R (.returned (.tuple #[v', .bool f])) w')) :
    Calls Try.prog 25 #[pp, v, x, .bool q] w R := by
  obtain ⟨a, n, c, rfl⟩ := hv
  obtain ⟨t, a2, rfl⟩ := hx
  obtain ⟨a3, rfl⟩ := hpp
  have H := Lib.hid h
  clear h
  go_enter Try.func25, Try.ntmps25
  go_wp2_with fail
  refine H.out.mono ?_
  rintro e w1 ⟨v', f, rfl, hR⟩
  go_wp2
  exact hR
theorem zzBytes144e_any (s : ByteArray) (w : World) (h : s.size ≤ 9223372036854775807) :
    Calls Try.prog 23 #[.string s] w fun e w' => ∃ b : Bool, e = .returned (.bool b) ∧ w = w' := by
  go_enter Try.func23, Try.ntmps23
  go_wp2
  all_goals (go_ret; exact ⟨_, rfl, rfl⟩)
theorem news2 {W : World} {t : TypeId} {a b : Value} : ∀ j u, [a, b][j]? = some u → (W.alloc (.cells #[a, b] t)).cell? ((⟨W.heap.size, 0, none⟩ : Addr).add j) = some u := by
  intro j u hu
  rcases j with _ | _ | j
  · simp at hu
    subst hu
    simp [Addr.add]
  · simp at hu
    subst hu
    simp [Addr.add]
  · simp at hu
theorem take_at {s : ByteArray} {k : Nat} (h : k < s.size) : s.data.toList.take (k + 1) = s.data.toList.take k ++ [s[k]] := by
  rw [List.take_succ_eq_append_getElem (by simpa using h)]; rfl
def RelE (w : World) (s : ByteArray) (v i : Value) (wr : World) : Prop :=
  ∃ k : Nat, k ≤ s.size ∧ i = .int .i64 k ∧ v = .slice (some ⟨w.heap.size, 0, none⟩) (2 * k) (2 * s.size) ∧ wr.ownsRow w.heap.size 5 1 (.slice (some ⟨w.heap.size, 0, none⟩) (2 * k) (2 * s.size)) (2 * k) ((escL (s.data.toList.take k)).map bv) ∧ Below w.heap.size w wr
set_option maxHeartbeats 4000000 in
set_option maxRecDepth 100000 in
theorem walkFnUnquotedWordPartEscapeRoundTrip (a0 : ByteArray) (w0 : a0.size ≤ maxLen) (w : World) :
    Calls Try.prog 5 #[.string a0] w fun e w' => e = .returned (.bool true) ∧ Below w.heap.size w w' := by
  unfold maxLen at w0
  by_cases hs : a0.size ≤ 524288
  case neg =>
    have hs' : (524288 : Int) < (a0.size : Int) := by omega
    go_enter Try.func5, Try.ntmps5
    go_wp2_with fail
    refine (zzBytes144e_any _ _ w0).mono ?_
    rintro e w' ⟨b, rfl, rfl⟩
    cases b <;> (go_wp2_with fail; go_ret; exact ⟨rfl, Below.refl _ _⟩)
  obtain ⟨i0, hi, hz0, hz1, hz2⟩ := info_parts infoU8
  have hi2 := Lib.hid hi
  have hz0' := Lib.hid hz0
  have hz1' := Lib.hid hz1
  have hz2' := Lib.hid hz2
  clear hi hz0 hz1 hz2
  have hs' : ¬ (524288 : Int) < (a0.size : Int) := by omega
  have hbt := get_bt a0
  go_enter Try.func5, Try.ntmps5
  go_wp2_with fail
  refine (zzBytes144e_any _ _ w0).mono ?_
  rintro e w' ⟨b, rfl, rfl⟩
  cases b
  · go_wp2
    go_ret
    exact ⟨rfl, Below.refl _ _⟩
  go_wp2_with (at_make; refine wpList_make_own _ rfl _ _ 59 rfl w.heap.size 5 i0 (.int .u8 0) 1 Try.underlying59 hi2.out hz0'.out hz1'.out .i64 .i64 _ (2 * a0.size) rfl rfl (by omega) ?c1 ?c2 ?c3 ?_; rotate_left 3; intro wm hown hgr)
  case c1 => rw [hz2'.out]; omega
  case c2 => unfold maxLen; omega
  case c3 => exact Nat.le_refl _
  have hBm : Below w.heap.size w wm := ⟨hgr.os, hgr.tape, hgr.output, hgr.size, fun i hi => hgr.block i hi (by simp)⟩
  clear hgr
  go_loopw [3, 4] (fun v i wr => RelE w a0 v i wr) (fun _ i _ => a0.size - (intOf i).toNat)
  case atStart => exact ⟨0, by omega, by go_num, rfl, by simpa [escL] using hown, hBm⟩
  case round =>
    clear hown hBm
    obtain ⟨k, hk, rfl, rfl, hown, hB⟩ := hrel
    by_cases hlt : k < a0.size
    · have hlt' : (k : Int) < (a0.size : Int) := by omega
      have em : (escL (a0.data.toList.take (k + 1))).map bv = (escL (a0.data.toList.take k)).map bv ++ [.int .u8 92, .int .u8 (bt a0 k)] := by
        rw [take_at hlt, escL_snoc, List.map_append]
        simp [bv, bt_at hlt]
      have EM := Lib.hid em
      have HO := Lib.hid hown
      have gb := (hown.lt w.heap.size rfl).2
      clear em hown
      go_wp2_with (at_builtin; refine wpList_append_fits _ rfl _ _ 59 rfl w.heap.size 5 i0 1 Try.underlying59 hi2.out hz1'.out w.heap.size (2 * k) (2 * a0.size) _ rfl (own_below HO.out (by go_grown)) ⟨wr.heap.size, 0, none⟩ 2 2 [.int .u8 92, .int .u8 (bt a0 k)] rfl rfl news2 (by simp [Value.oneCell']) (by omega) ?_; intro w2 ho2 hg2)
      have hB2 := below_grown (w := w) (W := wr.alloc (.cells #[.int .u8 92, .int .u8 (bt a0 k)] 5)) (by go_grown) hg2 (Nat.le_refl _)
      have hk2 : 2 * k + 2 = 2 * (k + 1) := by omega
      rw [hk2] at ho2 ⊢
      clear hg2 hk2
      go_wp2
      go_roundw
      case rel => exact ⟨k + 1, by omega, by go_num, rfl, by rw [EM.out]; exact ho2, hB2⟩
      case measure => simp [intOf]; omega
    · obtain rfl : k = a0.size := by omega
      have ng : ¬ ((a0.size : Int) < (a0.size : Int)) := by omega
      have htk : a0.data.toList.take a0.size = a0.data.toList := List.take_of_length_le (by simp)
      rw [htk] at hown
      have hlen : (escL a0.data.toList).length = 2 * a0.size := by rw [escL_len]; simp
      obtain ⟨S, hS⟩ : ∃ S : ByteArray, S = ⟨(escL a0.data.toList).toArray⟩ := ⟨_, rfl⟩
      have hSd : S.data.toList = escL a0.data.toList := by rw [hS]
      have hSz : S.size = 2 * a0.size := by rw [hS, ← hlen]; rfl
      have hcv : (convert 59 9 (.slice (some ⟨w.heap.size, 0, none⟩) (2 * a0.size) (2 * a0.size))).run Try.prog wr = .ok (.string S) wr := by
        rw [hS]
        exact conv_own (B := w.heap.size) (escL a0.data.toList) (by rw [hlen]; exact hown)
      have HSd := Lib.hid hSd
      have HSz := Lib.hid hSz
      have HS := Lib.hid hS
      clear htk hlen hSd hSz hS hown
      go_wp2_with fail
      refine (newParser_any _).mono ?_
      rintro e v1 ⟨b, rfl, hbge, _, hb⟩
      have B1 := bmore hB hb
      clear hb hcv hB
      go_wp2_with fail
      refine (zzUnq_any _ _ _ _ _ (EndU (v1.heap.size + 1) (v1.alloc (.cells #[.int .u32 0, .int .u32 0, .int .u32 0, .int .u32 0, .string S] 66)) ([] ++ unq S.data.toList) (qf S.data.toList)) ⟨_, _, _, rfl⟩ ⟨_, _, rfl⟩ ⟨_, rfl⟩ ((uwp_out _ _ [] v1.heap.size (v1.heap.size + 1) S _ ⟨_, rfl⟩ (by simp) ⟨by simp, .inl ⟨rfl, rfl⟩⟩ (by simp [go_sem]) (by omega) (by have := HSz.out; omega) (by simp)).mono (fun e w' ⟨v, he, ho, hb⟩ => ⟨v, _, he, ⟨v, rfl, ho, hb⟩⟩))).mono ?_
      rintro e v2 ⟨vo, rfl, ho, hb⟩
      rw [HSd.out, unq_escL, List.nil_append] at ho
      have B2 : Below w.heap.size w v2 := bmore (w := w) (W := v1.alloc (.cells #[.int .u32 0, .int .u32 0, .int .u32 0, .int .u32 0, .string S] 66)) (B1.alloc B1.size _) (by simpa using hb)
      have hfl : qf S.data.toList = decide ((0 : Int) < (a0.size : Int)) := by rw [HSd.out, qf_escL]; simp
      rw [hfl]
      have hcv2 : (convert 59 9 vo).run Try.prog v2 = .ok (.string a0) v2 := conv_own a0.data.toList ho
      clear hfl ho hb B1
      go_wp2_with fail
      refine (zzUnq_any _ _ _ _ _ (EndU (v2.heap.size + 1) (v2.alloc (.cells #[.int .u32 0, .int .u32 0, .int .u32 0, .int .u32 0, .string S] 66)) ([] ++ S.data.toList) false) ⟨_, _, _, rfl⟩ ⟨_, _, rfl⟩ ⟨_, rfl⟩ ((uwp_in _ _ [] v2.heap.size (v2.heap.size + 1) S _ ⟨_, rfl⟩ (by simp) ⟨by simp, .inl ⟨rfl, rfl⟩⟩ (by simp [go_sem]) (by omega) (by have := HSz.out; omega) (by simp)).mono (fun e w' ⟨v, he, ho, hb⟩ => ⟨v, _, he, ⟨v, rfl, ho, hb⟩⟩))).mono ?_
      rintro e v3 ⟨vo2, rfl, ho, hb⟩
      rw [HSd.out, List.nil_append] at ho
      have B3 : Below w.heap.size w v3 := bmore (w := w) (W := v2.alloc (.cells #[.int .u32 0, .int .u32 0, .int .u32 0, .int .u32 0, .string S] 66)) (B2.alloc B2.size _) (by simpa using hb)
      have hcv3 : (convert 59 9 vo2).run Try.prog v3 = .ok (.string S) v3 := by
        rw [HS.out]
        exact conv_own (escL a0.data.toList) ho
      clear hcv2 ho hb B2
      go_wp2
      go_ret
      exact ⟨rfl, B3⟩
end Go.Proofs.Ytnjdffnbkjjmeaa
