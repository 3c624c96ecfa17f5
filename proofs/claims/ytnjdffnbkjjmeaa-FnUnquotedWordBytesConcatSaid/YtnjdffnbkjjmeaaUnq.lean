/- Parser.unquotedWordPart at a literal, outside and inside double quotes: which bytes it appends, and its flag. -/
import Derived.Test.YtnjdffnbkjjmeaaPars
import Derived.PlainAid
import Derived.Laws.BytesArg
import Derived.Laws.IdiomStrings
import Derived.Maps.AppendAt
namespace Go.Proofs.Ytnjdffnbkjjmeaa
open Go.RowKit Go.PlainAid
abbrev bv (b : UInt8) : Value := .int .u8 (b.toNat : Int)
/-- The bytes of a literal outside quotes: a backslash is dropped and the byte behind it kept. -/
def unq : List UInt8 → List UInt8
  | [] => []
  | [c] => if c = 92 then [] else [c]
  | c :: d :: r => if c = 92 then d :: unq r else c :: unq (d :: r)
/-- Is there such a backslash? -/
def qf : List UInt8 → Bool
  | [] => false
  | [c] => decide (c = 92)
  | c :: d :: r => if c = 92 then true else qf (d :: r)
theorem unq_ne {c : UInt8} (h : c ≠ 92) (r : List UInt8) : unq (c :: r) = c :: unq r := by
  cases r with
  | nil => simp [unq, h]
  | cons d r => simp [unq, h]
theorem qf_ne {c : UInt8} (h : c ≠ 92) (r : List UInt8) : qf (c :: r) = qf r := by
  cases r with
  | nil => simp [qf, h]
  | cons d r => simp [qf, h]
theorem unq_esc (d : UInt8) (r : List UInt8) : unq (92 :: d :: r) = d :: unq r := by simp [unq]
theorem qf_esc (d : UInt8) (r : List UInt8) : qf (92 :: d :: r) = true := by simp [qf]
theorem drop_at {s : ByteArray} {k : Nat} (h : k < s.size) : s.data.toList.drop k = s[k] :: s.data.toList.drop (k + 1) := by
  rw [List.drop_eq_getElem_cons (by simpa using h)]
  rfl
theorem bt_at {s : ByteArray} {k : Nat} (h : k < s.size) : bt s k = (s[k].toNat : Int) := (get_bt s k h).symm
theorem c92 {s : ByteArray} {k : Nat} (h : k < s.size) : (bt s k == 92) = decide (s[k] = 92) := by
  rw [bt_at h, Bool.eq_iff_iff]
  simp
  constructor
  · intro h2
    exact UInt8.toNat_inj.1 (by show s[k].toNat = 92; omega)
  · intro h2
    rw [h2]; rfl
theorem unq_le : ∀ l : List UInt8, (unq l).length ≤ l.length
  | [] => by simp [unq]
  | [c] => by simp only [unq]; split <;> simp
  | c :: d :: r => by
    simp only [unq]
    split
    · have := unq_le r
      simp; omega
    · have := unq_le (d :: r)
      simp at this ⊢; omega
theorem infoU8 : (Try.prog.info? 5).map (fun i => (i.zero, i.size, i.bytes)) = some (some (.int .u8 0), 1, 1) := by kernel_rfl
theorem taLit (a : Option Addr) (w : World) : (Instr.typeAssert (.iface 64 (.pointer a)) 135 64 true).run Try.prog w = .ok (.tuple #[.pointer a, .bool true]) w := by kernel_rfl
def restU (esc : Bool) (l : List UInt8) : List UInt8 := if esc then unq l else l
def restF (esc : Bool) (l : List UInt8) : Bool := if esc then qf l else false
theorem restU_t (l : List UInt8) : restU true l = unq l := by simp [restU]
theorem restU_f (l : List UInt8) : restU false l = l := by simp [restU]
theorem restF_t (l : List UInt8) : restF true l = qf l := by simp [restF]
theorem restF_f (l : List UInt8) : restF false l = false := by simp [restF]
/-- What the loop over a literal's bytes keeps. -/
def RelU (B : Nat) (w : World) (L all : List UInt8) (fl : Bool) (esc : Bool) (v q i : Value) (wr : World) : Prop :=
  ∃ (k : Nat) (l : List UInt8) (f : Bool), k ≤ L.length + 1 ∧ i = .int .i64 k ∧ q = .bool f ∧ Hid (l ++ restU esc (L.drop k) = all) ∧ Hid ((f || restF esc (L.drop k)) = fl) ∧ wr.ownsRow B 5 1 v l.length (l.map bv) ∧ Below B w wr
def EndU (B : Nat) (w : World) (all : List UInt8) (fl : Bool) (e : Ending) (w' : World) : Prop :=
  ∃ v : Value, e = .returned (.tuple #[v, .bool fl]) ∧ w'.ownsRow B 5 1 v all.length (all.map bv) ∧ Below B w w'
theorem news1 {W : World} {t : TypeId} {u : Value} : ∀ j x, [u][j]? = some x → (W.alloc (.cells #[u] t)).cell? ((⟨W.heap.size, 0, none⟩ : Addr).add j) = some x := news_one (Bk.fresh W t #[u])
theorem below_app {B : Nat} {w W w1 : World} {v : Value} {n : Nat} {e : TypeId} {xs : List Value} (h : Below B w W) (hB : B ≤ W.heap.size) (hown : W.ownsRow B e 1 v n xs) (hg : W.grownBy w1 v.ownBlock) : Below B w w1 := by
  refine h.trans ⟨hg.os, hg.tape, hg.output, hg.size, fun i hi => hg.block i (by omega) ?_⟩
  intro h1
  have := hown.lt i h1.symm
  omega
set_option maxHeartbeats 4000000 in
set_option maxRecDepth 100000 in
theorem uwp_out (pp v : Value) (l : List UInt8) (bl B : Nat) (s : ByteArray) (w : World) (hpp : ∃ a, pp = .pointer a) (hB : B ≤ w.heap.size) (hown : w.ownsRow B 5 1 v l.length (l.map bv)) (hl : w.cell? ⟨bl, 4, none⟩ = some (.string s)) (hbl : bl < B) (hs : s.size ≤ 2097152) (hll : l.length ≤ 2097152) :
    Calls Try.prog 75 #[pp, v, .iface 64 (.pointer (some ⟨bl, 0, none⟩)), .bool false] w (EndU B w (l ++ unq s.data.toList) (qf s.data.toList)) := by
  obtain ⟨pa, rfl⟩ := hpp
  obtain ⟨i0, hi, hz0, hz1, hz2⟩ := info_parts infoU8
  have hi2 := Lib.hid hi
  have hz0' := Lib.hid hz0
  have hz1' := Lib.hid hz1
  have hz2' := Lib.hid hz2
  have HL := Lib.hid hl
  have HO := Lib.hid hown
  have ta := taLit
  clear hi hz0 hz1 hz2 hl hown
  have hsz : s.data.toList.length = s.size := by simp
  have HSZ := Lib.hid hsz
  clear hsz
  go_enter Try.func75, Try.ntmps75
  go_wp2
  clear ta
  go_loopw [1, 9, 11] (fun v q i wr => RelU B w s.data.toList (l ++ unq s.data.toList) (qf s.data.toList) true v q i wr) (fun _ _ i _ => s.size + 2 - (intOf i).toNat)
  case atStart => exact ⟨0, l, false, by omega, by go_num, rfl, Lib.hid (by rw [restU_t]; simp), Lib.hid (by rw [restF_t]; simp), HO.out, Below.refl _ _⟩
  case round =>
    clear HO
    obtain ⟨k, l1, f, hk, rfl, rfl, hall, hfl, hown, hB1⟩ := hrel
    have hk' : k ≤ s.size + 1 := by have := HSZ.out; omega
    have hBw : B ≤ wr.heap.size := Nat.le_trans hB hB1.size
    have hc : wr.cell? ⟨bl, 4, none⟩ = some (.string s) := (hB1.cell hbl).trans HL.out
    have hbt := get_bt s
    have hln : l1.length ≤ 4194304 := by
      have h1 := congrArg List.length hall.out
      have h2 := unq_le s.data.toList
      have h3 := HSZ.out
      simp at h1 h2 h3
      omega
    by_cases hlt : k < s.size
    · have hlt' : (k : Int) < (s.size : Int) := by omega
      by_cases h92 : s[k] = 92
      · have t92 : (bt s k == 92) = true := by rw [c92 hlt]; simp [h92]
        by_cases h2 : k + 1 < s.size
        · have e1 : s.data.toList.drop k = 92 :: s[k + 1] :: s.data.toList.drop (k + 2) := by rw [drop_at hlt, h92, drop_at h2]
          have E1 := Lib.hid e1
          have em : (l1 ++ [s[k + 1]]).map bv = l1.map bv ++ [.int .u8 (bt s (k + 1))] := by simp [bv, bt_at h2]
          have EM := Lib.hid em
          have h2' : (k : Int) + 1 < (s.size : Int) := by omega
          clear e1 em h92
          go_wp2_with (at_builtin; refine wpList_append_own _ rfl (.tmp 51) (.tmp 58) 59 rfl B 5 i0 (.int .u8 0) 1 1 Try.underlying59 hi2.out hz0'.out hz1'.out hz2'.out rfl (by decide) u1 l1.length (l1.map bv) rfl (hown.alloc _) ⟨wr.heap.size, 0, none⟩ 1 1 [.int .u8 (bt s (k + 1))] rfl rfl news1 (by simp [Value.oneCell']) (by unfold maxLen; omega) (by omega) (by simp; omega) ?_; intro v2 w2 ho2 hg2 _)
          have hB2 : Below B w w2 := below_app (hB1.alloc hBw _) (by simp; omega) (hown.alloc _) hg2
          clear hg2
          go_wp2
          go_roundw
          case rel =>
            refine ⟨k + 2, l1 ++ [s[k + 1]], true, by have := HSZ.out; omega, by go_num, rfl, Lib.hid ?_, Lib.hid ?_, ?_, hB2⟩
            · have h := hall.out
              rw [restU_t, E1.out, unq_esc] at h
              rw [restU_t, List.append_assoc]
              exact h
            · have h := hfl.out
              rw [restF_t, E1.out, qf_esc] at h
              simp at h
              simp [h]
            · rw [EM.out]
              simpa using ho2
          case measure => simp [intOf]; omega
        · have e1 : s.data.toList.drop k = [92] := by rw [drop_at hlt, h92, List.drop_eq_nil_of_le (by have := HSZ.out; omega)]
          have e2 : s.data.toList.drop (k + 2) = [] := List.drop_eq_nil_of_le (by have := HSZ.out; omega)
          have E1 := Lib.hid e1
          have E2 := Lib.hid e2
          have h2' : ¬ ((k : Int) + 1 < (s.size : Int)) := by omega
          clear e1 e2 h92
          go_wp2
          go_roundw
          case rel =>
            refine ⟨k + 2, l1, true, by have := HSZ.out; omega, by go_num, rfl, Lib.hid ?_, Lib.hid ?_, hown, hB1⟩
            · have h := hall.out
              rw [restU_t, E1.out] at h
              rw [restU_t, E2.out]
              simpa [unq] using h
            · have h := hfl.out
              rw [restF_t, E1.out] at h
              simp [qf] at h
              simp [h]
          case measure => simp [intOf]; omega
      · have t92 : (bt s k == 92) = false := by rw [c92 hlt]; simp [h92]
        have E1 := Lib.hid (drop_at hlt)
        have em : (l1 ++ [s[k]]).map bv = l1.map bv ++ [.int .u8 (bt s k)] := by simp [bv, bt_at hlt]
        have EM := Lib.hid em
        have H92 := Lib.hid h92
        clear em h92
        go_wp2_with (at_builtin; refine wpList_append_own _ rfl (.tmp 60) (.tmp 62) 59 rfl B 5 i0 (.int .u8 0) 1 1 Try.underlying59 hi2.out hz0'.out hz1'.out hz2'.out rfl (by decide) u1 l1.length (l1.map bv) rfl (hown.alloc _) ⟨wr.heap.size, 0, none⟩ 1 1 [.int .u8 (bt s k)] rfl rfl news1 (by simp [Value.oneCell']) (by unfold maxLen; omega) (by omega) (by simp; omega) ?_; intro v2 w2 ho2 hg2 _)
        have hB2 : Below B w w2 := below_app (hB1.alloc hBw _) (by simp; omega) (hown.alloc _) hg2
        clear hg2
        go_wp2
        go_roundw
        case rel =>
          refine ⟨k + 1, l1 ++ [s[k]], f, by have := HSZ.out; omega, by go_num, rfl, Lib.hid ?_, Lib.hid ?_, ?_, hB2⟩
          · have h := hall.out
            rw [restU_t, E1.out, unq_ne H92.out] at h
            rw [restU_t, List.append_assoc]
            exact h
          · have h := hfl.out
            rw [restF_t, E1.out, qf_ne H92.out] at h
            rw [restF_t]
            exact h
          · rw [EM.out]
            simpa using ho2
        case measure => simp [intOf]; omega
    · have e1 : s.data.toList.drop k = [] := List.drop_eq_nil_of_le (by have := HSZ.out; omega)
      have E1 := Lib.hid e1
      have hlt' : ¬ ((k : Int) < (s.size : Int)) := by omega
      clear e1
      go_wp2
      go_ret2
      have h := hall.out
      rw [restU_t, E1.out] at h
      simp [unq] at h
      have h' := hfl.out
      rw [restF_t, E1.out] at h'
      simp [qf] at h'
      exact ⟨u1, (by rw [← h']; first | rfl | skip), by rw [← h]; exact hown, hB1⟩
set_option maxHeartbeats 4000000 in
set_option maxRecDepth 100000 in
theorem uwp_in (pp v : Value) (l : List UInt8) (bl B : Nat) (s : ByteArray) (w : World) (hpp : ∃ a, pp = .pointer a) (hB : B ≤ w.heap.size) (hown : w.ownsRow B 5 1 v l.length (l.map bv)) (hl : w.cell? ⟨bl, 4, none⟩ = some (.string s)) (hbl : bl < B) (hs : s.size ≤ 2097152) (hll : l.length ≤ 2097152) :
    Calls Try.prog 75 #[pp, v, .iface 64 (.pointer (some ⟨bl, 0, none⟩)), .bool true] w (EndU B w (l ++ s.data.toList) false) := by
  obtain ⟨pa, rfl⟩ := hpp
  obtain ⟨i0, hi, hz0, hz1, hz2⟩ := info_parts infoU8
  have hi2 := Lib.hid hi
  have hz0' := Lib.hid hz0
  have hz1' := Lib.hid hz1
  have hz2' := Lib.hid hz2
  have HL := Lib.hid hl
  have HO := Lib.hid hown
  have ta := taLit
  clear hi hz0 hz1 hz2 hl hown
  have hsz : s.data.toList.length = s.size := by simp
  have HSZ := Lib.hid hsz
  clear hsz
  go_enter Try.func75, Try.ntmps75
  go_wp2
  clear ta
  go_loopw [1, 9, 11] (fun v q i wr => RelU B w s.data.toList (l ++ s.data.toList) false false v q i wr) (fun _ _ i _ => s.size + 2 - (intOf i).toNat)
  case atStart => exact ⟨0, l, false, by omega, by go_num, rfl, Lib.hid (by rw [restU_f]; simp), Lib.hid (by rw [restF_f]; simp), HO.out, Below.refl _ _⟩
  case round =>
    clear HO
    obtain ⟨k, l1, f, hk, rfl, rfl, hall, hfl, hown, hB1⟩ := hrel
    have hk' : k ≤ s.size + 1 := by have := HSZ.out; omega
    have hBw : B ≤ wr.heap.size := Nat.le_trans hB hB1.size
    have hc : wr.cell? ⟨bl, 4, none⟩ = some (.string s) := (hB1.cell hbl).trans HL.out
    have hbt := get_bt s
    have hln : l1.length ≤ 4194304 := by
      have h1 := congrArg List.length hall.out
      have h3 := HSZ.out
      simp at h1 h3
      omega
    by_cases hlt : k < s.size
    · have hlt' : (k : Int) < (s.size : Int) := by omega
      have E1 := Lib.hid (drop_at hlt)
      have em : (l1 ++ [s[k]]).map bv = l1.map bv ++ [.int .u8 (bt s k)] := by simp [bv, bt_at hlt]
      have EM := Lib.hid em
      clear em
      have hcase : (bt s k == 92) = true ∨ (bt s k == 92) = false := by cases (bt s k == 92) <;> simp
      rcases hcase with t92 | t92
      all_goals
        go_wp2_with (at_builtin; refine wpList_append_own _ rfl (.tmp 60) (.tmp 62) 59 rfl B 5 i0 (.int .u8 0) 1 1 Try.underlying59 hi2.out hz0'.out hz1'.out hz2'.out rfl (by decide) u1 l1.length (l1.map bv) rfl (hown.alloc _) ⟨wr.heap.size, 0, none⟩ 1 1 [.int .u8 (bt s k)] rfl rfl news1 (by simp [Value.oneCell']) (by unfold maxLen; omega) (by omega) (by simp; omega) ?_; intro v2 w2 ho2 hg2 _)
        have hB2 : Below B w w2 := below_app (hB1.alloc hBw _) (by simp; omega) (hown.alloc _) hg2
        clear hg2
        go_wp2
        go_roundw
        case rel =>
          refine ⟨k + 1, l1 ++ [s[k]], f, by have := HSZ.out; omega, by go_num, rfl, Lib.hid ?_, Lib.hid ?_, ?_, hB2⟩
          · have h := hall.out
            rw [restU_f, E1.out] at h
            rw [restU_f, List.append_assoc]
            exact h
          · have h := hfl.out
            rw [restF_f] at h ⊢
            exact h
          · rw [EM.out]
            simpa using ho2
        case measure => simp [intOf]; omega
    · have e1 : s.data.toList.drop k = [] := List.drop_eq_nil_of_le (by have := HSZ.out; omega)
      have E1 := Lib.hid e1
      have hlt' : ¬ ((k : Int) < (s.size : Int)) := by omega
      clear e1
      go_wp2
      go_ret2
      have h := hall.out
      rw [restU_f, E1.out] at h
      simp at h
      have h' := hfl.out
      rw [restF_f] at h'
      simp at h'
      exact ⟨u1, (by rw [h']; first | rfl | skip), by rw [← h]; exact hown, hB1⟩
end Go.Proofs.Ytnjdffnbkjjmeaa
