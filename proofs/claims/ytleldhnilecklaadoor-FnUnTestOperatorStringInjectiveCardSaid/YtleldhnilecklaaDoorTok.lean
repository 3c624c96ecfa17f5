/- Contracts of token.String and of the operators' String, over the laid table of indices. -/
import Derived.Test.YtleldhnilecklaaDoorRows
import Derived.Test.YtleldhnilecklaaDoorTokPlain
import Derived.Test.YtleldhnilecklaaDoorShelf
import Derived.WalkKit
import Derived.WalkLawsBesides
import Derived.Handy
import Derived.Lib.Hide
import Derived.Lib.LaidTab
import Derived.Stop.LaidErr
import Derived.Stop.Joined
import Derived.LaidMore
import Derived.Deep.QuietTactic
import Derived.BigQuiet
import Derived.Lib.AppendIntMem
namespace Go.Proofs.YtleldhnilecklaaDoor
open Go.RowKit
def tokTab : List Int := tokIdx.map Int.ofNat
theorem gTok : Tryd.prog.globalNamed "mvdan.cc/sh/v3/syntax._token_index" = some 1 := by kernel_rfl
theorem gPow : Tryd.prog.globalNamed "internal/strconv.uint64pow10" = some 2 := by kernel_rfl
theorem tTok : (Tryd.prog.globals[1]?).map (·.type) = some 56 := by kernel_rfl
theorem tPow : (Tryd.prog.globals[2]?).map (·.type) = some 66 := by kernel_rfl
abbrev TokIs (w : World) : Prop := Lib.TabIs Tryd.prog w "mvdan.cc/sh/v3/syntax._token_index" .u16 tokTab
abbrev PowIs (w : World) : Prop := Lib.TabIs Tryd.prog w "internal/strconv.uint64pow10" .u64 Lib.pow10Tab
theorem tabIs_below {w w1 : World} {name : String} {k : IntKind} {zs : List Int} (h : Lib.TabIs Tryd.prog w name k zs) (hb : Below w.heap.size w w1) : Lib.TabIs Tryd.prog w1 name k zs := by
  unfold Lib.TabIs World.var? at h ⊢
  cases hg : Tryd.prog.globalNamed name with
  | none => rw [hg] at h; cases h
  | some g =>
    rw [hg] at h
    simp only [Option.bind_some] at h ⊢
    have hlt : g < w.heap.size := by
      cases hh : w.heap[g]? with
      | none => rw [hh] at h; cases h
      | some o => exact (Array.getElem?_eq_some_iff.1 hh).1
    rw [hb.block g hlt]; exact h
theorem laidPow_eq : (Rows.laid_internal_strconv_uint64pow10 : DataW Unit) = Lib.tabData .u64 Lib.pow10Tab := by rfl
theorem laidTok_eq : (Rows.laid_mvdan_cc_sh_v3_syntax_token_index : DataW Unit) = Lib.tabData .u16 tokTab := by rfl
theorem tabs_of_laid {W : World} (h : laidMetH Tryd.prog Rows.fnBinAritOperatorStringInjectiveRow.laid W) : PowIs W ∧ TokIs W := by
  rw [MakeChecks.laidMetH_plain _ _ _ (by kernel_rfl)] at h
  have h3 := h.tail.tail
  have h4 := h3.tail
  rw [laidPow_eq] at h3
  rw [laidTok_eq] at h4
  exact ⟨Lib.tabIs_of_head gPow tPow Tryd.underlying66 Tryd.underlying48 (by kernel_rfl) (by kernel_rfl) h3, Lib.tabIs_of_head gTok tTok Tryd.underlying56 Tryd.underlying55 (by kernel_rfl) (by kernel_rfl) h4⟩
theorem tokTab_at (i : Nat) (h : i < 145) : tokTab.getD i 0 = ((tokIdx.getD i 0 : Nat) : Int) := by
  have hl : i < tokIdx.length := h
  simp [tokTab, List.getD, hl]
set_option maxHeartbeats 1000000 in
set_option maxRecDepth 100000 in
theorem token_small (i : Nat) (h : i < 144) (w : World) (ht : TokIs w) :
    Calls Tryd.prog 29 #[.int .u32 (i : Int)] w fun e w' => e = .returned (.string ⟨(tokText i).toArray⟩) ∧ Below w.heap.size w w' := by
  have c0 := ht.cell gTok i (show i < 145 by omega)
  have c1 := ht.cell gTok (i + 1) (show i + 1 < 145 by omega)
  rw [tokTab_at i (by omega)] at c0
  rw [tokTab_at (i + 1) (by omega)] at c1
  have hle := tokIdx_le ⟨i, h⟩
  obtain ⟨lo, hlo⟩ : ∃ lo, lo = tokIdx.getD i 0 := ⟨_, rfl⟩
  obtain ⟨hi, hhi⟩ : ∃ hi, hi = tokIdx.getD (i + 1) 0 := ⟨_, rfl⟩
  rw [← hlo] at c0
  rw [← hhi] at c1
  simp only [← hlo, ← hhi] at hle
  have HL := Lib.hid hlo
  have HH := Lib.hid hhi
  clear hlo hhi ht
  obtain ⟨h5, h6⟩ := hle
  have h7 : (hi : Int) ≤ 320 := by omega
  have h8 : (lo : Int) ≤ (hi : Int) := by omega
  have h9 : (0 : Int) ≤ (lo : Int) := by omega
  have h10 : (0 : Int) ≤ (hi : Int) := by omega
  have d1 : ¬ (144 : Int) ≤ (i : Int) := by omega
  have d2 : ¬ (i : Int) < 0 := by omega
  have i1 : (i : Int) < 145 := by omega
  have i2 : (i : Int) + 1 < 145 := by omega
  have i3 : (0 : Int) ≤ (i : Int) := by omega
  have i4 : (0 : Int) ≤ (i : Int) + 1 := by omega
  have iw : IntKind.i64.wrap ((i : Int) + 1) = (i : Int) + 1 := IntWalk.i64_in _ (by omega)
  have it : ((i : Int) + 1).toNat = i + 1 := by omega
  go_enter Tryd.func29, Tryd.ntmps29
  go_wp2_with fail
  go_quiet (fail)
  go_wp2
  go_ret
  refine ⟨?_, ⟨rfl, rfl, rfl, Nat.le_refl _, fun _ _ => rfl⟩⟩
  have e : ∀ s : ByteArray, s = ⟨tokBytes.toArray⟩ → s.extract lo hi = ⟨(tokText i).toArray⟩ := fun s hs => by
    rw [hs, ByteArray.extract_mk, HL.out, HH.out, tokPiece_eq ⟨i, h⟩]
    simp [tokText, h]
  show Ending.returned (.string (ByteArray.extract ⟨tokBytes.toArray⟩ lo hi)) = _
  rw [e _ rfl]
set_option maxHeartbeats 1000000 in
set_option maxRecDepth 100000 in
theorem token_big (i : Nat) (h : 144 ≤ i) (h32 : i < 4294967296) (w : World) (ht : PowIs w) :
    Calls Tryd.prog 29 #[.int .u32 (i : Int)] w fun e w' => e = .returned (.string ⟨(tokText i).toArray⟩) ∧ Below w.heap.size w w' := by
  have d1 : (144 : Int) ≤ (i : Int) := by omega
  have d2 : ¬ (i : Int) < 0 := by omega
  have hd20 : (Lib.itoa (i : Int)).length ≤ 20 := by
    rw [Lib.itoa_nonneg, Lib.decDigits_length]
    have := Lib.numDigits_eq i (by omega) (by omega)
    split at this <;> omega
  have HT := Lib.hid ht
  clear ht
  go_enter Tryd.func29, Tryd.ntmps29
  go_wp2_with (go_at_call 32; refine (Tryd.strconv_FormatInt_10 _ (by omega) (by omega) _ HT.out).mono ?_; rintro e w1 ⟨rfl, k, os, rfl⟩)
  go_ret
  refine ⟨?_, Lib.below_grow _ w (Nat.le_refl _) _ _⟩
  have hn : ¬ i < 144 := by omega
  show Ending.returned (.string (ByteArray.mk #[116, 111, 107, 101, 110, 40] ++ ByteArray.mk (Lib.itoa (i : Int)).toArray ++ ByteArray.mk #[41])) = _
  rw [Lib.itoa_nonneg]
  simp only [tokText, if_neg hn]
  congr 2
theorem token_any (i : Nat) (h32 : i < 4294967296) (w : World) (ht : PowIs w ∧ TokIs w) :
    Calls Tryd.prog 29 #[.int .u32 (i : Int)] w fun e w' => e = .returned (.string ⟨(tokText i).toArray⟩) ∧ Below w.heap.size w w' := by
  by_cases h : i < 144
  · exact token_small i h w ht.2
  · exact token_big i (by omega) h32 w ht.1
theorem tokText_eq (a b : Nat) : ((⟨(tokText a).toArray⟩ : ByteArray) = ⟨(tokText b).toArray⟩) ↔ a = b := by
  constructor
  · intro h
    injection h with h
    exact tokText_inj (by simpa using h)
  · intro h; rw [h]
theorem BinAritOperator_String (i : Nat) (h32 : i < 4294967296) (w : World) (ht : PowIs w ∧ TokIs w) :
    Calls Tryd.prog 16 #[.int .u32 (i : Int)] w fun e w' => e = .returned (.string ⟨(tokText i).toArray⟩) ∧ Below w.heap.size w w' := by
  have HT := Lib.hid ht
  clear ht
  go_enter Tryd.func16, Tryd.ntmps16
  go_wp2_with (go_at_call 29; refine (token_any i h32 _ HT.out).mono ?_; rintro e w1 ⟨rfl, hb⟩)
  go_ret
  exact ⟨rfl, hb⟩
theorem walkFnBinAritOperatorStringInjective (a0 : Int) (a1 : Int) (w : World) (w0 : (Lit.int .u32 a0).wf = true) (w1 : (Lit.int .u32 a1).wf = true) (hL : laidMetH Tryd.prog Rows.fnBinAritOperatorStringInjectiveRow.laid w) :
    Calls Tryd.prog 5 #[.int .u32 a0, .int .u32 a1] w fun e w' => e = .returned (.bool true) ∧ Below w.heap.size w w' := by
  have b0 := bounds_u32 w0
  have b1 := bounds_u32 w1
  have ht := tabs_of_laid hL
  clear w0 w1 hL
  obtain ⟨a, rfl⟩ : ∃ a : Nat, a0 = (a : Int) := ⟨a0.toNat, by omega⟩
  obtain ⟨b, rfl⟩ : ∃ b : Nat, a1 = (b : Int) := ⟨a1.toNat, by omega⟩
  have HT := Lib.hid ht
  clear ht
  go_enter Tryd.func5, Tryd.ntmps5
  go_wp2_with fail
  refine (BinAritOperator_String a (by omega) _ HT.out).mono ?_
  rintro e w1 ⟨rfl, hb⟩
  have HT1 := Lib.hid (show PowIs w1 ∧ TokIs w1 from ⟨tabIs_below HT.out.1 hb, tabIs_below HT.out.2 hb⟩)
  have B1 := Lib.hid hb
  clear HT hb
  go_wp2_with fail
  refine (BinAritOperator_String b (by omega) _ HT1.out).mono ?_
  rintro e w2 ⟨rfl, hb⟩
  have B2 := Lib.hid (B1.out.trans (hb.mono B1.out.size))
  clear HT1 hb B1
  obtain ⟨sa, hsa⟩ : ∃ sa, sa = (⟨(tokText a).toArray⟩ : ByteArray) := ⟨_, rfl⟩
  obtain ⟨sb, hsb⟩ : ∃ sb, sb = (⟨(tokText b).toArray⟩ : ByteArray) := ⟨_, rfl⟩
  rw [← hsa, ← hsb]
  have hq : (sa = sb) ↔ a = b := by rw [hsa, hsb]; exact tokText_eq a b
  clear hsa hsb
  by_cases hab : a = b
  · subst hab
    obtain rfl := hq.2 rfl
    clear hq
    go_wp2
    go_ret
    exact ⟨rfl, B2.out⟩
  · have hs : ¬ sa = sb := fun h => hab (hq.1 h)
    have hi1 : ((a : Int) == (b : Int)) = false := by simp; omega
    have hs1 : (sa.toList == sb.toList) = false := by
      simp only [beq_eq_false_iff_ne, ne_eq]
      intro h
      rw [ByteArray.toList_eq, ByteArray.toList_eq] at h
      exact hs (ByteArray.ext (Array.toList_inj.1 h))
    clear hq
    go_wp2
    go_ret
    exact ⟨rfl, B2.out⟩
theorem BinTestOperator_String (i : Nat) (h32 : i < 4294967296) (w : World) (ht : PowIs w ∧ TokIs w) :
    Calls Tryd.prog 17 #[.int .u32 (i : Int)] w fun e w' => e = .returned (.string ⟨(tokText i).toArray⟩) ∧ Below w.heap.size w w' := by
  have HT := Lib.hid ht
  clear ht
  go_enter Tryd.func17, Tryd.ntmps17
  go_wp2_with (go_at_call 29; refine (token_any i h32 _ HT.out).mono ?_; rintro e w1 ⟨rfl, hb⟩)
  go_ret
  exact ⟨rfl, hb⟩
theorem walkFnBinTestOperatorStringInjective (a0 : Int) (a1 : Int) (w : World) (w0 : (Lit.int .u32 a0).wf = true) (w1 : (Lit.int .u32 a1).wf = true) (hL : laidMetH Tryd.prog Rows.fnBinTestOperatorStringInjectiveRow.laid w) :
    Calls Tryd.prog 6 #[.int .u32 a0, .int .u32 a1] w fun e w' => e = .returned (.bool true) ∧ Below w.heap.size w w' := by
  have b0 := bounds_u32 w0
  have b1 := bounds_u32 w1
  have ht := tabs_of_laid hL
  clear w0 w1 hL
  obtain ⟨a, rfl⟩ : ∃ a : Nat, a0 = (a : Int) := ⟨a0.toNat, by omega⟩
  obtain ⟨b, rfl⟩ : ∃ b : Nat, a1 = (b : Int) := ⟨a1.toNat, by omega⟩
  have HT := Lib.hid ht
  clear ht
  go_enter Tryd.func6, Tryd.ntmps6
  go_wp2_with fail
  refine (BinTestOperator_String a (by omega) _ HT.out).mono ?_
  rintro e w1 ⟨rfl, hb⟩
  have HT1 := Lib.hid (show PowIs w1 ∧ TokIs w1 from ⟨tabIs_below HT.out.1 hb, tabIs_below HT.out.2 hb⟩)
  have B1 := Lib.hid hb
  clear HT hb
  go_wp2_with fail
  refine (BinTestOperator_String b (by omega) _ HT1.out).mono ?_
  rintro e w2 ⟨rfl, hb⟩
  have B2 := Lib.hid (B1.out.trans (hb.mono B1.out.size))
  clear HT1 hb B1
  obtain ⟨sa, hsa⟩ : ∃ sa, sa = (⟨(tokText a).toArray⟩ : ByteArray) := ⟨_, rfl⟩
  obtain ⟨sb, hsb⟩ : ∃ sb, sb = (⟨(tokText b).toArray⟩ : ByteArray) := ⟨_, rfl⟩
  rw [← hsa, ← hsb]
  have hq : (sa = sb) ↔ a = b := by rw [hsa, hsb]; exact tokText_eq a b
  clear hsa hsb
  by_cases hab : a = b
  · subst hab
    obtain rfl := hq.2 rfl
    clear hq
    go_wp2
    go_ret
    exact ⟨rfl, B2.out⟩
  · have hs : ¬ sa = sb := fun h => hab (hq.1 h)
    have hi1 : ((a : Int) == (b : Int)) = false := by simp; omega
    have hs1 : (sa.toList == sb.toList) = false := by
      simp only [beq_eq_false_iff_ne, ne_eq]
      intro h
      rw [ByteArray.toList_eq, ByteArray.toList_eq] at h
      exact hs (ByteArray.ext (Array.toList_inj.1 h))
    clear hq
    go_wp2
    go_ret
    exact ⟨rfl, B2.out⟩
theorem UnAritOperator_String (i : Nat) (h32 : i < 4294967296) (w : World) (ht : PowIs w ∧ TokIs w) :
    Calls Tryd.prog 18 #[.int .u32 (i : Int)] w fun e w' => e = .returned (.string ⟨(tokText i).toArray⟩) ∧ Below w.heap.size w w' := by
  have HT := Lib.hid ht
  clear ht
  go_enter Tryd.func18, Tryd.ntmps18
  go_wp2_with (go_at_call 29; refine (token_any i h32 _ HT.out).mono ?_; rintro e w1 ⟨rfl, hb⟩)
  go_ret
  exact ⟨rfl, hb⟩
theorem walkFnUnAritOperatorStringInjective (a0 : Int) (a1 : Int) (w : World) (w0 : (Lit.int .u32 a0).wf = true) (w1 : (Lit.int .u32 a1).wf = true) (hL : laidMetH Tryd.prog Rows.fnUnAritOperatorStringInjectiveRow.laid w) :
    Calls Tryd.prog 7 #[.int .u32 a0, .int .u32 a1] w fun e w' => e = .returned (.bool true) ∧ Below w.heap.size w w' := by
  have b0 := bounds_u32 w0
  have b1 := bounds_u32 w1
  have ht := tabs_of_laid hL
  clear w0 w1 hL
  obtain ⟨a, rfl⟩ : ∃ a : Nat, a0 = (a : Int) := ⟨a0.toNat, by omega⟩
  obtain ⟨b, rfl⟩ : ∃ b : Nat, a1 = (b : Int) := ⟨a1.toNat, by omega⟩
  have HT := Lib.hid ht
  clear ht
  go_enter Tryd.func7, Tryd.ntmps7
  go_wp2_with fail
  refine (UnAritOperator_String a (by omega) _ HT.out).mono ?_
  rintro e w1 ⟨rfl, hb⟩
  have HT1 := Lib.hid (show PowIs w1 ∧ TokIs w1 from ⟨tabIs_below HT.out.1 hb, tabIs_below HT.out.2 hb⟩)
  have B1 := Lib.hid hb
  clear HT hb
  go_wp2_with fail
  refine (UnAritOperator_String b (by omega) _ HT1.out).mono ?_
  rintro e w2 ⟨rfl, hb⟩
  have B2 := Lib.hid (B1.out.trans (hb.mono B1.out.size))
  clear HT1 hb B1
  obtain ⟨sa, hsa⟩ : ∃ sa, sa = (⟨(tokText a).toArray⟩ : ByteArray) := ⟨_, rfl⟩
  obtain ⟨sb, hsb⟩ : ∃ sb, sb = (⟨(tokText b).toArray⟩ : ByteArray) := ⟨_, rfl⟩
  rw [← hsa, ← hsb]
  have hq : (sa = sb) ↔ a = b := by rw [hsa, hsb]; exact tokText_eq a b
  clear hsa hsb
  by_cases hab : a = b
  · subst hab
    obtain rfl := hq.2 rfl
    clear hq
    go_wp2
    go_ret
    exact ⟨rfl, B2.out⟩
  · have hs : ¬ sa = sb := fun h => hab (hq.1 h)
    have hi1 : ((a : Int) == (b : Int)) = false := by simp; omega
    have hs1 : (sa.toList == sb.toList) = false := by
      simp only [beq_eq_false_iff_ne, ne_eq]
      intro h
      rw [ByteArray.toList_eq, ByteArray.toList_eq] at h
      exact hs (ByteArray.ext (Array.toList_inj.1 h))
    clear hq
    go_wp2
    go_ret
    exact ⟨rfl, B2.out⟩
theorem UnTestOperator_String (i : Nat) (h32 : i < 4294967296) (w : World) (ht : PowIs w ∧ TokIs w) :
    Calls Tryd.prog 19 #[.int .u32 (i : Int)] w fun e w' => e = .returned (.string ⟨(tokText i).toArray⟩) ∧ Below w.heap.size w w' := by
  have HT := Lib.hid ht
  clear ht
  go_enter Tryd.func19, Tryd.ntmps19
  go_wp2_with (go_at_call 29; refine (token_any i h32 _ HT.out).mono ?_; rintro e w1 ⟨rfl, hb⟩)
  go_ret
  exact ⟨rfl, hb⟩
theorem walkFnUnTestOperatorStringInjective (a0 : Int) (a1 : Int) (w : World) (w0 : (Lit.int .u32 a0).wf = true) (w1 : (Lit.int .u32 a1).wf = true) (hL : laidMetH Tryd.prog Rows.fnUnTestOperatorStringInjectiveRow.laid w) :
    Calls Tryd.prog 8 #[.int .u32 a0, .int .u32 a1] w fun e w' => e = .returned (.bool true) ∧ Below w.heap.size w w' := by
  have b0 := bounds_u32 w0
  have b1 := bounds_u32 w1
  have ht := tabs_of_laid hL
  clear w0 w1 hL
  obtain ⟨a, rfl⟩ : ∃ a : Nat, a0 = (a : Int) := ⟨a0.toNat, by omega⟩
  obtain ⟨b, rfl⟩ : ∃ b : Nat, a1 = (b : Int) := ⟨a1.toNat, by omega⟩
  have HT := Lib.hid ht
  clear ht
  go_enter Tryd.func8, Tryd.ntmps8
  go_wp2_with fail
  refine (UnTestOperator_String a (by omega) _ HT.out).mono ?_
  rintro e w1 ⟨rfl, hb⟩
  have HT1 := Lib.hid (show PowIs w1 ∧ TokIs w1 from ⟨tabIs_below HT.out.1 hb, tabIs_below HT.out.2 hb⟩)
  have B1 := Lib.hid hb
  clear HT hb
  go_wp2_with fail
  refine (UnTestOperator_String b (by omega) _ HT1.out).mono ?_
  rintro e w2 ⟨rfl, hb⟩
  have B2 := Lib.hid (B1.out.trans (hb.mono B1.out.size))
  clear HT1 hb B1
  obtain ⟨sa, hsa⟩ : ∃ sa, sa = (⟨(tokText a).toArray⟩ : ByteArray) := ⟨_, rfl⟩
  obtain ⟨sb, hsb⟩ : ∃ sb, sb = (⟨(tokText b).toArray⟩ : ByteArray) := ⟨_, rfl⟩
  rw [← hsa, ← hsb]
  have hq : (sa = sb) ↔ a = b := by rw [hsa, hsb]; exact tokText_eq a b
  clear hsa hsb
  by_cases hab : a = b
  · subst hab
    obtain rfl := hq.2 rfl
    clear hq
    go_wp2
    go_ret
    exact ⟨rfl, B2.out⟩
  · have hs : ¬ sa = sb := fun h => hab (hq.1 h)
    have hi1 : ((a : Int) == (b : Int)) = false := by simp; omega
    have hs1 : (sa.toList == sb.toList) = false := by
      simp only [beq_eq_false_iff_ne, ne_eq]
      intro h
      rw [ByteArray.toList_eq, ByteArray.toList_eq] at h
      exact hs (ByteArray.ext (Array.toList_inj.1 h))
    clear hq
    go_wp2
    go_ret
    exact ⟨rfl, B2.out⟩
end Go.Proofs.YtleldhnilecklaaDoor
