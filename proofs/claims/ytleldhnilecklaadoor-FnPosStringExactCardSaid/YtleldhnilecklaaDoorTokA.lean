/- The laid tables as facts on the world, and token.String at a named token. -/
import Derived.Test.YtleldhnilecklaaDoorRows
import Derived.Test.YtleldhnilecklaaDoorTokPlain
import Derived.WalkKit
import Derived.WalkLawsBesides
import Derived.Handy
import Derived.Lib.Hide
import Derived.Lib.LaidTab
import Derived.Stop.LaidErr
import Derived.Stop.Joined
import Derived.LaidMore
import Derived.Deep.QuietTactic
import Derived.BigQuiet
import Derived.Below
import Derived.Lib.Itoa
import Derived.Lib.ItoaMem
namespace Go.Proofs.YtleldhnilecklaaDoor
open Go.RowKit
def tokTab : List Int := tokIdx.map Int.ofNat
theorem gTok : Tryd.prog.globalNamed "mvdan.cc/sh/v3/syntax._token_index" = some 1 := by kernel_rfl
theorem gPow : Tryd.prog.globalNamed "internal/strconv.uint64pow10" = some 2 := by kernel_rfl
theorem tTok : (Tryd.prog.globals[1]?).map (·.type) = some 56 := by kernel_rfl
theorem tPow : (Tryd.prog.globals[2]?).map (·.type) = some 66 := by kernel_rfl
abbrev TokIs (w : World) : Prop := Lib.TabIs Tryd.prog w "mvdan.cc/sh/v3/syntax._token_index" .u16 tokTab
abbrev PowIs (w : World) : Prop := Lib.TabIs Tryd.prog w "internal/strconv.uint64pow10" .u64 Lib.pow10Tab
theorem tabIs_below {w w1 : World} {name : String} {k : IntKind} {zs : List Int} (h : Lib.TabIs Tryd.prog w name k zs) (hb : Below w.heap.size w w1) : Lib.TabIs Tryd.prog w1 name k zs := by
  unfold Lib.TabIs World.var? at h ⊢
  cases hg : Tryd.prog.globalNamed name with
  | none => rw [hg] at h; cases h
  | some g =>
    rw [hg] at h
    simp only [Option.bind_some] at h ⊢
    have hlt : g < w.heap.size := by
      cases hh : w.heap[g]? with
      | none => rw [hh] at h; cases h
      | some o => exact (Array.getElem?_eq_some_iff.1 hh).1
    rw [hb.block g hlt]; exact h
theorem laidPow_eq : (Rows.laid_internal_strconv_uint64pow10 : DataW Unit) = Lib.tabData .u64 Lib.pow10Tab := by rfl
theorem laidTok_eq : (Rows.laid_mvdan_cc_sh_v3_syntax_token_index : DataW Unit) = Lib.tabData .u16 tokTab := by rfl
theorem tabs_of_laid {W : World} (h : laidMetH Tryd.prog [("math/bits.deBruijn32tab", Rows.laid_math_bits_deBruijn32tab), ("math/bits.deBruijn64tab", Rows.laid_math_bits_deBruijn64tab), ("internal/strconv.uint64pow10", Rows.laid_internal_strconv_uint64pow10), ("mvdan.cc/sh/v3/syntax._token_index", Rows.laid_mvdan_cc_sh_v3_syntax_token_index)] W) : PowIs W ∧ TokIs W := by
  rw [MakeChecks.laidMetH_plain _ _ _ (by kernel_rfl)] at h
  have h3 := h.tail.tail
  have h4 := h3.tail
  rw [laidPow_eq] at h3
  rw [laidTok_eq] at h4
  exact ⟨Lib.tabIs_of_head gPow tPow Tryd.underlying66 Tryd.underlying48 (by kernel_rfl) (by kernel_rfl) h3, Lib.tabIs_of_head gTok tTok Tryd.underlying56 Tryd.underlying55 (by kernel_rfl) (by kernel_rfl) h4⟩
theorem tokTab_at (i : Nat) (h : i < 145) : tokTab.getD i 0 = ((tokIdx.getD i 0 : Nat) : Int) := by
  have hl : i < tokIdx.length := h
  simp [tokTab, List.getD, hl]
set_option maxHeartbeats 1000000 in
set_option maxRecDepth 100000 in
theorem token_small (i : Nat) (h : i < 144) (w : World) (ht : TokIs w) :
    Calls Tryd.prog 29 #[.int .u32 (i : Int)] w fun e w' => e = .returned (.string ⟨(tokText i).toArray⟩) ∧ Below w.heap.size w w' := by
  have c0 := ht.cell gTok i (show i < 145 by omega)
  have c1 := ht.cell gTok (i + 1) (show i + 1 < 145 by omega)
  rw [tokTab_at i (by omega)] at c0
  rw [tokTab_at (i + 1) (by omega)] at c1
  have hle := tokIdx_le ⟨i, h⟩
  obtain ⟨lo, hlo⟩ : ∃ lo, lo = tokIdx.getD i 0 := ⟨_, rfl⟩
  obtain ⟨hi, hhi⟩ : ∃ hi, hi = tokIdx.getD (i + 1) 0 := ⟨_, rfl⟩
  rw [← hlo] at c0
  rw [← hhi] at c1
  simp only [← hlo, ← hhi] at hle
  have HL := Lib.hid hlo
  have HH := Lib.hid hhi
  clear hlo hhi ht
  obtain ⟨h5, h6⟩ := hle
  have h7 : (hi : Int) ≤ 320 := by omega
  have h8 : (lo : Int) ≤ (hi : Int) := by omega
  have h9 : (0 : Int) ≤ (lo : Int) := by omega
  have h10 : (0 : Int) ≤ (hi : Int) := by omega
  have d1 : ¬ (144 : Int) ≤ (i : Int) := by omega
  have d2 : ¬ (i : Int) < 0 := by omega
  have i1 : (i : Int) < 145 := by omega
  have i2 : (i : Int) + 1 < 145 := by omega
  have i3 : (0 : Int) ≤ (i : Int) := by omega
  have i4 : (0 : Int) ≤ (i : Int) + 1 := by omega
  have iw : IntKind.i64.wrap ((i : Int) + 1) = (i : Int) + 1 := IntWalk.i64_in _ (by omega)
  have it : ((i : Int) + 1).toNat = i + 1 := by omega
  go_enter Tryd.func29, Tryd.ntmps29
  go_wp2_with fail
  go_quiet (fail)
  go_wp2
  go_ret
  refine ⟨?_, ⟨rfl, rfl, rfl, Nat.le_refl _, fun _ _ => rfl⟩⟩
  have e : ∀ s : ByteArray, s = ⟨tokBytes.toArray⟩ → s.extract lo hi = ⟨(tokText i).toArray⟩ := fun s hs => by
    rw [hs, ByteArray.extract_mk, HL.out, HH.out, tokPiece_eq ⟨i, h⟩]
    simp [tokText, h]
  show Ending.returned (.string (ByteArray.extract ⟨tokBytes.toArray⟩ lo hi)) = _
  rw [e _ rfl]
end Go.Proofs.YtleldhnilecklaaDoor
