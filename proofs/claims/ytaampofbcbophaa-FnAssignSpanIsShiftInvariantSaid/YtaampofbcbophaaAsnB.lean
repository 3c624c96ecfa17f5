/- Contracts of the small functions of the two laws on Assign. -/
import Derived.Test.YtaampofbcbophaaAsn
import Derived.Deep.RegionHeld3
namespace Go.Proofs.Ytaampofbcbophaa
open Go.RowKit
theorem mkPos132_eq (o l c : Int) (w : World) (l0 : 0 ≤ l) (l1 : l ≤ 262143) (c0 : 0 ≤ c) (c1 : c ≤ 16383) :
    Calls Try.prog 20 #[.int .u32 o, .int .u32 l, .int .u32 c] w fun e w' => e = .returned (P2 o (l * 16384 + c)) ∧ (w.alloc (.cells #[.int .u32 o, .int .u32 (l * 16384 + c)] 24)).alloc (.cells #[.int .u32 o, .int .u32 (l * 16384 + c)] 24) = w' := by
  have eo := or_col (l * 16384) c (by omega) (by omega) (by omega) (by omega) (by omega)
  go_enter Try.func20, Try.ntmps20
  go_wp2
  go_returns
  exact ⟨rfl, rfl⟩
theorem litB3_eq (o l c : Int) (s : ByteArray) (w : World) (o0 : 0 ≤ o) (o1 : o ≤ 1073807360) (l0 : 0 ≤ l) (l1 : l ≤ 262143) (c0 : 0 ≤ c) (c1 : c + (s.size : Int) ≤ 16383) :
    Calls Try.prog 19 #[.int .u32 o, .int .u32 l, .int .u32 c, .string s] w fun e w' => e = .returned (.pointer (some ⟨w.heap.size + 1 + 1 + 1 + 1, 0, none⟩)) ∧
      ((((w.alloc (.cells #[.int .u32 o, .int .u32 (l * 16384 + c)] 24)).alloc (.cells #[.int .u32 o, .int .u32 (l * 16384 + c)] 24)).alloc (.cells #[.int .u32 (o + s.size), .int .u32 (l * 16384 + (c + s.size))] 24)).alloc (.cells #[.int .u32 (o + s.size), .int .u32 (l * 16384 + (c + s.size))] 24)).alloc (.cells #[.int .u32 o, .int .u32 (l * 16384 + c), .int .u32 (o + s.size), .int .u32 (l * 16384 + (c + s.size)), .string s] 97) = w' := by
  go_enter Try.func19, Try.ntmps19
  go_wp2_with (go_at_call 20; refine (mkPos132_eq _ _ _ _ (by omega) (by omega) (by omega) (by omega)).mono ?_; rintro e w' ⟨rfl, rfl⟩)
  go_ret
  exact ⟨rfl, rfl⟩
theorem posIs132_any (o lc o' l c : Int) (w : World) (o0 : 0 ≤ o) (o1 : o < 4294967296) (l0 : 0 ≤ lc) (l1 : lc < 4294967296) (e1 : offv o = o') (e2 : lc / 16384 = l) (e3 : lc % 16384 = c) :
    Calls Try.prog 23 #[P2 o lc, .int .u64 o', .int .u64 l, .int .u64 c] w fun e w' => e = .returned (.bool true) ∧ Below w.heap.size w w' := by
  subst e1 e2 e3
  go_enter Try.func23, Try.ntmps23
  go_wp2_with fail
  refine (offset_any _ _ _ (by omega) (by omega)).mono ?_
  rintro e w1 ⟨rfl, hb⟩
  have kR := (Bk.fresh _ _ _).keep hb
  have B1 := bmore (w := w) (by go_grown) hb
  clear hb
  have cR := kR.cells
  go_wp2_with fail
  refine (line_any _ _ _ (by omega) (by omega)).mono ?_
  rintro e w2 ⟨rfl, hb⟩
  have kR := kR.keep hb
  have B1 := bmore B1 hb
  clear hb cR
  have cR := kR.cells
  go_wp2_with fail
  refine (col_any _ _ _ (by omega) (by omega)).mono ?_
  rintro e w3 ⟨rfl, hb⟩
  have B1 := bmore B1 hb
  clear hb cR
  go_wp2
  go_ret
  exact ⟨rfl, B1⟩
theorem zzBytes132_any (o l c : Int) (s3 s4 s5 : ByteArray) (b6 b7 b8 : Bool) (a9 : Int) (w : World) (h3 : s3.size ≤ 9223372036854775807) (h4 : s4.size ≤ 9223372036854775807) (h5 : s5.size ≤ 9223372036854775807) :
    Calls Try.prog 18 #[.int .u32 o, .int .u32 l, .int .u32 c, .string s3, .string s4, .string s5, .bool b6, .bool b7, .bool b8, .int .i64 a9] w fun e w' => ∃ b : Bool, e = .returned (.bool b) ∧ w = w' := by
  go_enter Try.func18, Try.ntmps18
  go_wp2
  all_goals (go_ret; exact ⟨_, rfl, rfl⟩)
theorem zzBytes132s_any (o l c d : Int) (s3 s4 s5 : ByteArray) (b6 b7 : Bool) (w : World) (h3 : s3.size ≤ 9223372036854775807) (h4 : s4.size ≤ 9223372036854775807) (h5 : s5.size ≤ 9223372036854775807) :
    Calls Try.prog 71 #[.int .u32 o, .int .u32 l, .int .u32 c, .int .u32 d, .string s3, .string s4, .string s5, .bool b6, .bool b7] w fun e w' => ∃ b : Bool, e = .returned (.bool b) ∧ w = w' := by
  go_enter Try.func71, Try.ntmps71
  go_wp2
  all_goals (go_ret; exact ⟨_, rfl, rfl⟩)
end Go.Proofs.Ytaampofbcbophaa
