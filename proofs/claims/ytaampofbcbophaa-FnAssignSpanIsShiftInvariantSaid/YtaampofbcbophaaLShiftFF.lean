/- The walk of FnAssignSpanIsShiftInvariant. -/
import Derived.Test.YtaampofbcbophaaLShiftC
import Derived.Test.YtaampofbcbophaaLAsnEndZ
import Derived.Deep.RegionHeld3
namespace Go.Proofs.Ytaampofbcbophaa
open Go.RowKit
set_option maxHeartbeats 8000000 in
set_option maxRecDepth 100000 in
theorem shiftMain_ff (a0 a1 a2 a3 t : Int) (s3 s4 s5 : ByteArray) (w : World) (b0 : 0 ≤ a0) (b0' : a0 ≤ 1073741824) (b1 : 1 ≤ a1) (b1' : a1 ≤ 262143) (b2 : 1 ≤ a2) (b3 : 0 ≤ a3) (b3' : a3 ≤ 16384) (t0 : 0 ≤ t) (m3 : s3.size ≤ 4096) (m4 : s4.size ≤ 4096) (m5 : s5.size ≤ 4096) (n3 : 1 ≤ s3.size) (f4 : false = true → 1 ≤ s4.size) (f5 : false = true → s5.size = 0)
    (ht : t = (s3.size : Int) + (s5.size : Int) + (if false then 2 + (s4.size : Int) else 0) + (if false then 0 else 1)) (hs : a2 + a3 + t ≤ 16383)
    (c1 : ∀ W, Calls Try.prog 72 #[.int .u32 a0, .int .u32 a1, .int .u32 a2, .string s3, .string s4, .string s5, .bool false, .bool false] W (Built132 W a0 (a1 * 16384 + a2) (a0 + t) (a1 * 16384 + (a2 + t))))
    (c2 : ∀ W, Calls Try.prog 72 #[.int .u32 (a0 + a3), .int .u32 a1, .int .u32 (a2 + a3), .string s3, .string s4, .string s5, .bool false, .bool false] W (Built132 W (a0 + a3) (a1 * 16384 + (a2 + a3)) (a0 + t + a3) (a1 * 16384 + (a2 + t + a3)))) :
    Calls Try.prog 12 #[.int .u32 a0, .int .u32 a1, .int .u32 a2, .int .u32 a3, .string s3, .string s4, .string s5, .bool false, .bool false] w fun e w' => e = .returned (.bool true) ∧ Below w.heap.size w w' := by
  have H1 := Lib.hid c1
  have H2 := Lib.hid c2
  clear c1 c2
  have z3 : ((s3.size : Int) == 0) = false := beq_eq_false_iff_ne.2 (by omega)
  have q1 : false = true → ((s4.size : Int) == 0) = false := fun h => beq_eq_false_iff_ne.2 (by have := f4 h; omega)
  have q2 : false = true → ((s5.size : Int) != 0) = false := fun h => bne_eq_false_iff_eq.2 (by have := f5 h; omega)
  have e1 : IntKind.u64.wrap (a0 + a3) = a0 + a3 := by rw [IntKind.wrap_u64]; omega
  have e2 : IntKind.u64.wrap (a2 + a3) = a2 + a3 := by rw [IntKind.wrap_u64]; omega
  have e3 : IntKind.u64.wrap (a0 + t + a3) = a0 + t + a3 := by rw [IntKind.wrap_u64]; omega
  have e4 : IntKind.u64.wrap (a2 + t + a3) = a2 + t + a3 := by rw [IntKind.wrap_u64]; omega
  have E1 := Lib.hid e1
  have E2 := Lib.hid e2
  have E3 := Lib.hid e3
  have E4 := Lib.hid e4
  clear e1 e2 e3 e4
  have HT := Lib.hid ht
  clear ht f4 f5
  clear q1
  clear q2
  have ht := HT.out
  simp at ht
  have hs2 : a2 + t ≤ 16383 := by omega
  have hs3 : t ≤ 16383 := by omega
  have hsum : a2 + a3 + ((s3.size : Int) + (s5.size : Int) + 3 + (s4.size : Int)) ≤ 100000 := by omega
  have hle : a2 + a3 + ((s3.size : Int) + (s5.size : Int) + 1) ≤ 16383 := by omega
  clear ht HT
  go_enter Try.func12, Try.ntmps12
  go_wp2_with fail
  refine (zzBytes132s_any _ _ _ _ _ _ _ _ _ _ (by omega) (by omega) (by omega)).mono ?_
  rintro e w' ⟨b, rfl, rfl⟩
  cases b
  · go_wp2
    go_ret
    exact ⟨rfl, Below.refl _ _⟩
  go_wp2_with fail
  refine (H1.out _).mono ?_
  rintro e v1 ⟨x1, rfl, k1, B⟩
  clear H1
  go_wp2_with fail
  refine (H2.out _).mono ?_
  rintro e v2 ⟨x2, rfl, k2, hb⟩
  clear H2
  have k1 := k1.keep hb
  have B := bmore B hb
  clear hb
  go_wp2_with fail
  refine (k1.1 _ (Below.refl _ _)).mono ?_
  rintro e v3 ⟨rfl, hb⟩
  have k1 := k1.keep (bmore hb ((Below.refl v3.heap.size v3).alloc (Nat.le_refl _) (.cells #[.int .u32 a0, .int .u32 (a1 * 16384 + a2)] 24)))
  have k2 := k2.keep (bmore hb ((Below.refl v3.heap.size v3).alloc (Nat.le_refl _) (.cells #[.int .u32 a0, .int .u32 (a1 * 16384 + a2)] 24)))
  have B := bmore (bmore B hb) ((Below.refl v3.heap.size v3).alloc (Nat.le_refl _) (.cells #[.int .u32 a0, .int .u32 (a1 * 16384 + a2)] 24))
  have d1 : Bk _ v3.heap.size _ _ := Bk.fresh v3 24 #[.int .u32 a0, .int .u32 (a1 * 16384 + a2)]
  have K1 := Lib.hid k1
  have K2 := Lib.hid k2
  have D1 := Lib.hid d1
  clear hb k1 k2 d1
  go_wp2_with fail
  refine (K1.out.2 _ (Below.refl _ _)).mono ?_
  rintro e v4 ⟨rfl, hb⟩
  have k2 := K2.out.keep (bmore hb ((Below.refl v4.heap.size v4).alloc (Nat.le_refl _) (.cells #[.int .u32 (a0 + t), .int .u32 (a1 * 16384 + (a2 + t))] 24)))
  have B := bmore (bmore B hb) ((Below.refl v4.heap.size v4).alloc (Nat.le_refl _) (.cells #[.int .u32 (a0 + t), .int .u32 (a1 * 16384 + (a2 + t))] 24))
  have d1 := (D1.out.keep hb).alloc (.cells #[.int .u32 (a0 + t), .int .u32 (a1 * 16384 + (a2 + t))] 24)
  have d2 : Bk _ v4.heap.size _ _ := Bk.fresh v4 24 #[.int .u32 (a0 + t), .int .u32 (a1 * 16384 + (a2 + t))]
  clear K1 K2 D1
  have K2 := Lib.hid k2
  have D1 := Lib.hid d1
  have D2 := Lib.hid d2
  clear hb k2 d1 d2
  go_wp2_with fail
  refine (K2.out.1 _ (Below.refl _ _)).mono ?_
  rintro e v5 ⟨rfl, hb⟩
  have k2 := K2.out.keep (bmore hb ((Below.refl v5.heap.size v5).alloc (Nat.le_refl _) (.cells #[.int .u32 (a0 + a3), .int .u32 (a1 * 16384 + (a2 + a3))] 24)))
  have B := bmore (bmore B hb) ((Below.refl v5.heap.size v5).alloc (Nat.le_refl _) (.cells #[.int .u32 (a0 + a3), .int .u32 (a1 * 16384 + (a2 + a3))] 24))
  have d1 := (D1.out.keep hb).alloc (.cells #[.int .u32 (a0 + a3), .int .u32 (a1 * 16384 + (a2 + a3))] 24)
  have d2 := (D2.out.keep hb).alloc (.cells #[.int .u32 (a0 + a3), .int .u32 (a1 * 16384 + (a2 + a3))] 24)
  have d3 : Bk _ v5.heap.size _ _ := Bk.fresh v5 24 #[.int .u32 (a0 + a3), .int .u32 (a1 * 16384 + (a2 + a3))]
  clear K2 D1 D2
  have K2 := Lib.hid k2
  have D1 := Lib.hid d1
  have D2 := Lib.hid d2
  have D3 := Lib.hid d3
  clear hb k2 d1 d2 d3
  go_wp2_with fail
  refine (K2.out.2 _ (Below.refl _ _)).mono ?_
  rintro e v6 ⟨rfl, hb⟩
  have B := bmore B hb
  have d1 := D1.out.keep hb
  have d2 := D2.out.keep hb
  have d3 := D3.out.keep hb
  clear K2 D1 D2 D3 hb
  go_wp2_with fail
  refine wp_gen (S := fun W => W.cell? ⟨v3.heap.size, 0, none⟩ = some (.int .u32 a0) ∧ W.cell? ⟨v3.heap.size, 1, none⟩ = some (.int .u32 (a1 * 16384 + a2)) ∧ W.cell? ⟨v4.heap.size, 0, none⟩ = some (.int .u32 (a0 + t)) ∧ W.cell? ⟨v4.heap.size, 1, none⟩ = some (.int .u32 (a1 * 16384 + (a2 + t))) ∧ W.cell? ⟨v5.heap.size, 0, none⟩ = some (.int .u32 (a0 + a3)) ∧ W.cell? ⟨v5.heap.size, 1, none⟩ = some (.int .u32 (a1 * 16384 + (a2 + a3))) ∧ W.cell? ⟨v6.heap.size, 0, none⟩ = some (.int .u32 (a0 + t + a3)) ∧ W.cell? ⟨v6.heap.size, 1, none⟩ = some (.int .u32 (a1 * 16384 + (a2 + t + a3))) ∧ Below w.heap.size w W)
    ⟨by rw [(d1.alloc _).cells]; rfl, by rw [(d1.alloc _).cells]; rfl, by rw [(d2.alloc _).cells]; rfl, by rw [(d2.alloc _).cells]; rfl, by rw [(d3.alloc _).cells]; rfl, by rw [(d3.alloc _).cells]; rfl, by rw [(Bk.fresh _ _ _).cells]; rfl, by rw [(Bk.fresh _ _ _).cells]; rfl, bmore B ((Below.refl _ _).alloc (Nat.le_refl _) _)⟩ ?_
  intro W hW
  clear d1 d2 d3 B
  have e1 := E1.out
  have e2 := E2.out
  have e3 := E3.out
  have e4 := E4.out
  have g1 : a0 ≤ a0 + t := by omega
  go_region_held3 (fun W => W.cell? ⟨v3.heap.size, 0, none⟩ = some (.int .u32 a0) ∧ W.cell? ⟨v3.heap.size, 1, none⟩ = some (.int .u32 (a1 * 16384 + a2)) ∧ W.cell? ⟨v4.heap.size, 0, none⟩ = some (.int .u32 (a0 + t)) ∧ W.cell? ⟨v4.heap.size, 1, none⟩ = some (.int .u32 (a1 * 16384 + (a2 + t))) ∧ W.cell? ⟨v5.heap.size, 0, none⟩ = some (.int .u32 (a0 + a3)) ∧ W.cell? ⟨v5.heap.size, 1, none⟩ = some (.int .u32 (a1 * 16384 + (a2 + a3))) ∧ W.cell? ⟨v6.heap.size, 0, none⟩ = some (.int .u32 (a0 + t + a3)) ∧ W.cell? ⟨v6.heap.size, 1, none⟩ = some (.int .u32 (a1 * 16384 + (a2 + t + a3))) ∧ Below w.heap.size w W)
    (first | exact keep8 hW ⟨rfl, rfl, rfl, Nat.le_refl _, fun _ _ => rfl⟩ | exact keep8 (by assumption) (by assumption))
    (first | (go_at_call 17; refine (offset_in _ _ _ (by omega) (by omega)).mono ?_; rintro e w' ⟨rfl, hb⟩) | (go_at_call 74; refine (line_in _ _ _ _ (by omega) (by omega) (by omega) (by omega)).mono ?_; rintro e w' ⟨rfl, hb⟩) | (go_at_call 73; refine (col_in _ _ _ _ (by omega) (by omega) (by omega) (by omega)).mono ?_; rintro e w' ⟨rfl, hb⟩))
  rename_i hH
  have hBB := hH.2.2.2.2.2.2.2.2
  clear hH
  go_wp2
  go_ret
  exact ⟨rfl, hBB⟩
end Go.Proofs.Ytaampofbcbophaa
