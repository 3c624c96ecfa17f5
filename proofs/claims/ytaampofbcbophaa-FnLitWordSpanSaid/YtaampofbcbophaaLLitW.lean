/- The walk of FnLitWordSpan. -/
import Derived.Test.YtaampofbcbophaaWLit
import Derived.Test.YtaampofbcbophaaWord
import Derived.OpenShut
import Derived.Deep.RegionHeld3
namespace Go.Proofs.Ytaampofbcbophaa
open Go.RowKit
theorem posOffs21_any (o lc : Int) (w : World) : Calls Try.prog 87 #[P2 o lc] w fun e w' => e = .returned (.int .u32 o) ∧ Below w.heap.size w w' := by
  go_enter Try.func87, Try.ntmps87
  go_wp2
  go_ret
  exact ⟨rfl, by go_grown⟩
theorem posLC21_any (o lc : Int) (w : World) : Calls Try.prog 88 #[P2 o lc] w fun e w' => e = .returned (.int .u32 lc) ∧ Below w.heap.size w w' := by
  go_enter Try.func88, Try.ntmps88
  go_wp2
  go_ret
  exact ⟨rfl, by go_grown⟩
theorem keep12 {w W W1 : World} {b : Nat} {v0 v1 : Value} (h : W.cell? ⟨b, 0, none⟩ = some v0 ∧ W.cell? ⟨b, 1, none⟩ = some v1 ∧ Below w.heap.size w W) (hb : Below W.heap.size W W1) :
    W1.cell? ⟨b, 0, none⟩ = some v0 ∧ W1.cell? ⟨b, 1, none⟩ = some v1 ∧ Below w.heap.size w W1 := ⟨keepc hb h.1, keepc hb h.2.1, bmore h.2.2 hb⟩
set_option maxRecDepth 100000 in
theorem zzSame21_eq (o lc : Int) (w : World) : Calls Try.prog 57 #[P2 o lc, .int .u32 o, .int .u32 lc] w fun e w' => e = .returned (.bool true) ∧ Below w.heap.size w w' := by
  go_enter Try.func57, Try.ntmps57
  go_wp2_with (first | (go_at_call 87; refine (posOffs21_any _ _ _).mono ?_; rintro e w1 ⟨rfl, hb⟩; obtain ⟨hc, hf, hz, hB, hs⟩ := bcell (w := w) (by go_grown) hb; clear hb) | (go_at_call 88; refine (posLC21_any _ _ _).mono ?_; rintro e w2 ⟨rfl, hb2⟩; have hB2 := bmore (w := w) hB hb2; clear hb2))
  go_ret
  exact ⟨rfl, by first | assumption | go_grown⟩
theorem zzBytes21_any (a0 a1 a2 a3 a4 a5 a6 a7 : Int) (v u : ByteArray) (hv : v.size ≤ 9223372036854775807) (hu : u.size ≤ 9223372036854775807) (w : World) :
    Calls Try.prog 54 #[.int .u32 a0, .int .u32 a1, .int .u32 a2, .int .u32 a3, .int .u32 a4, .int .u32 a5, .int .u32 a6, .int .u32 a7, .string v, .string u] w fun e w' => (∃ b, e = .returned (.bool b)) ∧ w = w' := by
  by_cases h1 : 1048576 < v.size
  · go_enter Try.func54, Try.ntmps54
    go_wp2
    go_ret
    exact ⟨⟨_, rfl⟩, rfl⟩
  by_cases h2 : 1048576 < u.size
  · go_enter Try.func54, Try.ntmps54
    go_wp2
    go_ret
    exact ⟨⟨_, rfl⟩, rfl⟩
  by_cases h3 : 1048576 < v.size + u.size
  · go_enter Try.func54, Try.ntmps54
    go_wp2
    go_ret
    exact ⟨⟨_, rfl⟩, rfl⟩
  · go_enter Try.func54, Try.ntmps54
    go_wp2
    go_ret
    exact ⟨⟨_, rfl⟩, rfl⟩
theorem conc_two (u v : ByteArray) : (⟨(concL (fun j => if j = 0 then u else v) 2).toArray⟩ : ByteArray) = u ++ v := by
  have : (concL (fun j => if j = 0 then u else v) 2) = u.data.toList ++ v.data.toList := by simp [concL, strsL, List.range_succ]
  rw [this]
  apply ByteArray.ext
  simp
theorem Word_Lit_two (b pt l1 l2 cap : Nat) (u v : ByteArray) (w : World) (hb : w.cell? ⟨b, 0, none⟩ = some (.slice (some ⟨pt, 0, none⟩) 2 cap))
    (h1 : w.cell? ⟨pt, 0, none⟩ = some (.iface 37 (.pointer (some ⟨l1, 0, none⟩)))) (h2 : w.cell? ⟨pt, 1, none⟩ = some (.iface 37 (.pointer (some ⟨l2, 0, none⟩))))
    (c1 : w.cell? ⟨l1, 4, none⟩ = some (.string u)) (c2 : w.cell? ⟨l2, 4, none⟩ = some (.string v)) (hs : u.size + v.size ≤ 1048576) :
    Calls Try.prog 61 #[.pointer (some ⟨b, 0, none⟩)] w fun e w' => e = .returned (.string (u ++ v)) ∧ Below w.heap.size w w' := by
  have h := Word_Lit_all b pt 2 cap (fun j => if j = 0 then u else v) w hb (by
    intro j hj
    rcases j with _ | j
    · exact ⟨_, h1, l1, rfl, by simpa using c1⟩
    · obtain rfl : j = 0 := by omega
      exact ⟨_, h2, l2, rfl, by simpa using c2⟩) (by omega) (by
    have : (concL (fun j => if j = 0 then u else v) 2) = u.data.toList ++ v.data.toList := by simp [concL, strsL, List.range_succ]
    rw [this, List.length_append]
    have e1 : u.data.toList.length = u.size := by rw [Array.length_toList]; rfl
    have e2 : v.data.toList.length = v.size := by rw [Array.length_toList]; rfl
    omega)
  rw [conc_two] at h
  exact h
def litCells (o l p q : Int) (s : ByteArray) : Array Value := #[.int .u32 o, .int .u32 l, .int .u32 p, .int .u32 q, .string s]
set_option maxHeartbeats 8000000 in
set_option maxRecDepth 100000 in
theorem walkFnLitWordSpan (a0 a1 a2 a3 a4 a5 a6 a7 : Int) (a8 a9 : ByteArray) (w : World) (_ : (Lit.int .u32 a0).wf = true) (_ : (Lit.int .u32 a1).wf = true) (_ : (Lit.int .u32 a2).wf = true) (_ : (Lit.int .u32 a3).wf = true) (_ : (Lit.int .u32 a4).wf = true) (_ : (Lit.int .u32 a5).wf = true) (_ : (Lit.int .u32 a6).wf = true) (_ : (Lit.int .u32 a7).wf = true) (w8 : a8.size ≤ maxLen) (w9 : a9.size ≤ maxLen) :
    Calls Try.prog 9 #[.int .u32 a0, .int .u32 a1, .int .u32 a2, .int .u32 a3, .int .u32 a4, .int .u32 a5, .int .u32 a6, .int .u32 a7, .string a8, .string a9] w fun e w' => e = .returned (.bool true) ∧ Below w.heap.size w w' := by
  unfold maxLen at w8 w9
  by_cases h1 : 524288 < a8.size
  · go_enter Try.func9, Try.ntmps9
    go_wp2_with (go_at_call 54; refine (zzBytes21_any _ _ _ _ _ _ _ _ _ _ w8 w9 _).mono ?_; rintro e w' ⟨⟨b, rfl⟩, rfl⟩; cases b)
    all_goals (go_ret; exact ⟨rfl, Below.refl _ _⟩)
  by_cases h2 : 524288 < a9.size
  · go_enter Try.func9, Try.ntmps9
    go_wp2_with (go_at_call 54; refine (zzBytes21_any _ _ _ _ _ _ _ _ _ _ w8 w9 _).mono ?_; rintro e w' ⟨⟨b, rfl⟩, rfl⟩; cases b)
    all_goals (go_ret; exact ⟨rfl, Below.refl _ _⟩)
  have h3 : a8.size + a9.size ≤ 1048576 := by omega
  go_enter Try.func9, Try.ntmps9
  go_wp2_with (first | (go_at_call 54; refine (zzBytes21_any _ _ _ _ _ _ _ _ _ _ w8 w9 _).mono ?_; rintro e w' ⟨⟨b, rfl⟩, rfl⟩; cases b) | (go_at_call 55; go_in) | (go_at_call 56; go_in))
  · go_ret
    exact ⟨rfl, Below.refl _ _⟩
  refine calls_gen (S := fun W => Bk W (w.heap.size + 1 + 1) 97 (litCells a0 a1 a2 a3 a8) ∧ Bk W (w.heap.size + 1 + 1 + 1 + 1 + 1) 97 (litCells a4 a5 a6 a7 a9) ∧ Bk W (w.heap.size + 1 + 1 + 1 + 1 + 1 + 1) 128 #[.iface 37 (.pointer (some ⟨w.heap.size + 1 + 1, 0, none⟩)), .iface 37 (.pointer (some ⟨w.heap.size + 1 + 1 + 1 + 1 + 1, 0, none⟩))] ∧ Bk W (w.heap.size + 1 + 1 + 1 + 1 + 1 + 1 + 1) 46 #[.slice (some ⟨w.heap.size + 1 + 1 + 1 + 1 + 1 + 1, 0, none⟩) 2 2] ∧ Below w.heap.size w W) ⟨((((((Bk.newAt (by simp)).alloc _).alloc _).alloc _).alloc _).alloc _), (((Bk.newAt (by simp)).alloc _).alloc _), ((Bk.newAt (by simp)).alloc _), Bk.newAt (by simp), by go_grown⟩ ?_
  rintro W ⟨k1, k2, kp, kw, hB⟩
  refine (Lit_Pos_any _ a0 a1 W (by rw [k1.cells]; rfl) (by rw [k1.cells]; rfl)).mono ?_
  rintro e W1 ⟨rfl, hb⟩
  replace k1 := k1.keep hb; replace k2 := k2.keep hb; replace kp := kp.keep hb; replace kw := kw.keep hb; replace hB := bmore hB hb; clear hb
  go_wp2_with fail
  refine (zzSame21_eq a0 a1 _).mono ?_
  rintro e W1 ⟨rfl, hb⟩
  replace k1 := k1.keep hb; replace k2 := k2.keep hb; replace kp := kp.keep hb; replace kw := kw.keep hb; replace hB := bmore hB hb; clear hb
  go_wp2_with fail
  refine (Lit_End_any _ a6 a7 _ (by rw [k2.cells]; rfl) (by rw [k2.cells]; rfl)).mono ?_
  rintro e W2 ⟨rfl, hb⟩
  replace k1 := k1.keep hb; replace k2 := k2.keep hb; replace kp := kp.keep hb; replace kw := kw.keep hb; replace hB := bmore hB hb; clear hb
  go_wp2_with fail
  refine (zzSame21_eq a6 a7 _).mono ?_
  rintro e W3 ⟨rfl, hb⟩
  replace k1 := k1.keep hb; replace k2 := k2.keep hb; replace kp := kp.keep hb; replace kw := kw.keep hb; replace hB := bmore hB hb; clear hb
  go_wp2_with fail
  refine (Word_Pos_lit _ _ 1 2 _ a0 a1 _ (by rw [kw.cells]; rfl) (by omega) (by rw [kp.cells]; rfl) (by rw [k1.cells]; rfl) (by rw [k1.cells]; rfl)).mono ?_
  rintro e W4 ⟨rfl, hb⟩
  replace k1 := k1.keep hb; replace k2 := k2.keep hb; replace kp := kp.keep hb; replace kw := kw.keep hb; replace hB := bmore hB hb; clear hb
  go_wp2_with fail
  refine (Lit_Pos_any _ a0 a1 _ (by rw [k1.cells]; rfl) (by rw [k1.cells]; rfl)).mono ?_
  rintro e W5 ⟨rfl, hb⟩
  replace k1 := k1.keep hb; replace k2 := k2.keep hb; replace kp := kp.keep hb; replace kw := kw.keep hb; replace hB := bmore hB hb; clear hb
  go_wp2_with fail
  refine (Word_End_lit _ _ 1 2 _ a6 a7 _ (by rw [kw.cells]; rfl) (by omega) (by rw [kp.cells]; rfl) (by rw [k2.cells]; rfl) (by rw [k2.cells]; rfl)).mono ?_
  rintro e W6 ⟨rfl, hb⟩
  replace k1 := k1.keep hb; replace k2 := k2.keep hb; replace kp := kp.keep hb; replace kw := kw.keep hb; replace hB := bmore hB hb; clear hb
  go_wp2_with fail
  refine (Lit_End_any _ a6 a7 _ (by rw [k2.cells]; rfl) (by rw [k2.cells]; rfl)).mono ?_
  rintro e W7 ⟨rfl, hb⟩
  replace k1 := k1.keep hb; replace k2 := k2.keep hb; replace kp := kp.keep hb; replace kw := kw.keep hb; replace hB := bmore hB hb; clear hb
  go_wp2_with fail
  refine (Word_Lit_two _ _ _ _ 2 a8 a9 _ (by rw [kw.cells]; rfl) (by rw [kp.cells]; rfl) (by rw [kp.cells]; rfl) (by rw [k1.cells]; rfl) (by rw [k2.cells]; rfl) h3).mono ?_
  rintro e W8 ⟨rfl, hb⟩
  replace hB := bmore hB hb
  clear hb k1 k2 kp kw
  have h4 : a8.size + a9.size ≤ 9223372036854775807 := by omega
  have h5 : (a8 ++ a9).size ≤ 9223372036854775807 := by rw [ByteArray.size_append]; omega
  have h6 : ((a8 ++ a9).toList == (a8 ++ a9).toList) = true := by simp
  go_wp2
  go_ret
  exact ⟨rfl, hB⟩
end Go.Proofs.Ytaampofbcbophaa
