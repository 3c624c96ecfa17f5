/- The walk of FnDeclClauseEndLastArgOnly. -/
import Derived.Test.YtaampofbcbophaaDeclC
namespace Go.Proofs.Ytaampofbcbophaa
open Go.RowKit
/-- What is asked of a clause later on: its end, its start. -/
def DCe (W : World) (b : Nat) (o lc : Int) : Prop := ∀ W1, Below W.heap.size W W1 → Calls Try.prog 33 #[.pointer (some ⟨b, 0, none⟩)] W1 fun e w' => e = .returned (P2 o lc) ∧ Below W1.heap.size W1 w'
def DCp (W : World) (b : Nat) (o lc : Int) : Prop := ∀ W1, Below W.heap.size W W1 → Calls Try.prog 35 #[.pointer (some ⟨b, 0, none⟩)] W1 fun e w' => e = .returned (P2 o lc) ∧ Below W1.heap.size W1 w'
theorem DCe.keep {W W1 : World} {b : Nat} {o lc : Int} (h : DCe W b o lc) (hb : Below W.heap.size W W1) : DCe W1 b o lc := fun _ k => h _ (bmore hb k)
theorem DCp.keep {W W1 : World} {b : Nat} {o lc : Int} (h : DCp W b o lc) (hb : Below W.heap.size W W1) : DCp W1 b o lc := fun _ k => h _ (bmore hb k)
theorem BuiltD.ends {w w' : World} {n0 m : Nat} {K e0 e1 r0 r1 : Nat → Int} {vo vl eo el : Int} {e : Ending} (h : BuiltD w n0 (m + 1) K e0 e1 r0 r1 (decV vo vl eo el) e w') (hm : m ≤ 65536)
    (b0 : 0 ≤ e0 (n0 + m) ∧ e0 (n0 + m) < 4294967296) (b1 : 0 ≤ e1 (n0 + m) ∧ e1 (n0 + m) < 4294967296) (b2 : 0 ≤ r0 (n0 + m) ∧ r0 (n0 + m) < 4294967296) (b3 : 0 ≤ r1 (n0 + m) ∧ r1 (n0 + m) < 4294967296) :
    ∃ d : Nat, e = .returned (.pointer (some ⟨d, 0, none⟩)) ∧ DCe w' d (dEO (K (n0 + m) % 3) (e0 (n0 + m)) (e1 (n0 + m)) (r0 (n0 + m)) (r1 (n0 + m))) (dEL (K (n0 + m) % 3) (e0 (n0 + m)) (e1 (n0 + m)) (r0 (n0 + m)) (r1 (n0 + m))) ∧ DCp w' d vo vl ∧ Below w.heap.size w w' := by
  obtain ⟨d, vb, g, he, hd, hv, hrow, hB⟩ := h
  obtain ⟨v, hc, hE⟩ := hrow.at_ (j := m) (by omega)
  refine ⟨d, he, fun W1 hb => ?_, fun W1 hb => DeclClause_Pos_any d vb vo vl W1 (by rw [(hd.keep hb).cells]; rfl) (by rw [(hv.keep hb).cells]; rfl) (by rw [(hv.keep hb).cells]; rfl), hB⟩
  have hE1 := AsP.keep hE hb
  have hp : ∃ a, v = .pointer (some a) := by obtain ⟨b, bn, e, _⟩ := hE1; exact ⟨_, e⟩
  exact DeclClause_End_args d g m (m + 1) v _ _ W1 (by rw [(hd.keep hb).cells]; rfl) hm hp (keepc hb hc) (fun W k => (AsP.keep hE1 k).end_ b0 b1 b2 b3)
def LEe (W : World) (b : Nat) (o lc : Int) : Prop := ∀ W1, Below W.heap.size W W1 → Calls Try.prog 34 #[.pointer (some ⟨b, 0, none⟩)] W1 fun e w' => e = .returned (P2 o lc) ∧ Below W1.heap.size W1 w'
theorem LEe.keep {W W1 : World} {b : Nat} {o lc : Int} (h : LEe W b o lc) (hb : Below W.heap.size W W1) : LEe W1 b o lc := fun _ k => h _ (bmore hb k)
def NoneD (w : World) (d vb : Nat) (eo el : Int) (W : World) : Prop := W.cell? ⟨d, 0, none⟩ = some (.pointer (some ⟨vb, 0, none⟩)) ∧ DCe W d eo el ∧ LEe W vb eo el ∧ Below w.heap.size w W
theorem NoneD.keep {w W W1 : World} {d vb : Nat} {eo el : Int} (h : NoneD w d vb eo el W) (hb : Below W.heap.size W W1) : NoneD w d vb eo el W1 := ⟨keepc hb h.1, h.2.1.keep hb, h.2.2.1.keep hb, bmore h.2.2.2 hb⟩
theorem NoneD.drew {w W : World} {d vb : Nat} {eo el : Int} (h : NoneD w d vb eo el W) : NoneD w d vb eo el W.drew := h.keep ⟨rfl, rfl, rfl, Nat.le_refl _, fun _ _ => rfl⟩
theorem BuiltD.none {w w' : World} {n0 : Nat} {K e0 e1 r0 r1 : Nat → Int} {vo vl eo el : Int} {e : Ending} (h : BuiltD w n0 0 K e0 e1 r0 r1 (decV vo vl eo el) e w') :
    ∃ d vb : Nat, e = .returned (.pointer (some ⟨d, 0, none⟩)) ∧ NoneD w d vb eo el w' := by
  obtain ⟨d, vb, g, he, hd, hv, _, hB⟩ := h
  refine ⟨d, vb, he, by rw [hd.cells]; rfl, fun W1 hb => DeclClause_End_none d vb 0 _ eo el W1 (by rw [(hd.keep hb).cells]; rfl) (by rw [(hd.keep hb).cells]; rfl) (by rw [(hv.keep hb).cells]; rfl) (by rw [(hv.keep hb).cells]; rfl), fun W1 hb => Lit_End_any vb eo el W1 (by rw [(hv.keep hb).cells]; rfl) (by rw [(hv.keep hb).cells]; rfl), hB⟩
theorem u32b {z : Int} (h : (Lit.int .u32 z).wf = true) : 0 ≤ z ∧ z < 4294967296 := by
  have h2 : IntKind.u32.min ≤ z ∧ z ≤ IntKind.u32.max := by simpa [Lit.wf] using h
  have a : IntKind.u32.min = 0 := by decide
  have b : IntKind.u32.max = 4294967295 := by decide
  omega
theorem u8b {z : Int} (h : (Lit.int .u8 z).wf = true) : 0 ≤ z ∧ z ≤ 255 := by
  have h2 : IntKind.u8.min ≤ z ∧ z ≤ IntKind.u8.max := by simpa [Lit.wf] using h
  have a : IntKind.u8.min = 0 := by decide
  have b : IntKind.u8.max = 255 := by decide
  omega
theorem NoneD.end_ {w W : World} {d vb : Nat} {eo el : Int} (h : NoneD w d vb eo el W) : Calls Try.prog 33 #[.pointer (some ⟨d, 0, none⟩)] W fun e w' => e = .returned (P2 eo el) ∧ Below W.heap.size W w' := h.2.1 _ (Below.refl _ _)
theorem NoneD.lit {w W : World} {d vb : Nat} {eo el : Int} (h : NoneD w d vb eo el W) : Calls Try.prog 34 #[.pointer (some ⟨vb, 0, none⟩)] W fun e w' => e = .returned (P2 eo el) ∧ Below W.heap.size W w' := h.2.2.1 _ (Below.refl _ _)
set_option maxHeartbeats 8000000 in
set_option maxRecDepth 100000 in
theorem walkFnDeclClauseEndLastArgOnly (a0 : Int) (a1 : Int) (a2 : Int) (a3 : Int) (a4 : Option Addr) (len4 cap4 : Nat) (z4 : List Int) (a5 : Option Addr) (len5 cap5 : Nat) (z5 : List Int) (a6 : Option Addr) (len6 cap6 : Nat) (z6 : List Int) (a7 : Option Addr) (len7 cap7 : Nat) (z7 : List Int) (a8 : Option Addr) (len8 cap8 : Nat) (z8 : List Int) (a9 : Option Addr) (len9 cap9 : Nat) (z9 : List Int) (a10 : Option Addr) (len10 cap10 : Nat) (z10 : List Int) (w : World)
    (_w0 : (Lit.int .u32 a0).wf = true) (_w1 : (Lit.int .u32 a1).wf = true) (_w2 : (Lit.int .u32 a2).wf = true) (_w3 : (Lit.int .u32 a3).wf = true) (w4 : IsRow .u8 w a4 len4 cap4 z4) (w5 : IsRow .u32 w a5 len5 cap5 z5) (w6 : IsRow .u32 w a6 len6 cap6 z6) (w7 : IsRow .u32 w a7 len7 cap7 z7) (w8 : IsRow .u32 w a8 len8 cap8 z8) (w9 : IsRow .u32 w a9 len9 cap9 z9) (w10 : IsRow .u32 w a10 len10 cap10 z10) :
    Calls Try.prog 6 #[.int .u32 a0, .int .u32 a1, .int .u32 a2, .int .u32 a3, .slice a4 len4 cap4, .slice a5 len5 cap5, .slice a6 len6 cap6, .slice a7 len7 cap7, .slice a8 len8 cap8, .slice a9 len9 cap9, .slice a10 len10 cap10] w fun e w' => e = .returned (.bool true) ∧ Below w.heap.size w w' := by
  have W4 := Lib.hid w4
  have W5 := Lib.hid w5
  have W6 := Lib.hid w6
  have W7 := Lib.hid w7
  have W8 := Lib.hid w8
  have W9 := Lib.hid w9
  have W10 := Lib.hid w10
  have l4 := w4.len
  have l5 := w5.len
  have l6 := w6.len
  have l7 := w7.len
  have l8 := w8.len
  have l9 := w9.len
  have l10 := w10.len
  clear w4 w5 w6 w7 w8 w9 w10
  by_cases h4 : 65536 < len4
  · have g4 : (65536 : Int) < (len4 : Int) := by omega
    go_enter Try.func6, Try.ntmps6
    go_wp2_with fail
    refine (zzBytesD_any _ _ _ _ _ _ _ _ _ _ _ _ _ _ _ _ _ _ _ _ _ _ _ _ _ _ (by omega) (by omega) (by omega) (by omega) (by omega) (by omega) (by omega)).mono ?_
    rintro e w' ⟨b, rfl, rfl⟩
    cases b <;> (go_wp2_with fail; go_ret; exact ⟨rfl, Below.refl _ _⟩)
  have g4 : ¬ (65536 : Int) < (len4 : Int) := by omega
  by_cases h5 : 65536 < len5
  · have g5 : (65536 : Int) < (len5 : Int) := by omega
    go_enter Try.func6, Try.ntmps6
    go_wp2_with fail
    refine (zzBytesD_any _ _ _ _ _ _ _ _ _ _ _ _ _ _ _ _ _ _ _ _ _ _ _ _ _ _ (by omega) (by omega) (by omega) (by omega) (by omega) (by omega) (by omega)).mono ?_
    rintro e w' ⟨b, rfl, rfl⟩
    cases b <;> (go_wp2_with fail; go_ret; exact ⟨rfl, Below.refl _ _⟩)
  have g5 : ¬ (65536 : Int) < (len5 : Int) := by omega
  by_cases h6 : 65536 < len6
  · have g6 : (65536 : Int) < (len6 : Int) := by omega
    go_enter Try.func6, Try.ntmps6
    go_wp2_with fail
    refine (zzBytesD_any _ _ _ _ _ _ _ _ _ _ _ _ _ _ _ _ _ _ _ _ _ _ _ _ _ _ (by omega) (by omega) (by omega) (by omega) (by omega) (by omega) (by omega)).mono ?_
    rintro e w' ⟨b, rfl, rfl⟩
    cases b <;> (go_wp2_with fail; go_ret; exact ⟨rfl, Below.refl _ _⟩)
  have g6 : ¬ (65536 : Int) < (len6 : Int) := by omega
  by_cases h7 : 65536 < len7
  · have g7 : (65536 : Int) < (len7 : Int) := by omega
    go_enter Try.func6, Try.ntmps6
    go_wp2_with fail
    refine (zzBytesD_any _ _ _ _ _ _ _ _ _ _ _ _ _ _ _ _ _ _ _ _ _ _ _ _ _ _ (by omega) (by omega) (by omega) (by omega) (by omega) (by omega) (by omega)).mono ?_
    rintro e w' ⟨b, rfl, rfl⟩
    cases b <;> (go_wp2_with fail; go_ret; exact ⟨rfl, Below.refl _ _⟩)
  have g7 : ¬ (65536 : Int) < (len7 : Int) := by omega
  by_cases h8 : 65536 < len8
  · have g8 : (65536 : Int) < (len8 : Int) := by omega
    go_enter Try.func6, Try.ntmps6
    go_wp2_with fail
    refine (zzBytesD_any _ _ _ _ _ _ _ _ _ _ _ _ _ _ _ _ _ _ _ _ _ _ _ _ _ _ (by omega) (by omega) (by omega) (by omega) (by omega) (by omega) (by omega)).mono ?_
    rintro e w' ⟨b, rfl, rfl⟩
    cases b <;> (go_wp2_with fail; go_ret; exact ⟨rfl, Below.refl _ _⟩)
  have g8 : ¬ (65536 : Int) < (len8 : Int) := by omega
  by_cases h9 : 65536 < len9
  · have g9 : (65536 : Int) < (len9 : Int) := by omega
    go_enter Try.func6, Try.ntmps6
    go_wp2_with fail
    refine (zzBytesD_any _ _ _ _ _ _ _ _ _ _ _ _ _ _ _ _ _ _ _ _ _ _ _ _ _ _ (by omega) (by omega) (by omega) (by omega) (by omega) (by omega) (by omega)).mono ?_
    rintro e w' ⟨b, rfl, rfl⟩
    cases b <;> (go_wp2_with fail; go_ret; exact ⟨rfl, Below.refl _ _⟩)
  have g9 : ¬ (65536 : Int) < (len9 : Int) := by omega
  by_cases h10 : 65536 < len10
  · have g10 : (65536 : Int) < (len10 : Int) := by omega
    go_enter Try.func6, Try.ntmps6
    go_wp2_with fail
    refine (zzBytesD_any _ _ _ _ _ _ _ _ _ _ _ _ _ _ _ _ _ _ _ _ _ _ _ _ _ _ (by omega) (by omega) (by omega) (by omega) (by omega) (by omega) (by omega)).mono ?_
    rintro e w' ⟨b, rfl, rfl⟩
    cases b <;> (go_wp2_with fail; go_ret; exact ⟨rfl, Below.refl _ _⟩)
  have g10 : ¬ (65536 : Int) < (len10 : Int) := by omega
  go_enter Try.func6, Try.ntmps6
  go_wp2_with fail
  refine (zzBytesD_any _ _ _ _ _ _ _ _ _ _ _ _ _ _ _ _ _ _ _ _ _ _ _ _ _ _ (by omega) (by omega) (by omega) (by omega) (by omega) (by omega) (by omega)).mono ?_
  rintro e w' ⟨b, rfl, rfl⟩
  cases b
  · go_wp2_with fail
    go_ret
    exact ⟨rfl, Below.refl _ _⟩
  go_wp2_with fail
  refine (declFits_any _ _ _ _ _ _ _ _ _ _ _ _ _ _ _ _ _ _ _ _ _ _ _ _ _ (fun i => z5.getD i 0) (fun i => z6.getD i 0) (fun i => z7.getD i 0) (fun i => z8.getD i 0) (fun i => z9.getD i 0) (fun i => z10.getD i 0) _ W5.out.src W6.out.src W7.out.src W8.out.src W9.out.src W10.out.src (by omega) (by omega) (by omega) (by omega) (by omega) (by omega) (by omega)).mono ?_
  rintro e v0 ⟨b, rfl, ⟨q, rfl⟩, hb⟩
  have B0 : Below w.heap.size w (w.drewN q) := bdrewN (Below.refl _ _) _
  generalize w.drewN q = v0 at B0 ⊢
  cases b
  · clear hb
    go_wp2_with fail
    go_ret
    exact ⟨rfl, B0⟩
  obtain ⟨e5, e6, e7, e8, e9, e10, hn⟩ := hb rfl
  clear hb
  obtain rfl := e5.symm
  obtain rfl := e6.symm
  obtain rfl := e7.symm
  obtain rfl := e8.symm
  obtain rfl := e9.symm
  obtain rfl := e10.symm
  have HS : Hid (Src7 v0 a4 a5 a6 a7 a8 a9 a10 len4 (fun i => z4.getD i 0) (fun i => z5.getD i 0) (fun i => z6.getD i 0) (fun i => z7.getD i 0) (fun i => z8.getD i 0) (fun i => z9.getD i 0) (fun i => z10.getD i 0)) :=
    Lib.hid ⟨W4.out.src.keep B0, W5.out.src.keep B0, W6.out.src.keep B0, W7.out.src.keep B0, W8.out.src.keep B0, W9.out.src.keep B0, W10.out.src.keep B0⟩
  have HK : Hid (∀ i, i < len4 → 0 ≤ z4.getD i 0 ∧ z4.getD i 0 ≤ 255) := Lib.hid fun i hi => u8b (W4.out.wf hi)
  rcases Nat.eq_zero_or_pos len4 with h0 | h0
  · subst h0
    clear W4 W5 W6 W7 W8 W9 W10
    go_wp2_with fail
    refine (buildDecl a0 a1 a2 a3 a4 a5 a6 a7 a8 a9 a10 0 0 0 _ _ _ _ _ _ _ _ _ _ _ _ _ _ _ HS.out (by omega) (by omega) HK.out).mono ?_
    rintro e v1 hb
    obtain ⟨d, vb, rfl, hN⟩ := hb.none
    clear hb HS HK
    go_wp2_with fail
    go_region_held3 (fun W => W.cell? ⟨d, 0, none⟩ = some (.pointer (some ⟨vb, 0, none⟩)) ∧ DCe W d a2 a3 ∧ LEe W vb a2 a3 ∧ Below v0.heap.size v0 W) (first | exact NoneD.drew hN | exact NoneD.keep (by assumption) (by assumption))
      (first | (go_at_call 33; refine (NoneD.end_ (by assumption)).mono ?_; rintro e w' ⟨rfl, hb⟩) | (go_at_call 34; refine (NoneD.lit (by assumption)).mono ?_; rintro e w' ⟨rfl, hb⟩))
    rename_i hH
    go_wp2_with fail
    go_ret
    exact ⟨rfl, bmore B0 hH.2.2.2⟩
  · obtain ⟨m, rfl⟩ : ∃ m, len4 = m + 1 := ⟨len4 - 1, by omega⟩
    have b0 := u32b (W7.out.wf (i := m) (by omega))
    have b1 := u32b (W8.out.wf (i := m) (by omega))
    have b2 := u32b (W9.out.wf (i := m) (by omega))
    have b3 := u32b (W10.out.wf (i := m) (by omega))
    clear W4 W5 W6 W7 W8 W9 W10
    have e1 : ((m : Int) + 1 == 0) = false := beq_eq_false_iff_ne.2 (by omega)
    go_wp2_with fail
    refine (buildDecl a0 a1 a2 a3 a4 a5 a6 a7 a8 a9 a10 (m + 1) 0 (m + 1) _ _ _ _ _ _ _ _ _ _ _ _ _ _ _ HS.out (by omega) (by omega) HK.out).mono ?_
    rintro e v1 hb
    obtain ⟨d, rfl, hE1, hP1, B1⟩ := hb.ends (by omega) (by simpa using b0) (by simpa using b1) (by simpa using b2) (by simpa using b3)
    clear hb
    simp only [Nat.zero_add] at hE1
    go_wp2_with fail
    refine (buildDecl a0 a1 a2 a3 a4 a5 a6 a7 a8 a9 a10 (m + 1) m 1 _ _ _ _ _ _ _ _ _ _ _ _ _ _ _ (HS.out.keep B1) (by omega) (by omega) HK.out).mono ?_
    rintro e v2 hb
    obtain ⟨d2, rfl, hE2, hP2, B2⟩ := hb.ends (m := 0) (by omega) (by simpa using b0) (by simpa using b1) (by simpa using b2) (by simpa using b3)
    clear hb HS HK
    simp only [Nat.add_zero] at hE2
    go_wp2_with fail
    refine (hE1 _ B2).mono ?_
    rintro e v3 ⟨rfl, B3⟩
    go_wp2_with fail
    refine (hE2 _ B3).mono ?_
    rintro e v4 ⟨rfl, B4⟩
    go_wp2_with fail
    refine (hP1 _ (bmore (bmore B2 B3) B4)).mono ?_
    rintro e v5 ⟨rfl, B5⟩
    go_wp2_with fail
    refine (hP2 _ (bmore (bmore B3 B4) B5)).mono ?_
    rintro e v6 ⟨rfl, B6⟩
    go_wp2_with fail
    go_ret
    exact ⟨rfl, bmore (bmore (bmore (bmore (bmore (bmore B0 B1) B2) B3) B4) B5) B6⟩
end Go.Proofs.Ytaampofbcbophaa
