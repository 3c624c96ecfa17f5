/- checkLang on the laws' parser: it accepts; it refuses for the first time; it refuses once more. -/
import Derived.Test.YtimaobpcefgdkaaFmtBits
import Derived.Test.YtimaobpcefgdkaaFmtNewP
namespace Go.Proofs.YtimaobpcefgdkaaFmt
open Go.RowKit
theorem featPlain : PlainF ⟨#[102, 101, 97, 116, 117, 114, 101]⟩ := by unfold PlainF; kernel_rfl
theorem in_any (l s : Int) (w : World) : Calls Tryf.prog 20 #[.int .i64 l, .int .i64 s] w fun e w' => e = .returned (.bool (bits .and .i64 l s == l)) ∧ w = w' := by
  go_enter Tryf.func20, Tryf.ntmps20
  go_wp2
  go_ret
  exact ⟨rfl, rfl⟩
/-- A slice with what it owns. -/
theorem own_slice {w : World} {base n : Nat} {e : TypeId} {v : Value} {xs : List Value} (ho : w.ownsRow base e 1 v n xs) : ∃ (a : Option Addr) (c : Nat), v = .slice a n c := by
  rcases ho.2 with ⟨h, h0⟩ | ⟨g, c, _, h, _⟩
  · exact ⟨none, 0, by rw [h, h0]⟩
  · exact ⟨_, c, h⟩
theorem own_base {W : World} {base base' : Nat} {e : TypeId} {size : Nat} {v : Value} {k : Nat} {xs : List Value} (h : W.ownsRow base e size v k xs) (hb : base' ≤ base) : W.ownsRow base' e size v k xs := by
  refine ⟨h.1, ?_⟩
  rcases h.2 with hn | ⟨g, cap, cur, hv, hbg, rest⟩
  · exact .inl hn
  · exact .inr ⟨g, cap, cur, hv, Nat.le_trans hb hbg, rest⟩
/-- The error that checkLang lays. -/
abbrev langErr (nm : ByteArray) (o l : Int) (s : ByteArray) (a : Option Addr) (n c : Nat) (lg : Int) : Value := .iface 39 (.agg #[.string nm, .int .u32 o, .int .u32 l, .string s, .slice a n c, .int .i64 lg])
/-- What a first refusal leaves. -/
def Refused (w : World) (b fp : Nat) (nm : ByteArray) (fb : Bool) (lg o l S : Int) (w' : World) : Prop :=
  ∃ (s : ByteArray) (a : Option Addr) (c : Nat), PP w' b fp nm (langErr nm o l s a (bl (effS S) 5).length c lg) 1 fb lg ∧ w'.ownsRow w.heap.size 34 1 (.slice a (bl (effS S) 5).length c) (bl (effS S) 5).length ((bl (effS S) 5).map (Value.int .i64)) ∧ w.grownBy w' (some b)
set_option maxRecDepth 100000 in
theorem check_ok {w : World} {b fp : Nat} {nm : ByteArray} {er : Value} {tk : Int} {fb : Bool} {lg : Int} (h : PP w b fp nm er tk fb lg) (o l S : Int) (f : ByteArray) (hS : (bits .and .i64 lg S == lg) = true) :
    Calls Tryf.prog 18 #[.pointer (some ⟨b, 0, none⟩), P2 o l, .int .i64 S, .string f, .slice none 0 0] w fun e w' => e = .returned (.tuple #[]) ∧ Below w.heap.size w w' := by
  have c20 := h.c20
  have lb := h.lt
  clear h
  go_enter Tryf.func18, Tryf.ntmps18
  go_wp2_with (go_at_call 20; refine (in_any _ _ _).mono ?_; rintro e w' ⟨rfl, rfl⟩)
  first
    | (go_end0; exact ⟨rfl, by go_grown⟩)
    | exact bodyPost_ret (results_none rfl _ _ _) rfl ⟨rfl, by go_grown⟩
theorem only_alloc {a w : World} {row : Option Nat} (h : a.grownBy w row) (o : Obj) : a.grownBy (w.alloc o) row := grown_tr h (World.grownBy_alloc w o row)
theorem own_past {X Y : World} {B n b : Nat} {e : TypeId} {v : Value} {xs : List Value} (h : X.ownsRow B e 1 v n xs) (hg : X.grownBy Y (some b)) (hb : b < B) : Y.ownsRow B e 1 v n xs := by
  refine h.kept hg ?_
  cases hv : v.ownBlock with
  | none => exact .inl rfl
  | some k =>
    refine .inr ?_
    have := (h.lt k hv).1
    intro e
    injection e with e
    omega
set_option maxHeartbeats 8000000 in
set_option maxRecDepth 100000 in
theorem check_first {w : World} {b fp : Nat} {nm : ByteArray} {tk : Int} {fb : Bool} {lg : Int} (h : PP w b fp nm .nilIface tk fb lg) (o l S : Int) {f : ByteArray} (hf : PlainF f) (hS : (bits .and .i64 lg S == lg) = false) :
    Calls Tryf.prog 18 #[.pointer (some ⟨b, 0, none⟩), P2 o l, .int .i64 S, .string f, .slice none 0 0] w fun e w' => e = .returned (.tuple #[]) ∧ Refused w b fp nm fb lg o l S w' := by
  have c20 := h.c20
  have lb := h.lt
  have hne : w.heap.size ≠ b := by omega
  have H := Lib.hid h
  have HFM := Lib.hid hf
  obtain ⟨T, hT⟩ : ∃ T, T = effS S := ⟨_, rfl⟩
  have HT := Lib.hid hT
  unfold Refused
  rw [← hT]
  clear h hf
  go_enter Tryf.func18, Tryf.ntmps18
  have hcase : ((bits .and .i64 9 S == 9) = true ∧ T = bits .andNot .i64 S 8) ∨ ((bits .and .i64 9 S == 9) = false ∧ T = S) := by
    rw [hT]
    unfold effS
    cases hh : (bits .and .i64 9 S == 9) <;> simp
  clear hT
  rcases hcase with ⟨h9, hT2⟩ | ⟨h9, rfl⟩
  · go_upto_region 4 with (go_at_call 20; refine (in_any _ _ _).mono ?_; rintro e w' ⟨rfl, rfl⟩)
    rw [← hT2]
    clear hT2 h9 HT hS
    refine wp_gen (S := fun W => PP W b fp nm .nilIface tk fb lg ∧ Bk W w.heap.size 28 #[.int .u32 o, .int .u32 l] ∧ Below w.heap.size w W) ⟨H.out.alloc _, Bk.fresh _ _ _, (Below.refl _ _).alloc (Nat.le_refl _) _⟩ ?_
    clear H c20
    rintro W ⟨hp, hk, hg⟩
    have c5 := hp.c5
    have cf := hp.cf
    have c20 := hp.c20
    have p0 : W.cell? ⟨w.heap.size, 0, none⟩ = some (.int .u32 o) := by rw [hk.cells]; rfl
    have p1 : W.cell? ⟨w.heap.size, 1, none⟩ = some (.int .u32 l) := by rw [hk.cells]; rfl
    have lb2 := hp.lt
    have lk := hk.lt
    have H := Lib.hid hp
    have HG := Lib.hid hg
    clear hp hk hg
    have kB : Hid (∀ X Y : World, (X.cell? ⟨b, 5, none⟩ = some (.pointer (some ⟨fp, 0, none⟩)) ∧ X.cell? ⟨fp, 0, none⟩ = some (.string nm) ∧ X.cell? ⟨w.heap.size, 0, none⟩ = some (.int .u32 o) ∧ X.cell? ⟨w.heap.size, 1, none⟩ = some (.int .u32 l) ∧ X.cell? ⟨b, 20, none⟩ = some (.int .i64 lg)) → Below X.heap.size X Y →
        (Y.cell? ⟨b, 5, none⟩ = some (.pointer (some ⟨fp, 0, none⟩)) ∧ Y.cell? ⟨fp, 0, none⟩ = some (.string nm) ∧ Y.cell? ⟨w.heap.size, 0, none⟩ = some (.int .u32 o) ∧ Y.cell? ⟨w.heap.size, 1, none⟩ = some (.int .u32 l) ∧ Y.cell? ⟨b, 20, none⟩ = some (.int .i64 lg))) := fun X Y h hb =>
      ⟨keepc hb h.1, keepc hb h.2.1, keepc hb h.2.2.1, keepc hb h.2.2.2.1, keepc hb h.2.2.2.2⟩
    go_region_held3 (fun W' => W'.cell? ⟨b, 5, none⟩ = some (.pointer (some ⟨fp, 0, none⟩)) ∧ W'.cell? ⟨fp, 0, none⟩ = some (.string nm) ∧ W'.cell? ⟨w.heap.size, 0, none⟩ = some (.int .u32 o) ∧ W'.cell? ⟨w.heap.size, 1, none⟩ = some (.int .u32 l) ∧ W'.cell? ⟨b, 20, none⟩ = some (.int .i64 lg))
          (first | exact hS4 | exact kB.out _ _ ⟨c5, cf, p0, p1, c20⟩ (Below.drew (Below.refl _ _)) | exact kB.out _ _ ⟨c5, cf, p0, p1, c20⟩ (Below.drew (Below.drew (Below.refl _ _))) | exact kB.out _ _ ⟨c5, cf, p0, p1, c20⟩ hW3 | exact kB.out _ _ ⟨c5, cf, p0, p1, c20⟩ (Below.drew hW3) | exact kB.out _ _ ⟨c5, cf, p0, p1, c20⟩ hW2 | exact kB.out _ _ ⟨c5, cf, p0, p1, c20⟩ (Below.drew hW2))
          (first
            | (refine step_sprintf rfl _ _ _ rfl HFM.out rfl rfl ?_; intro s)
            | (go_at_call 24; refine (bits_any _ _).mono ?_; rintro e w2 ⟨rfl, hw2⟩; have hq2 : w2.cell? ⟨W.heap.size, 0, none⟩ = some (.int .i64 T) := (by rw [hw2]; exact (Bk.newAt (g := W.heap.size) (t := 34) (cs := #[.int .i64 T]) (by simp)).cells 0); have hW2 : Below W.heap.size W w2 := (by rw [hw2]; exact Below.alloc (by first | exact Below.drew (Below.drew (Below.refl _ _)) | exact Below.drew (Below.refl _ _)) (by simp) _); have hl2 : W.heap.size + 1 = w2.heap.size := (by rw [hw2]; simp); clear hw2)
            | (go_at_call 23; refine (collect_any W.heap.size T _ (by first | omega | (simp; omega)) (by first | exact hq2 | simpa using hq2)).mono ?_; rintro e w3 ⟨v, rfl, hrow, hb3⟩; obtain ⟨a, c, rfl⟩ := own_slice hrow; have hW3 : Below W.heap.size W w3 := (by first | exact hW2.trans (hb3.mono (by omega)) | exact hW2.drew.trans (hb3.mono (by simp; omega))); have hr3 := own_base hrow (base' := W.heap.size) (by first | omega | (simp; omega)); have HR3 := Lib.hid hr3; clear hrow hr3 hb3)
            | (go_at_call 21; refine (errPass_nil (by first | exact H.out.keep hW3 | exact H.out.keep (Below.drew hW3)) _ _).mono ?_; rintro e w4 ⟨rfl, hP4, hg4⟩; have hS4 := And.intro hP4.c5 (And.intro hP4.cf (And.intro (hg4.cell (by first | exact keepc hW3 p0 | exact keepc (Below.drew hW3) p0) (by intro h; injection h with h; exact hne h)) (And.intro (hg4.cell (by first | exact keepc hW3 p1 | exact keepc (Below.drew hW3) p1) (by intro h; injection h with h; exact hne h)) hP4.c20)))))
    all_goals
      go_end0
      refine ⟨rfl, s, a, c, hP4, ?_, ?_⟩
      · first
          | exact own_base (own_past HR3.out hg4 (by omega)) HG.out.size
          | exact own_base (own_past (X := w3.drew) HR3.out hg4 (by omega)) HG.out.size
      · first
          | exact grown_tr (grown_of_below (HG.out.trans (hW3.mono HG.out.size)) _) hg4
          | exact grown_tr (only_drew (grown_of_below (HG.out.trans (hW3.mono HG.out.size)) _)) hg4
  · go_upto_region 4 with (go_at_call 20; refine (in_any _ _ _).mono ?_; rintro e w' ⟨rfl, rfl⟩)
    refine wp_gen (S := fun W => PP W b fp nm .nilIface tk fb lg ∧ Bk W w.heap.size 28 #[.int .u32 o, .int .u32 l] ∧ Below w.heap.size w W) ⟨H.out.alloc _, Bk.fresh _ _ _, (Below.refl _ _).alloc (Nat.le_refl _) _⟩ ?_
    clear H c20 hS
    rintro W ⟨hp, hk, hg⟩
    have c5 := hp.c5
    have cf := hp.cf
    have c20 := hp.c20
    have p0 : W.cell? ⟨w.heap.size, 0, none⟩ = some (.int .u32 o) := by rw [hk.cells]; rfl
    have p1 : W.cell? ⟨w.heap.size, 1, none⟩ = some (.int .u32 l) := by rw [hk.cells]; rfl
    have lb2 := hp.lt
    have lk := hk.lt
    have H := Lib.hid hp
    have HG := Lib.hid hg
    clear hp hk hg
    have kB : Hid (∀ X Y : World, (X.cell? ⟨b, 5, none⟩ = some (.pointer (some ⟨fp, 0, none⟩)) ∧ X.cell? ⟨fp, 0, none⟩ = some (.string nm) ∧ X.cell? ⟨w.heap.size, 0, none⟩ = some (.int .u32 o) ∧ X.cell? ⟨w.heap.size, 1, none⟩ = some (.int .u32 l) ∧ X.cell? ⟨b, 20, none⟩ = some (.int .i64 lg)) → Below X.heap.size X Y →
        (Y.cell? ⟨b, 5, none⟩ = some (.pointer (some ⟨fp, 0, none⟩)) ∧ Y.cell? ⟨fp, 0, none⟩ = some (.string nm) ∧ Y.cell? ⟨w.heap.size, 0, none⟩ = some (.int .u32 o) ∧ Y.cell? ⟨w.heap.size, 1, none⟩ = some (.int .u32 l) ∧ Y.cell? ⟨b, 20, none⟩ = some (.int .i64 lg))) := fun X Y h hb =>
      ⟨keepc hb h.1, keepc hb h.2.1, keepc hb h.2.2.1, keepc hb h.2.2.2.1, keepc hb h.2.2.2.2⟩
    go_region_held3 (fun W' => W'.cell? ⟨b, 5, none⟩ = some (.pointer (some ⟨fp, 0, none⟩)) ∧ W'.cell? ⟨fp, 0, none⟩ = some (.string nm) ∧ W'.cell? ⟨w.heap.size, 0, none⟩ = some (.int .u32 o) ∧ W'.cell? ⟨w.heap.size, 1, none⟩ = some (.int .u32 l) ∧ W'.cell? ⟨b, 20, none⟩ = some (.int .i64 lg))
          (first | exact hS4 | exact kB.out _ _ ⟨c5, cf, p0, p1, c20⟩ (Below.drew (Below.refl _ _)) | exact kB.out _ _ ⟨c5, cf, p0, p1, c20⟩ (Below.drew (Below.drew (Below.refl _ _))) | exact kB.out _ _ ⟨c5, cf, p0, p1, c20⟩ hW3 | exact kB.out _ _ ⟨c5, cf, p0, p1, c20⟩ (Below.drew hW3) | exact kB.out _ _ ⟨c5, cf, p0, p1, c20⟩ hW2 | exact kB.out _ _ ⟨c5, cf, p0, p1, c20⟩ (Below.drew hW2))
          (first
            | (refine step_sprintf rfl _ _ _ rfl HFM.out rfl rfl ?_; intro s)
            | (go_at_call 24; refine (bits_any _ _).mono ?_; rintro e w2 ⟨rfl, hw2⟩; have hq2 : w2.cell? ⟨W.heap.size, 0, none⟩ = some (.int .i64 T) := (by rw [hw2]; exact (Bk.newAt (g := W.heap.size) (t := 34) (cs := #[.int .i64 T]) (by simp)).cells 0); have hW2 : Below W.heap.size W w2 := (by rw [hw2]; exact Below.alloc (by first | exact Below.drew (Below.drew (Below.refl _ _)) | exact Below.drew (Below.refl _ _)) (by simp) _); have hl2 : W.heap.size + 1 = w2.heap.size := (by rw [hw2]; simp); clear hw2)
            | (go_at_call 23; refine (collect_any W.heap.size T _ (by first | omega | (simp; omega)) (by first | exact hq2 | simpa using hq2)).mono ?_; rintro e w3 ⟨v, rfl, hrow, hb3⟩; obtain ⟨a, c, rfl⟩ := own_slice hrow; have hW3 : Below W.heap.size W w3 := (by first | exact hW2.trans (hb3.mono (by omega)) | exact hW2.drew.trans (hb3.mono (by simp; omega))); have hr3 := own_base hrow (base' := W.heap.size) (by first | omega | (simp; omega)); have HR3 := Lib.hid hr3; clear hrow hr3 hb3)
            | (go_at_call 21; refine (errPass_nil (by first | exact H.out.keep hW3 | exact H.out.keep (Below.drew hW3)) _ _).mono ?_; rintro e w4 ⟨rfl, hP4, hg4⟩; have hS4 := And.intro hP4.c5 (And.intro hP4.cf (And.intro (hg4.cell (by first | exact keepc hW3 p0 | exact keepc (Below.drew hW3) p0) (by intro h; injection h with h; exact hne h)) (And.intro (hg4.cell (by first | exact keepc hW3 p1 | exact keepc (Below.drew hW3) p1) (by intro h; injection h with h; exact hne h)) hP4.c20)))))
    all_goals
      go_end0
      refine ⟨rfl, s, a, c, hP4, ?_, ?_⟩
      · first
          | exact own_base (own_past HR3.out hg4 (by omega)) HG.out.size
          | exact own_base (own_past (X := w3.drew) HR3.out hg4 (by omega)) HG.out.size
      · first
          | exact grown_tr (grown_of_below (HG.out.trans (hW3.mono HG.out.size)) _) hg4
          | exact grown_tr (only_drew (grown_of_below (HG.out.trans (hW3.mono HG.out.size)) _)) hg4
set_option maxHeartbeats 8000000 in
set_option maxRecDepth 100000 in
theorem check_more {w : World} {b fp : Nat} {nm : ByteArray} {t : TypeId} {x : Value} {tk : Int} {fb : Bool} {lg : Int} (h : PP w b fp nm (.iface t x) tk fb lg) (o l S : Int) {f : ByteArray} (hf : PlainF f) (hS : (bits .and .i64 lg S == lg) = false) :
    Calls Tryf.prog 18 #[.pointer (some ⟨b, 0, none⟩), P2 o l, .int .i64 S, .string f, .slice none 0 0] w fun e w' => e = .returned (.tuple #[]) ∧ Below w.heap.size w w' := by
  have c20 := h.c20
  have lb := h.lt
  have hne : w.heap.size ≠ b := by omega
  have H := Lib.hid h
  have HFM := Lib.hid hf
  obtain ⟨T, hT⟩ : ∃ T, T = effS S := ⟨_, rfl⟩
  have HT := Lib.hid hT
  clear h hf
  go_enter Tryf.func18, Tryf.ntmps18
  have hcase : ((bits .and .i64 9 S == 9) = true ∧ T = bits .andNot .i64 S 8) ∨ ((bits .and .i64 9 S == 9) = false ∧ T = S) := by
    rw [hT]
    unfold effS
    cases hh : (bits .and .i64 9 S == 9) <;> simp
  clear hT
  rcases hcase with ⟨h9, hT2⟩ | ⟨h9, rfl⟩
  · go_upto_region 4 with (go_at_call 20; refine (in_any _ _ _).mono ?_; rintro e w' ⟨rfl, rfl⟩)
    rw [← hT2]
    clear hT2 h9 HT hS
    refine wp_gen (S := fun W => PP W b fp nm (.iface t x) tk fb lg ∧ Bk W w.heap.size 28 #[.int .u32 o, .int .u32 l] ∧ Below w.heap.size w W) ⟨H.out.alloc _, Bk.fresh _ _ _, (Below.refl _ _).alloc (Nat.le_refl _) _⟩ ?_
    clear H c20
    rintro W ⟨hp, hk, hg⟩
    have c5 := hp.c5
    have cf := hp.cf
    have c20 := hp.c20
    have p0 : W.cell? ⟨w.heap.size, 0, none⟩ = some (.int .u32 o) := by rw [hk.cells]; rfl
    have p1 : W.cell? ⟨w.heap.size, 1, none⟩ = some (.int .u32 l) := by rw [hk.cells]; rfl
    have lb2 := hp.lt
    have lk := hk.lt
    have H := Lib.hid hp
    have HG := Lib.hid hg
    clear hp hk hg
    have kB : Hid (∀ X Y : World, (X.cell? ⟨b, 5, none⟩ = some (.pointer (some ⟨fp, 0, none⟩)) ∧ X.cell? ⟨fp, 0, none⟩ = some (.string nm) ∧ X.cell? ⟨w.heap.size, 0, none⟩ = some (.int .u32 o) ∧ X.cell? ⟨w.heap.size, 1, none⟩ = some (.int .u32 l) ∧ X.cell? ⟨b, 20, none⟩ = some (.int .i64 lg)) → Below X.heap.size X Y →
        (Y.cell? ⟨b, 5, none⟩ = some (.pointer (some ⟨fp, 0, none⟩)) ∧ Y.cell? ⟨fp, 0, none⟩ = some (.string nm) ∧ Y.cell? ⟨w.heap.size, 0, none⟩ = some (.int .u32 o) ∧ Y.cell? ⟨w.heap.size, 1, none⟩ = some (.int .u32 l) ∧ Y.cell? ⟨b, 20, none⟩ = some (.int .i64 lg))) := fun X Y h hb =>
      ⟨keepc hb h.1, keepc hb h.2.1, keepc hb h.2.2.1, keepc hb h.2.2.2.1, keepc hb h.2.2.2.2⟩
    go_region_held3 (fun W' => W'.cell? ⟨b, 5, none⟩ = some (.pointer (some ⟨fp, 0, none⟩)) ∧ W'.cell? ⟨fp, 0, none⟩ = some (.string nm) ∧ W'.cell? ⟨w.heap.size, 0, none⟩ = some (.int .u32 o) ∧ W'.cell? ⟨w.heap.size, 1, none⟩ = some (.int .u32 l) ∧ W'.cell? ⟨b, 20, none⟩ = some (.int .i64 lg))
          (first | exact kB.out _ _ ⟨c5, cf, p0, p1, c20⟩ (Below.drew (Below.refl _ _)) | exact kB.out _ _ ⟨c5, cf, p0, p1, c20⟩ (Below.drew (Below.drew (Below.refl _ _))) | exact kB.out _ _ ⟨c5, cf, p0, p1, c20⟩ hW3 | exact kB.out _ _ ⟨c5, cf, p0, p1, c20⟩ (Below.drew hW3) | exact kB.out _ _ ⟨c5, cf, p0, p1, c20⟩ hW2 | exact kB.out _ _ ⟨c5, cf, p0, p1, c20⟩ (Below.drew hW2))
          (first
            | (refine step_sprintf rfl _ _ _ rfl HFM.out rfl rfl ?_; intro s)
            | (go_at_call 24; refine (bits_any _ _).mono ?_; rintro e w2 ⟨rfl, hw2⟩; have hq2 : w2.cell? ⟨W.heap.size, 0, none⟩ = some (.int .i64 T) := (by rw [hw2]; exact (Bk.newAt (g := W.heap.size) (t := 34) (cs := #[.int .i64 T]) (by simp)).cells 0); have hW2 : Below W.heap.size W w2 := (by rw [hw2]; exact Below.alloc (by first | exact Below.drew (Below.drew (Below.refl _ _)) | exact Below.drew (Below.refl _ _)) (by simp) _); have hl2 : W.heap.size + 1 = w2.heap.size := (by rw [hw2]; simp); clear hw2)
            | (go_at_call 23; refine (collect_any W.heap.size T _ (by first | omega | (simp; omega)) (by first | exact hq2 | simpa using hq2)).mono ?_; rintro e w3 ⟨v, rfl, hrow, hb3⟩; obtain ⟨a, c, rfl⟩ := own_slice hrow; have hW3 : Below W.heap.size W w3 := (by first | exact hW2.trans (hb3.mono (by omega)) | exact hW2.drew.trans (hb3.mono (by simp; omega))); have hr3 := own_base hrow (base' := W.heap.size) (by first | omega | (simp; omega)); clear hrow hr3 hb3)
            | (go_at_call 21; refine (errPass_some (by first | exact H.out.keep hW3 | exact H.out.keep (Below.drew hW3)) _ _).mono ?_; rintro e w4 ⟨rfl, rfl⟩))
    all_goals
      go_end0
      first
        | exact ⟨rfl, HG.out.trans (hW3.mono HG.out.size)⟩
        | exact ⟨rfl, HG.out.trans (hW3.drew.mono HG.out.size)⟩
  · go_upto_region 4 with (go_at_call 20; refine (in_any _ _ _).mono ?_; rintro e w' ⟨rfl, rfl⟩)
    refine wp_gen (S := fun W => PP W b fp nm (.iface t x) tk fb lg ∧ Bk W w.heap.size 28 #[.int .u32 o, .int .u32 l] ∧ Below w.heap.size w W) ⟨H.out.alloc _, Bk.fresh _ _ _, (Below.refl _ _).alloc (Nat.le_refl _) _⟩ ?_
    clear H c20 hS
    rintro W ⟨hp, hk, hg⟩
    have c5 := hp.c5
    have cf := hp.cf
    have c20 := hp.c20
    have p0 : W.cell? ⟨w.heap.size, 0, none⟩ = some (.int .u32 o) := by rw [hk.cells]; rfl
    have p1 : W.cell? ⟨w.heap.size, 1, none⟩ = some (.int .u32 l) := by rw [hk.cells]; rfl
    have lb2 := hp.lt
    have lk := hk.lt
    have H := Lib.hid hp
    have HG := Lib.hid hg
    clear hp hk hg
    have kB : Hid (∀ X Y : World, (X.cell? ⟨b, 5, none⟩ = some (.pointer (some ⟨fp, 0, none⟩)) ∧ X.cell? ⟨fp, 0, none⟩ = some (.string nm) ∧ X.cell? ⟨w.heap.size, 0, none⟩ = some (.int .u32 o) ∧ X.cell? ⟨w.heap.size, 1, none⟩ = some (.int .u32 l) ∧ X.cell? ⟨b, 20, none⟩ = some (.int .i64 lg)) → Below X.heap.size X Y →
        (Y.cell? ⟨b, 5, none⟩ = some (.pointer (some ⟨fp, 0, none⟩)) ∧ Y.cell? ⟨fp, 0, none⟩ = some (.string nm) ∧ Y.cell? ⟨w.heap.size, 0, none⟩ = some (.int .u32 o) ∧ Y.cell? ⟨w.heap.size, 1, none⟩ = some (.int .u32 l) ∧ Y.cell? ⟨b, 20, none⟩ = some (.int .i64 lg))) := fun X Y h hb =>
      ⟨keepc hb h.1, keepc hb h.2.1, keepc hb h.2.2.1, keepc hb h.2.2.2.1, keepc hb h.2.2.2.2⟩
    go_region_held3 (fun W' => W'.cell? ⟨b, 5, none⟩ = some (.pointer (some ⟨fp, 0, none⟩)) ∧ W'.cell? ⟨fp, 0, none⟩ = some (.string nm) ∧ W'.cell? ⟨w.heap.size, 0, none⟩ = some (.int .u32 o) ∧ W'.cell? ⟨w.heap.size, 1, none⟩ = some (.int .u32 l) ∧ W'.cell? ⟨b, 20, none⟩ = some (.int .i64 lg))
          (first | exact kB.out _ _ ⟨c5, cf, p0, p1, c20⟩ (Below.drew (Below.refl _ _)) | exact kB.out _ _ ⟨c5, cf, p0, p1, c20⟩ (Below.drew (Below.drew (Below.refl _ _))) | exact kB.out _ _ ⟨c5, cf, p0, p1, c20⟩ hW3 | exact kB.out _ _ ⟨c5, cf, p0, p1, c20⟩ (Below.drew hW3) | exact kB.out _ _ ⟨c5, cf, p0, p1, c20⟩ hW2 | exact kB.out _ _ ⟨c5, cf, p0, p1, c20⟩ (Below.drew hW2))
          (first
            | (refine step_sprintf rfl _ _ _ rfl HFM.out rfl rfl ?_; intro s)
            | (go_at_call 24; refine (bits_any _ _).mono ?_; rintro e w2 ⟨rfl, hw2⟩; have hq2 : w2.cell? ⟨W.heap.size, 0, none⟩ = some (.int .i64 T) := (by rw [hw2]; exact (Bk.newAt (g := W.heap.size) (t := 34) (cs := #[.int .i64 T]) (by simp)).cells 0); have hW2 : Below W.heap.size W w2 := (by rw [hw2]; exact Below.alloc (by first | exact Below.drew (Below.drew (Below.refl _ _)) | exact Below.drew (Below.refl _ _)) (by simp) _); have hl2 : W.heap.size + 1 = w2.heap.size := (by rw [hw2]; simp); clear hw2)
            | (go_at_call 23; refine (collect_any W.heap.size T _ (by first | omega | (simp; omega)) (by first | exact hq2 | simpa using hq2)).mono ?_; rintro e w3 ⟨v, rfl, hrow, hb3⟩; obtain ⟨a, c, rfl⟩ := own_slice hrow; have hW3 : Below W.heap.size W w3 := (by first | exact hW2.trans (hb3.mono (by omega)) | exact hW2.drew.trans (hb3.mono (by simp; omega))); have hr3 := own_base hrow (base' := W.heap.size) (by first | omega | (simp; omega)); clear hrow hr3 hb3)
            | (go_at_call 21; refine (errPass_some (by first | exact H.out.keep hW3 | exact H.out.keep (Below.drew hW3)) _ _).mono ?_; rintro e w4 ⟨rfl, rfl⟩))
    all_goals
      go_end0
      first
        | exact ⟨rfl, HG.out.trans (hW3.mono HG.out.size)⟩
        | exact ⟨rfl, HG.out.trans (hW3.drew.mono HG.out.size)⟩
end Go.Proofs.YtimaobpcefgdkaaFmt
