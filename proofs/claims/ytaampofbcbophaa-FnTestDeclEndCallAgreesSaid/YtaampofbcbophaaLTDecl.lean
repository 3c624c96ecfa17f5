/- The walk of FnTestDeclEndCallAgrees. -/
import Derived.Test.YtaampofbcbophaaTDecl
import Derived.Test.YtaampofbcbophaaStep
import Derived.Deep.RegionHeld3
namespace Go.Proofs.Ytaampofbcbophaa
open Go.RowKit
/-- The element at place j: a word of one literal that ends at (fo j, fl j). -/
def El146 (fo fl : Nat → Int) (j : Nat) (v : Value) (W : World) : Prop := ∃ wd : Nat, v = .pointer (some ⟨wd, 0, none⟩) ∧ LitW W wd 0 0 (fo j) (fl j)
theorem El146.keep {fo fl : Nat → Int} {j : Nat} {v : Value} {W W1 : World} (h : El146 fo fl j v W) (hb : Below W.heap.size W W1) : El146 fo fl j v W1 := by
  obtain ⟨wd, hv, h⟩ := h
  exact ⟨wd, hv, h.keep hb⟩
theorem info146 : (Try.prog.info? 41).map (fun i => (i.zero, i.size, i.bytes)) = some (some (.pointer none), 1, 8) := by kernel_rfl
def Rel146 (W2 : World) (n : Nat) (fo fl : Nat → Int) (v i : Value) (wr : World) : Prop :=
  ∃ k : Nat, k ≤ n ∧ i = .int .i64 k ∧ v = .slice (some ⟨W2.heap.size, 0, none⟩) k n ∧ RowOf wr W2.heap.size W2.heap.size 41 k n (El146 fo fl) ∧ Below W2.heap.size W2 wr
/-- What one round leans on. -/
def In146 (W2 : World) (k n : Nat) (x3 x4 : Addr) (fo fl : Nat → Int) (W : World) : Prop :=
  W.cell? (x3.add k) = some (.int .u32 (fo k)) ∧ W.cell? (x4.add k) = some (.int .u32 (fl k)) ∧ RowOf W W2.heap.size W2.heap.size 41 k n (El146 fo fl) ∧ Below W2.heap.size W2 W
theorem In146.keep {W2 W W1 : World} {k n : Nat} {x3 x4 : Addr} {fo fl : Nat → Int} (h : In146 W2 k n x3 x4 fo fl W) (hb : Below W.heap.size W W1) : In146 W2 k n x3 x4 fo fl W1 :=
  ⟨keepc hb h.1, keepc hb h.2.1, h.2.2.1.keep hb (fun _ _ h => h.keep hb), bmore h.2.2.2 hb⟩
theorem El146.grown {fo fl : Nat → Int} {j : Nat} {v : Value} {W W1 : World} {base g k n : Nat} {ys : List Value} (h : El146 fo fl j v W) (ho : W.ownsRow base 41 1 (.slice (some ⟨g, 0, none⟩) k n) k ys) (hb : W.grownBy W1 (some g)) : El146 fo fl j v W1 := by
  obtain ⟨wd, hv, h⟩ := h
  exact ⟨wd, hv, h.grown (by decide) (by decide) (by decide) ho hb⟩
theorem In146.keep3 {W2 W W1 : World} {k n : Nat} {x3 x4 : Addr} {fo fl : Nat → Int} {v3 v4 : Value} (h : W.cell? (x3.add k) = some v3 ∧ W.cell? (x4.add k) = some v4 ∧ In146 W2 k n x3 x4 fo fl W) (hb : Below W.heap.size W W1) : W1.cell? (x3.add k) = some v3 ∧ W1.cell? (x4.add k) = some v4 ∧ In146 W2 k n x3 x4 fo fl W1 :=
  ⟨keepc hb h.1, keepc hb h.2.1, h.2.2.keep hb⟩
theorem block_of_add (a : Addr) (n : Nat) : (a.add n).block = a.block := by unfold Addr.add; split <;> rfl
theorem In146.row {W2 W : World} {k n : Nat} {x3 x4 : Addr} {fo fl : Nat → Int} {v3 v4 : Value} (h : W.cell? (x3.add k) = some v3 ∧ W.cell? (x4.add k) = some v4 ∧ In146 W2 k n x3 x4 fo fl W) : RowOf W W2.heap.size W2.heap.size 41 k n (El146 fo fl) := h.2.2.2.2.1
theorem In146.fst {W2 W : World} {k n : Nat} {x3 x4 : Addr} {fo fl : Nat → Int} {v3 v4 : Value} (h : W.cell? (x3.add k) = some v3 ∧ W.cell? (x4.add k) = some v4 ∧ In146 W2 k n x3 x4 fo fl W) : In146 W2 k n x3 x4 fo fl W := h.2.2
theorem In146.app {W2 W W1 : World} {k n : Nat} {x3 x4 : Addr} {fo fl : Nat → Int} {xs : List Value} {v : Value} (h : In146 W2 k n x3 x4 fo fl W) (hx3 : x3.block < W2.heap.size) (hx4 : x4.block < W2.heap.size)
    (ho : W.ownsRow W2.heap.size 41 1 (.slice (some ⟨W2.heap.size, 0, none⟩) k n) k xs) (he : ∀ j u, xs[j]? = some u → El146 fo fl j u W)
    (ho2 : W1.ownsRow W2.heap.size 41 1 (.slice (some ⟨W2.heap.size, 0, none⟩) (k + 1) n) (k + 1) (xs ++ [v])) (hg : W.grownBy W1 (some W2.heap.size)) : In146 W2 k n x3 x4 fo fl W1 :=
  ⟨cell_grown hg h.1 (by rw [block_of_add]; omega), cell_grown hg h.2.1 (by rw [block_of_add]; omega), RowOf.less he (own_ll ho) ho2 (fun _ _ q => q.grown ho hg), below_grown h.2.2.2 hg (Nat.le_refl _)⟩
theorem In146.app3 {W2 W W1 : World} {k n : Nat} {x3 x4 : Addr} {fo fl : Nat → Int} {v3 v4 : Value} {xs : List Value} {v : Value} (h : W.cell? (x3.add k) = some v3 ∧ W.cell? (x4.add k) = some v4 ∧ In146 W2 k n x3 x4 fo fl W) (hx3 : x3.block < W2.heap.size) (hx4 : x4.block < W2.heap.size)
    (ho : W.ownsRow W2.heap.size 41 1 (.slice (some ⟨W2.heap.size, 0, none⟩) k n) k xs) (he : ∀ j u, xs[j]? = some u → El146 fo fl j u W)
    (ho2 : W1.ownsRow W2.heap.size 41 1 (.slice (some ⟨W2.heap.size, 0, none⟩) (k + 1) n) (k + 1) (xs ++ [v])) (hg : W.grownBy W1 (some W2.heap.size)) : W1.cell? (x3.add k) = some v3 ∧ W1.cell? (x4.add k) = some v4 ∧ In146 W2 k n x3 x4 fo fl W1 :=
  ⟨cell_grown hg h.1 (by rw [block_of_add]; omega), cell_grown hg h.2.1 (by rw [block_of_add]; omega), h.2.2.app hx3 hx4 ho he ho2 hg⟩
/-- What the law's last lines lean on. -/
def Fin146 (w : World) (g m rl : Nat) (o lc : Int) (W : World) : Prop :=
  W.cell? ⟨g, m, none⟩ = some (.pointer (some ⟨rl, 0, none⟩)) ∧ LitW W rl 0 0 o lc ∧ Below w.heap.size w W
def Fin4 (w : World) (g m rl : Nat) (p q : Addr) (o lc : Int) (W : World) : Prop :=
  W.cell? p = some (.int .u32 o) ∧ W.cell? q = some (.int .u32 lc) ∧ Fin146 w g m rl o lc W
theorem Fin4.keep {w W W1 : World} {g m rl : Nat} {p q : Addr} {o lc : Int} (h : Fin4 w g m rl p q o lc W) (hb : Below W.heap.size W W1) : Fin4 w g m rl p q o lc W1 :=
  ⟨keepc hb h.1, keepc hb h.2.1, keepc hb h.2.2.1, h.2.2.2.1.keep hb, bmore h.2.2.2.2 hb⟩
theorem fin6_keep {w W W1 : World} {g m rl be : Nat} {p q : Addr} {o lc : Int} {v0 v1 v2 v3 : Value}
    (h : W.cell? ⟨be, 0, none⟩ = some v0 ∧ W.cell? ⟨be, 1, none⟩ = some v1 ∧ W.cell? p = some v2 ∧ W.cell? q = some v3 ∧ Fin146 w g m rl o lc W) (hb : Below W.heap.size W W1) :
    W1.cell? ⟨be, 0, none⟩ = some v0 ∧ W1.cell? ⟨be, 1, none⟩ = some v1 ∧ W1.cell? p = some v2 ∧ W1.cell? q = some v3 ∧ Fin146 w g m rl o lc W1 :=
  ⟨keepc hb h.1, keepc hb h.2.1, keepc hb h.2.2.1, keepc hb h.2.2.2.1, keepc hb h.2.2.2.2.1, h.2.2.2.2.2.1.keep hb, bmore h.2.2.2.2.2.2 hb⟩
theorem zzLast146_any (g m cap rl : Nat) (o lc : Int) (w : World) (hm : m ≤ 4611686018427387904) (hp : w.cell? ⟨g, m, none⟩ = some (.pointer (some ⟨rl, 0, none⟩))) (hl : LitW w rl 0 0 o lc) :
    Calls Try.prog 51 #[.slice (some ⟨g, 0, none⟩) (m + 1) cap] w fun e w' => e = .returned (P2 o lc) ∧ Below w.heap.size w w' := by
  have HL := Lib.hid hl
  clear hl
  have lp := World.block_lt_of_cell? _ _ hp
  go_enter Try.func51, Try.ntmps51
  go_wp2_with (go_at_call 86; refine (wordLastEnd_any g m cap rl o lc _ hm (by simp [go_sem, hp, lp]) (fun W hb => (HL.out.keep (by first | exact bmore (w := w) (by go_grown) hb)).end_)).mono ?_; rintro e w1 ⟨rfl, hb⟩; obtain ⟨hc, hf, hz, hB, hs⟩ := bcell (w := w) (by go_grown) hb; clear hb)
  refine bodyPost_ret (v := P2 o lc) (by simp [results, Try.results51, go_sem, hc]) rfl ⟨rfl, ?_⟩
  go_grown
theorem fin6_last {w W : World} {g m rl be : Nat} {p q : Addr} {o lc : Int} {v0 v1 v2 v3 : Value}
    (h : W.cell? ⟨be, 0, none⟩ = some v0 ∧ W.cell? ⟨be, 1, none⟩ = some v1 ∧ W.cell? p = some v2 ∧ W.cell? q = some v3 ∧ Fin146 w g m rl o lc W) (hm : m ≤ 65536) :
    Calls Try.prog 51 #[.slice (some ⟨g, 0, none⟩) (m + 1) (m + 1)] W fun e w' => e = .returned (P2 o lc) ∧ Below W.heap.size W w' :=
  zzLast146_any g m (m + 1) rl o lc W (by omega) h.2.2.2.2.1 h.2.2.2.2.2.1
set_option maxHeartbeats 8000000 in
set_option maxRecDepth 100000 in
theorem tdecl146 (a0 a1 : Int) (a2 : Bool) (a3 a4 : Option Addr) (la ca lb cb n : Nat) (fo fl : Nat → Int) (w : World) (b0 : 0 ≤ a0 ∧ a0 < 4294967296) (b1 : 0 ≤ a1 ∧ a1 < 4294967296) (h1 : la ≤ 65536) (h2 : lb ≤ 65536) (hn : n + 1 = min la lb)
    (hs3 : Src w a3 la (fun i => .int .u32 (fo i))) (hs4 : Src w a4 lb (fun i => .int .u32 (fl i))) (c3 : a3 = none → ca = 0) (c4 : a4 = none → cb = 0) :
    Calls Try.prog 8 #[.int .u32 a0, .int .u32 a1, .bool a2, .slice a3 la ca, .slice a4 lb cb] w fun e w' => e = .returned (.bool true) ∧ Below w.heap.size w w' := by
  obtain ⟨i0, hi, hz0, hz1, hz2⟩ := info_parts info146
  have hi2 := Lib.hid hi
  have hz0' := Lib.hid hz0
  have hz1' := Lib.hid hz1
  have hz2' := Lib.hid hz2
  have HN := Lib.hid hn
  have H3 := Lib.hid hs3
  have H4 := Lib.hid hs4
  clear hi hz0 hz1 hz2 hs3 hs4 hn
  have h1' : ¬ (65536 : Int) < (la : Int) := by omega
  have h2' : ¬ (65536 : Int) < (lb : Int) := by omega
  go_enter Try.func8, Try.ntmps8
  go_wp2_with fail
  refine (zzBytes146_any _ _ _ _ _ _ _ _ _ _ (by omega) (by omega)).mono ?_
  rintro e w' ⟨b, rfl, rfl⟩
  cases b
  · go_wp2
    go_ret
    exact ⟨rfl, Below.refl _ _⟩
  go_wp2_with fail
  refine (zzMin146_any _ _ _).mono ?_
  rintro e w' ⟨rfl, rfl⟩
  rw [← HN.out]
  have n0 : (((n + 1 : Nat) : Int) == 0) = false := by simp; omega
  go_wp2_with fail
  refine (n010_146_zzCopyU32_any a3 la ca fo _ H3.out c3 (by omega)).mono ?_
  rintro e w1 ⟨A3, rfl, s3, hb⟩
  have s4 := H4.out.keep hb
  clear H3 H4
  have B1 := hb
  have S3 := Lib.hid s3
  have S4 := Lib.hid s4
  clear hb s3 s4
  go_wp2_with fail
  refine (n010_146_zzCopyU32_any a4 lb cb fl _ S4.out c4 (by omega)).mono ?_
  rintro e W2 ⟨A4, rfl, s4, hb⟩
  have s3 := S3.out.keep hb
  have B2 := bmore B1 hb
  clear hb S3 S4 B1
  have S3 := Lib.hid s3
  have S4 := Lib.hid s4
  clear s3 s4 n0
  have nc : ((n + 1 : Nat) : Int) = (n : Int) + 1 := by omega
  go_wp2_with (at_make; refine wpList_make_own _ rfl _ _ 87 rfl W2.heap.size 41 i0 (.pointer none) 1 Try.underlying87 hi2.out hz0'.out hz1'.out .i64 .i64 _ (n + 1) rfl rfl (by omega) ?c1 ?c2 ?c3 ?_; rotate_left 3; intro wm hown hgr)
  case c1 => have := hz2'.out; have := HN.out; rw [hz2'.out]; omega
  case c2 => have := HN.out; unfold maxLen; omega
  have hBm : Below W2.heap.size W2 wm := ⟨hgr.os, hgr.tape, hgr.output, hgr.size, fun i hi => hgr.block i hi (by simp)⟩
  have hr0 : RowOf wm W2.heap.size W2.heap.size 41 0 (n + 1) (El146 fo fl) := ⟨[], hown, fun j v hj => by simp at hj⟩
  clear hown hgr nc
  case c3 => exact Nat.le_refl _
  go_loopw [12, 13] (fun v i wr => Rel146 W2 (n + 1) fo fl v i wr) (fun _ i _ => n + 1 - (intOf i).toNat)
  case atStart => exact ⟨0, by omega, by go_num, rfl, hr0, hBm⟩
  case round =>
    clear hr0 hBm
    obtain ⟨k, hk, rfl, rfl, hrow, hB⟩ := hrel
    by_cases hlt : k < n + 1
    · have hmin := HN.out
      obtain ⟨x3, rfl, q3⟩ := (S3.out.keep hB).at_ (i := k) (by omega)
      obtain ⟨x4, rfl, q4⟩ := (S4.out.keep hB).at_ (i := k) (by omega)
      have hlt' : (k : Int) < (n : Int) + 1 := by omega
      have j3 : (k : Int) < (la : Int) := by omega
      have j4 : (k : Int) < (lb : Int) := by omega
      have j0 : (0 : Int) ≤ (k : Int) := by omega
      clear hmin
      have hx3 : x3.block < W2.heap.size := by
        rcases S3.out with ⟨h, _⟩ | ⟨y, h, hc⟩
        · cases h
        · injection h with h; subst h
          have := World.block_lt_of_cell? _ _ (hc 0 (by omega))
          rwa [block_of_add] at this
      have hx4 : x4.block < W2.heap.size := by
        rcases S4.out with ⟨h, _⟩ | ⟨y, h, hc⟩
        · cases h
        · injection h with h; subst h
          have := World.block_lt_of_cell? _ _ (hc 0 (by omega))
          rwa [block_of_add] at this
      have hIn : In146 W2 k (n + 1) x3 x4 fo fl wr := ⟨q3, q4, hrow, hB⟩
      clear hrow hB
      go_wp2_with fail
      go_region_held3 (fun W => W.cell? (x3.add k) = some (.int .u32 (fo k)) ∧ W.cell? (x4.add k) = some (.int .u32 (fl k)) ∧ In146 W2 k (n + 1) x3 x4 fo fl W) (first | exact In146.keep3 ⟨q3, q4, hIn⟩ ⟨rfl, rfl, rfl, Nat.le_refl _, fun _ _ => rfl⟩ | exact In146.keep3 (by assumption) (by assumption) | exact In146.app3 (by assumption) hx3 hx4 ho he ho2 hg2 | exact In146.keep3 (by assumption) (by go_grown))
        (first | (go_at_call 48; refine (mkPos146_any _ _ _).mono ?_; rintro e w' ⟨rfl, hb⟩) | (go_at_call 47; refine (litWord146_any _ _ _).mono ?_; rintro e wl ⟨bl, rfl, kl, hb⟩) | (have hS := In146.row (by assumption); have hI := In146.fst (by assumption); obtain ⟨xs, ho, he⟩ := hS; refine step_append_fits _ (by rfl) _ _ 87 (by rfl) W2.heap.size 41 i0 1 Try.underlying87 hi2.out hz1'.out W2.heap.size k (n + 1) xs (by rfl) ho ⟨wl.heap.size, 0, none⟩ 1 1 [.pointer (some ⟨bl, 0, none⟩)] (by rfl) (by rfl) (news_one (Bk.fresh _ _ _)) (by simp [Value.oneCell']) (by omega) ?_; intro w2 ho2 hg2))
      have hIn2 : In146 W2 k (n + 1) x3 x4 fo fl w2 := (In146.app hI hx3 hx4 ho he ho2 hg2)
      go_wp2
      go_roundw
      case rel => exact ⟨k + 1, by omega, by go_num, rfl, RowOf.push he (own_ll ho) ⟨bl, rfl, kl.keep (by go_grown)⟩ ho2 (fun j u h => h.grown ho hg2), hIn2.2.2.2⟩
      case measure => simp [intOf]; omega
    · obtain rfl : k = n + 1 := by omega
      obtain ⟨vl, cl, wd, rfl, kl⟩ := hrow.at_ (j := n) (by omega)
      have hmin := HN.out
      obtain ⟨x3, rfl, q3⟩ := (S3.out.keep hB).at_ (i := n) (by omega)
      obtain ⟨x4, rfl, q4⟩ := (S4.out.keep hB).at_ (i := n) (by omega)
      have F : Fin4 w W2.heap.size n wd (x3.add n) (x4.add n) (fo n) (fl n) wr := ⟨q3, q4, cl, kl, bmore B2 hB⟩
      have ng : ¬ ((n : Int) + 1 < (n : Int) + 1) := by omega
      have j3 : (n : Int) < (la : Int) := by omega
      have j4 : (n : Int) < (lb : Int) := by omega
      have j0 : (0 : Int) ≤ (n : Int) := by omega
      have jn : n ≤ 65536 := by omega
      clear q3 q4 cl kl hrow hB hmin S3 S4 HN
      go_wp2_with fail
      refine (mkPos146_any _ _ _).mono ?_
      rintro e v1 ⟨rfl, hb⟩
      have F := F.keep hb
      clear hb
      go_wp2_with fail
      refine (mkPos146_any _ _ _).mono ?_
      rintro e v2 ⟨rfl, hb⟩
      have F := F.keep hb
      clear hb
      go_wp2_with fail
      refine (callStmt146_any _ _ _ _ _ ⟨_, _, _, rfl⟩).mono ?_
      rintro e v3 ⟨bs, rfl, ⟨bc, kS, kC⟩, hb⟩
      have F := F.keep hb
      clear hb
      have HS := Lib.hid kS
      have HC := Lib.hid kC
      clear kS kC
      go_wp2_with fail
      refine (TestDecl_End_any v3.heap.size bs (fo n) (fl n) _ (by simp [go_sem]) (fun W hb => Stmt_End_CallExpr bs bc _ _ _ _ _ _ _ _ _ _ _ W ((HS.out.alloc _).keep hb) (vld_no (.inr rfl)) (by omega) (by omega) (by omega) (by omega) (fun W1 hb1 => CallExpr_End_args bc W2.heap.size n (n + 1) wd _ _ W1 (by rw [(((HC.out.alloc _).keep hb).keep hb1).cells]; rfl) (by omega) (((F.keep (by exact (Below.refl _ _).alloc (Nat.le_refl _) _)).keep hb).keep hb1).2.2.1 (fun W3 hb3 => ((((F.keep (by exact (Below.refl _ _).alloc (Nat.le_refl _) _)).keep hb).keep hb1).keep hb3).2.2.2.1.end_)))).mono ?_
      rintro e v4 ⟨rfl, hb⟩
      have F := (F.keep (by exact (Below.refl _ _).alloc (Nat.le_refl _) _)).keep hb
      clear hb HS HC
      go_wp2_with fail
      refine wp_gen (S := fun W => W.cell? ⟨v4.heap.size, 0, none⟩ = some (.int .u32 (fo n)) ∧ W.cell? ⟨v4.heap.size, 1, none⟩ = some (.int .u32 (fl n)) ∧ W.cell? (x3.add n) = some (.int .u32 (fo n)) ∧ W.cell? (x4.add n) = some (.int .u32 (fl n)) ∧ Fin146 w W2.heap.size n wd (fo n) (fl n) W) ⟨by simp [go_sem], by simp [go_sem], (F.keep (by exact (Below.refl _ _).alloc (Nat.le_refl _) _)).1, (F.keep (by exact (Below.refl _ _).alloc (Nat.le_refl _) _)).2.1, (F.keep (by exact (Below.refl _ _).alloc (Nat.le_refl _) _)).2.2⟩ ?_
      intro W hW
      clear F
      have iw : IntKind.i64.wrap (n : Int) = (n : Int) := IntWalk.i64_in _ (by omega)
      go_region_held3 (fun W => W.cell? ⟨v4.heap.size, 0, none⟩ = some (.int .u32 (fo n)) ∧ W.cell? ⟨v4.heap.size, 1, none⟩ = some (.int .u32 (fl n)) ∧ W.cell? (x3.add n) = some (.int .u32 (fo n)) ∧ W.cell? (x4.add n) = some (.int .u32 (fl n)) ∧ Fin146 w W2.heap.size n wd (fo n) (fl n) W) (first | exact fin6_keep hW ⟨rfl, rfl, rfl, Nat.le_refl _, fun _ _ => rfl⟩ | exact fin6_keep (by assumption) (by assumption))
        (first | (go_at_call 51; refine (fin6_last (by assumption) jn).mono ?_; rintro e w' ⟨rfl, hb⟩) | (go_at_call 52; refine (posOffs146_any _ _ _).mono ?_; rintro e w' ⟨rfl, hb⟩) | (go_at_call 53; refine (posLineCol146_any _ _ _).mono ?_; rintro e w' ⟨rfl, hb⟩))
      rename_i hH
      have hBB := hH.2.2.2.2.2.2
      clear hH
      go_wp2
      go_ret
      exact ⟨rfl, hBB⟩
theorem walkFnTestDeclEndCallAgrees (a0 : Int) (a1 : Int) (a2 : Bool) (a3 : Option Addr) (len3 cap3 : Nat) (z3 : List Int) (a4 : Option Addr) (len4 cap4 : Nat) (z4 : List Int) (w : World) (w0 : (Lit.int .u32 a0).wf = true) (w1 : (Lit.int .u32 a1).wf = true) (w3 : IsRow .u32 w a3 len3 cap3 z3) (w4 : IsRow .u32 w a4 len4 cap4 z4) :
    Calls Try.prog 8 #[.int .u32 a0, .int .u32 a1, .bool a2, .slice a3 len3 cap3, .slice a4 len4 cap4] w fun e w' => e = .returned (.bool true) ∧ Below w.heap.size w w' := by
  have b0 := bounds_u32 w0
  have b1 := bounds_u32 w1
  have l3 := w3.len
  have l4 := w4.len
  by_cases h1 : 65536 < len3
  · clear w3 w4
    have h1' : (65536 : Int) < (len3 : Int) := by omega
    go_enter Try.func8, Try.ntmps8
    go_wp2_with fail
    refine (zzBytes146_any _ _ _ _ _ _ _ _ _ _ (by omega) (by omega)).mono ?_
    rintro e w' ⟨b, rfl, rfl⟩
    cases b <;> (go_wp2_with fail; go_ret; exact ⟨rfl, Below.refl _ _⟩)
  by_cases h2 : 65536 < len4
  · clear w3 w4
    have h1' : ¬ (65536 : Int) < (len3 : Int) := by omega
    have h2' : (65536 : Int) < (len4 : Int) := by omega
    go_enter Try.func8, Try.ntmps8
    go_wp2_with fail
    refine (zzBytes146_any _ _ _ _ _ _ _ _ _ _ (by omega) (by omega)).mono ?_
    rintro e w' ⟨b, rfl, rfl⟩
    cases b <;> (go_wp2_with fail; go_ret; exact ⟨rfl, Below.refl _ _⟩)
  by_cases h3 : min len3 len4 = 0
  · have h1' : ¬ (65536 : Int) < (len3 : Int) := by omega
    have h2' : ¬ (65536 : Int) < (len4 : Int) := by omega
    have HZ := Lib.hid h3
    clear w3 w4 h3
    go_enter Try.func8, Try.ntmps8
    go_wp2_with fail
    refine (zzBytes146_any _ _ _ _ _ _ _ _ _ _ (by omega) (by omega)).mono ?_
    rintro e w' ⟨b, rfl, rfl⟩
    cases b
    · go_wp2
      go_ret
      exact ⟨rfl, Below.refl _ _⟩
    go_wp2_with fail
    refine (zzMin146_any _ _ _).mono ?_
    rintro e w' ⟨rfl, rfl⟩
    rw [HZ.out]
    go_wp2
    go_ret
    exact ⟨rfl, Below.refl _ _⟩
  obtain ⟨n, hn⟩ : ∃ n, n + 1 = min len3 len4 := ⟨min len3 len4 - 1, by omega⟩
  exact tdecl146 a0 a1 a2 a3 a4 len3 cap3 len4 cap4 n _ _ w (by omega) (by omega) (by omega) (by omega) hn w3.src w4.src (fun h => by subst h; exact w3.nilcap.2) (fun h => by subst h; exact w4.nilcap.2)
end Go.Proofs.Ytaampofbcbophaa
