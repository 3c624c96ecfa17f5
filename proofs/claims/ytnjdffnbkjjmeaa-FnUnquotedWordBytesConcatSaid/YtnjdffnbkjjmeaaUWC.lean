/- zzBuildWord: a word of parts; zzWordCount. -/
import Derived.Test.YtnjdffnbkjjmeaaUWB
import Derived.Test.YtnjdffnbkjjmeaaStep
import Derived.Deep.RegionHeld3
namespace Go.Proofs.Ytnjdffnbkjjmeaa
open Go.RowKit Go.PlainAid
theorem info144w : (Try.prog.info? 135).map (fun i => (i.zero, i.size, i.bytes)) = some (some .nilIface, 1, 16) := by kernel_rfl
/-- The element at place j of a word that zzBuildWord laid; g is the row's block. -/
def El144 (g : Nat) (K : Nat → Int) (S : Nat → ByteArray) (j : Nat) (v : Value) (W : World) : Prop := ∃ (lo : Nat) (t : TypeId) (b : Nat), g < lo ∧ v = .iface t (.pointer (some ⟨b, 0, none⟩)) ∧ PartU lo (K j % 5) (S j) v W
theorem El144.keep {g : Nat} {K : Nat → Int} {S : Nat → ByteArray} {j : Nat} {v : Value} {W W1 : World} (h : El144 g K S j v W) (hb : Below W.heap.size W W1) : El144 g K S j v W1 := by
  obtain ⟨lo, t, b, h1, h2, h3⟩ := h
  exact ⟨lo, t, b, h1, h2, h3.keep hb⟩
theorem El144.grown {g : Nat} {K : Nat → Int} {S : Nat → ByteArray} {j : Nat} {v : Value} {W W1 : World} (h : El144 g K S j v W) (hb : W.grownBy W1 (some g)) : El144 g K S j v W1 := by
  obtain ⟨lo, t, b, h1, h2, h3⟩ := h
  exact ⟨lo, t, b, h1, h2, h3.grown hb h1⟩
theorem wordCount_any (a b : Option Addr) (n c m d : Nat) (w : World) :
    Calls Try.prog 65 #[.slice a n c, .slice b m d] w fun e w' => e = .returned (.int .i64 ((min n m : Nat) : Int)) ∧ w = w' := by
  by_cases h : m < n
  · have e : min n m = m := by omega
    rw [e]
    have h' : (m : Int) < (n : Int) := by omega
    clear e
    go_enter Try.func65, Try.ntmps65
    go_wp2
    go_ret
    exact ⟨rfl, rfl⟩
  · have e : min n m = n := by omega
    rw [e]
    have h' : ¬ (m : Int) < (n : Int) := by omega
    clear e
    go_enter Try.func65, Try.ntmps65
    go_wp2
    go_ret
    exact ⟨rfl, rfl⟩
def Rel144 (W2 : World) (n : Nat) (K : Nat → Int) (S : Nat → ByteArray) (v i : Value) (wr : World) : Prop :=
  ∃ k : Nat, k ≤ n ∧ i = .int .i64 k ∧ v = .slice (some ⟨W2.heap.size, 0, none⟩) k n ∧ RowOf wr W2.heap.size W2.heap.size 135 k n (El144 W2.heap.size K S) ∧ Below W2.heap.size W2 wr
def In144 (W2 : World) (k n : Nat) (x3 x4 : Addr) (K : Nat → Int) (S : Nat → ByteArray) (W : World) : Prop :=
  W.cell? (x3.add k) = some (.int .u8 (K k)) ∧ W.cell? (x4.add k) = some (.string (S k)) ∧ RowOf W W2.heap.size W2.heap.size 135 k n (El144 W2.heap.size K S) ∧ Below W2.heap.size W2 W
theorem In144.keep {W2 W W1 : World} {k n : Nat} {x3 x4 : Addr} {K : Nat → Int} {S : Nat → ByteArray} (h : In144 W2 k n x3 x4 K S W) (hb : Below W.heap.size W W1) : In144 W2 k n x3 x4 K S W1 :=
  ⟨keepc hb h.1, keepc hb h.2.1, h.2.2.1.keep hb (fun _ _ h => h.keep hb), bmore h.2.2.2 hb⟩
theorem In144.keep3 {W2 W W1 : World} {k n : Nat} {x3 x4 : Addr} {K : Nat → Int} {S : Nat → ByteArray} {v3 v4 : Value} (h : W.cell? (x3.add k) = some v3 ∧ W.cell? (x4.add k) = some v4 ∧ In144 W2 k n x3 x4 K S W) (hb : Below W.heap.size W W1) : W1.cell? (x3.add k) = some v3 ∧ W1.cell? (x4.add k) = some v4 ∧ In144 W2 k n x3 x4 K S W1 :=
  ⟨keepc hb h.1, keepc hb h.2.1, h.2.2.keep hb⟩
theorem blk_of_add (a : Addr) (n : Nat) : (a.add n).block = a.block := by unfold Addr.add; split <;> rfl
theorem In144.row {W2 W : World} {k n : Nat} {x3 x4 : Addr} {K : Nat → Int} {S : Nat → ByteArray} {v3 v4 : Value} (h : W.cell? (x3.add k) = some v3 ∧ W.cell? (x4.add k) = some v4 ∧ In144 W2 k n x3 x4 K S W) : RowOf W W2.heap.size W2.heap.size 135 k n (El144 W2.heap.size K S) := h.2.2.2.2.1
theorem In144.fst {W2 W : World} {k n : Nat} {x3 x4 : Addr} {K : Nat → Int} {S : Nat → ByteArray} {v3 v4 : Value} (h : W.cell? (x3.add k) = some v3 ∧ W.cell? (x4.add k) = some v4 ∧ In144 W2 k n x3 x4 K S W) : In144 W2 k n x3 x4 K S W := h.2.2
theorem In144.lt {W2 W : World} {k n : Nat} {x3 x4 : Addr} {K : Nat → Int} {S : Nat → ByteArray} {v3 v4 : Value} (h : W.cell? (x3.add k) = some v3 ∧ W.cell? (x4.add k) = some v4 ∧ In144 W2 k n x3 x4 K S W) : W2.heap.size < W.heap.size := h.2.2.2.2.1.lt.2
theorem In144.app {W2 W W1 : World} {k n : Nat} {x3 x4 : Addr} {K : Nat → Int} {S : Nat → ByteArray} {xs : List Value} {v : Value} (h : In144 W2 k n x3 x4 K S W) (hx3 : x3.block < W2.heap.size) (hx4 : x4.block < W2.heap.size)
    (ho : W.ownsRow W2.heap.size 135 1 (.slice (some ⟨W2.heap.size, 0, none⟩) k n) k xs) (he : ∀ j u, xs[j]? = some u → El144 W2.heap.size K S j u W)
    (ho2 : W1.ownsRow W2.heap.size 135 1 (.slice (some ⟨W2.heap.size, 0, none⟩) (k + 1) n) (k + 1) (xs ++ [v])) (hg : W.grownBy W1 (some W2.heap.size)) : In144 W2 k n x3 x4 K S W1 :=
  ⟨cell_grown hg h.1 (by rw [blk_of_add]; omega), cell_grown hg h.2.1 (by rw [blk_of_add]; omega), RowOf.less he (own_ll ho) ho2 (fun _ _ q => q.grown hg), below_grown h.2.2.2 hg (Nat.le_refl _)⟩
theorem In144.app3 {W2 W W1 : World} {k n : Nat} {x3 x4 : Addr} {K : Nat → Int} {S : Nat → ByteArray} {v3 v4 : Value} {xs : List Value} {v : Value} (h : W.cell? (x3.add k) = some v3 ∧ W.cell? (x4.add k) = some v4 ∧ In144 W2 k n x3 x4 K S W) (hx3 : x3.block < W2.heap.size) (hx4 : x4.block < W2.heap.size)
    (ho : W.ownsRow W2.heap.size 135 1 (.slice (some ⟨W2.heap.size, 0, none⟩) k n) k xs) (he : ∀ j u, xs[j]? = some u → El144 W2.heap.size K S j u W)
    (ho2 : W1.ownsRow W2.heap.size 135 1 (.slice (some ⟨W2.heap.size, 0, none⟩) (k + 1) n) (k + 1) (xs ++ [v])) (hg : W.grownBy W1 (some W2.heap.size)) : W1.cell? (x3.add k) = some v3 ∧ W1.cell? (x4.add k) = some v4 ∧ In144 W2 k n x3 x4 K S W1 :=
  ⟨cell_grown hg h.1 (by rw [blk_of_add]; omega), cell_grown hg h.2.1 (by rw [blk_of_add]; omega), h.2.2.app hx3 hx4 ho he ho2 hg⟩
theorem buildPart_at {W2 W : World} (hW : W2.heap.size < W.heap.size) (k : Int) (hk : 0 ≤ k ∧ k ≤ 255) (s : ByteArray) :
    Calls Try.prog 84 #[.int .u8 k, .string s] W fun e w' => ∃ (lo : Nat) (t : TypeId) (b : Nat), e = .returned (.iface t (.pointer (some ⟨b, 0, none⟩))) ∧ W2.heap.size < lo ∧ PartU lo (k % 5) s (.iface t (.pointer (some ⟨b, 0, none⟩))) w' ∧ Below W.heap.size W w' := by
  refine (buildPart_any k hk s W).mono ?_
  rintro e w' ⟨t, b, rfl, hp, hb⟩
  exact ⟨_, t, b, rfl, hW, hp, hb⟩
/-- What zzBuildWord answers. -/
def BW144 (w : World) (n : Nat) (K : Nat → Int) (S : Nat → ByteArray) (e : Ending) (w' : World) : Prop :=
  ∃ wd g : Nat, e = .returned (.pointer (some ⟨wd, 0, none⟩)) ∧ Bk w' wd 129 #[.slice (some ⟨g, 0, none⟩) n n] ∧ RowOf w' g g 135 n n (El144 g K S) ∧ Below w.heap.size w w'
theorem src_blk {w : World} {a : Option Addr} {n : Nat} {f : Nat → Value} (h : Src w a n f) (hn : 0 < n) : ∃ x, a = some x ∧ x.block < w.heap.size := by
  obtain ⟨x, hx, hc⟩ := h.at_ hn
  refine ⟨x, hx, ?_⟩
  have := World.block_lt_of_cell? _ _ hc
  rwa [blk_of_add] at this
set_option maxHeartbeats 8000000 in
set_option maxRecDepth 100000 in
theorem buildWord144 (a3 a4 : Option Addr) (la ca lb cb : Nat) (K : Nat → Int) (S : Nat → ByteArray) (w : World) (h3 : Src w a3 la (fun i => .int .u8 (K i))) (h4 : Src w a4 lb (fun i => .string (S i))) (hk : ∀ i, i < la → 0 ≤ K i ∧ K i ≤ 255) (b1 : la ≤ 1048576) (b2 : lb ≤ 1048576) :
    Calls Try.prog 67 #[.slice a3 la ca, .slice a4 lb cb] w (BW144 w (min la lb) K S) := by
  obtain ⟨i0, hi, hz0, hz1, hz2⟩ := info_parts info144w
  have hi2 := Lib.hid hi
  have hz0' := Lib.hid hz0
  have hz1' := Lib.hid hz1
  have hz2' := Lib.hid hz2
  have S3 := Lib.hid h3
  have S4 := Lib.hid h4
  have HK := Lib.hid hk
  obtain ⟨n, hn⟩ : ∃ n, n = min la lb := ⟨_, rfl⟩
  have HN := Lib.hid hn
  have n1 : n ≤ 1048576 := by omega
  rw [← hn]
  clear hi hz0 hz1 hz2 h3 h4 hk hn
  go_enter Try.func67, Try.ntmps67
  go_wp2_with fail
  refine (wordCount_any _ _ _ _ _ _ _).mono ?_
  rintro e w' ⟨rfl, rfl⟩
  rw [← HN.out]
  go_wp2_with (at_make; refine wpList_make_own _ rfl _ _ 126 rfl w.heap.size 135 i0 .nilIface 1 Try.underlying126 hi2.out hz0'.out hz1'.out .i64 .i64 _ n rfl rfl (by omega) ?c1 ?c2 ?c3 ?_; rotate_left 3; intro wm hown hgr)
  case c1 => have := hz2'.out; rw [hz2'.out]; omega
  case c2 => unfold maxLen; omega
  have hBm : Below w.heap.size w wm := ⟨hgr.os, hgr.tape, hgr.output, hgr.size, fun i hi => hgr.block i hi (by simp)⟩
  have hr0 : RowOf wm w.heap.size w.heap.size 135 0 n (El144 w.heap.size K S) := ⟨[], hown, fun j v hj => by simp at hj⟩
  clear hown hgr
  case c3 => exact Nat.le_refl _
  go_loopw [6, 7] (fun v i wr => Rel144 w n K S v i wr) (fun _ i _ => n - (intOf i).toNat)
  case atStart => exact ⟨0, by omega, by go_num, rfl, hr0, hBm⟩
  case round =>
    clear hr0 hBm
    obtain ⟨k, hk, rfl, rfl, hrow, hB⟩ := hrel
    by_cases hlt : k < n
    · have hmin := HN.out
      obtain ⟨x3, hx3e, hx3⟩ := src_blk S3.out (by omega)
      obtain ⟨x4, hx4e, hx4⟩ := src_blk S4.out (by omega)
      obtain ⟨y3, hy3, q3⟩ := (S3.out.keep hB).at_ (i := k) (by omega)
      obtain ⟨y4, hy4, q4⟩ := (S4.out.keep hB).at_ (i := k) (by omega)
      rw [hx3e] at hy3
      rw [hx4e] at hy4
      injection hy3 with hy3
      injection hy4 with hy4
      subst hy3 hy4 hx3e hx4e
      have hkb := HK.out k (by omega)
      have hlt' : (k : Int) < (n : Int) := by omega
      have j3 : (k : Int) < (la : Int) := by omega
      have j4 : (k : Int) < (lb : Int) := by omega
      have j0 : (0 : Int) ≤ (k : Int) := by omega
      clear hmin
      have hIn : In144 w k n x3 x4 K S wr := ⟨q3, q4, hrow, hB⟩
      clear hrow hB
      go_wp2_with fail
      go_region_held3 (fun W => W.cell? (x3.add k) = some (.int .u8 (K k)) ∧ W.cell? (x4.add k) = some (.string (S k)) ∧ In144 w k n x3 x4 K S W) (first | exact In144.keep3 ⟨q3, q4, hIn⟩ ⟨rfl, rfl, rfl, Nat.le_refl _, fun _ _ => rfl⟩ | exact In144.keep3 (by assumption) (by assumption) | exact In144.app3 (by assumption) hx3 hx4 ho he ho2 hg2 | exact In144.keep3 (by assumption) (by go_grown))
        (first | (go_at_call 84; refine (buildPart_at (In144.lt (by assumption)) _ hkb _).mono ?_; rintro e wl ⟨lo, t, bl, rfl, hlo, kl, hb⟩) | (have hS := In144.row (by assumption); have hI := In144.fst (by assumption); obtain ⟨xs, ho, he⟩ := hS; refine step_append_fits _ (by rfl) _ _ 126 (by rfl) w.heap.size 135 i0 1 Try.underlying126 hi2.out hz1'.out w.heap.size k n xs (by rfl) ho ⟨wl.heap.size, 0, none⟩ 1 1 [.iface t (.pointer (some ⟨bl, 0, none⟩))] (by rfl) (by rfl) (news_one (Bk.fresh _ _ _)) (by simp [Value.oneCell']) (by omega) ?_; intro w2 ho2 hg2))
      have hIn2 : In144 w k n x3 x4 K S w2 := (In144.app hI hx3 hx4 ho he ho2 hg2)
      go_wp2
      go_roundw
      case rel => exact ⟨k + 1, by omega, by go_num, rfl, RowOf.push he (own_ll ho) ⟨lo, t, bl, hlo, rfl, kl.keep (by go_grown)⟩ ho2 (fun j u h => h.grown hg2), hIn2.2.2.2⟩
      case measure => simp [intOf]; omega
    · obtain rfl : k = n := by omega
      have ng : ¬ ((k : Int) < (k : Int)) := by omega
      have HR := Lib.hid hrow
      clear hrow
      go_wp2
      go_ret
      exact ⟨_, _, rfl, Bk.fresh _ _ _, HR.out.keep (by go_grown) (fun _ _ h => h.keep (by go_grown)), hB.alloc hB.size _⟩
end Go.Proofs.Ytnjdffnbkjjmeaa
