/- buildWord: a word of literals, single quotes and double quotes. -/
import Derived.Test.YtimaobpcefgdkaaSrc
import Derived.Test.YtimaobpcefgdkaaRow
import Derived.Test.YtimaobpcefgdkaaStep
import Derived.IntWalk
namespace Go.Proofs.Ytimaobpcefgdkaa
open Go.RowKit
/-- The kind of part i. -/
def kdOf (lk : Nat) (f : Nat → Int) (i : Nat) : Int := if i < lk then f i % 3 else 0
theorem kdOf_bd (lk : Nat) (f : Nat → Int) (i : Nat) : 0 ≤ kdOf lk f i ∧ kdOf lk f i ≤ 2 := by unfold kdOf; split <;> omega
theorem mkPos12_any (o : Int) (w : World) (o0 : 0 ≤ o) (o1 : o < 4294967296) :
    Calls Try.prog 82 #[.int .u32 o] w fun e w' => e = .returned (P2 (npO o) (npL 1 (o + 1))) ∧ Below w.heap.size w w' := by
  go_enter Try.func82, Try.ntmps82
  go_wp2_with (go_at_call 84; refine (newPos_any _ _ _ _ (by omega) (by omega) (by omega) (by omega) (by omega) (by omega)).mono ?_; rintro e w1 ⟨rfl, hb⟩; obtain ⟨hc, hf, hz, hB, hs⟩ := bcell (w := w) (by go_grown) hb; clear hb)
  refine bodyPost_ret (v := P2 (npO o) (npL 1 (o + 1))) (by simp [results, Try.results82, go_sem, hc]) rfl ⟨rfl, ?_⟩
  go_grown
theorem partKind_any (a : Option Addr) (lk cap i : Nat) (f : Nat → Int) (w : World) (hs : Src w a lk (fun i => .int .u8 (f i))) (hf : ∀ j, j < lk → 0 ≤ f j ∧ f j ≤ 255) :
    Calls Try.prog 81 #[.slice a lk cap, .int .i64 (i : Int)] w fun e w' => e = .returned (.int .u8 (kdOf lk f i)) ∧ w = w' := by
  by_cases h : i < lk
  · rcases hs with ⟨_, h0⟩ | ⟨x, rfl, hc⟩
    · omega
    · have c0 := hc i h
      have l0 := World.block_lt_of_cell? _ _ c0
      have b0 := hf i h
      have i0 : (0 : Int) ≤ (i : Int) := by omega
      have i1 : (i : Int) < (lk : Int) := by omega
      have e1 : kdOf lk f i = f i % 3 := by unfold kdOf; rw [if_pos h]
      rw [e1]
      clear hc hf e1
      go_enter Try.func81, Try.ntmps81
      go_wp2
      go_ret
      exact ⟨by first | rfl | (congr 2; rw [Int.tmod_eq_emod_of_nonneg b0.1]), rfl⟩
  · have e1 : kdOf lk f i = 0 := by unfold kdOf; rw [if_neg h]
    have i1 : ¬ (i : Int) < (lk : Int) := by omega
    rw [e1]
    clear e1 hs hf h
    go_enter Try.func81, Try.ntmps81
    go_wp2
    go_ret
    exact ⟨rfl, rfl⟩
theorem Src.later {w W : World} {a : Option Addr} {n : Nat} {f : Nat → Value} (h : Src w a n f) (hb : Below w.heap.size w W) : Src W a n f := by
  rcases h with h | ⟨x, hx, hc⟩
  · exact .inl h
  · exact .inr ⟨x, hx, fun i hi => keepc hb (hc i hi)⟩
/-- What part j is. -/
def PEl (off : Nat → Int) (S : Nat → ByteArray) (K : Nat → Int) (j : Nat) (v : Value) (W : World) : Prop :=
  ∃ b : Nat, (K j = 0 ∧ v = .iface 28 (.pointer (some ⟨b, 0, none⟩)) ∧ Bk W b 33 #[.int .u32 (npO (off j)), .int .u32 (npL 1 (off j + 1)), .int .u32 (npO (off j + (S j).size)), .int .u32 (npL 1 (off j + (S j).size + 1)), .string (S j)]) ∨
    (K j = 1 ∧ v = .iface 127 (.pointer (some ⟨b, 0, none⟩)) ∧ Bk W b 129 #[.int .u32 (npO (off j)), .int .u32 (npL 1 (off j + 1)), .int .u32 (npO (off j + 1 + (S j).size)), .int .u32 (npL 1 (off j + 1 + (S j).size + 1)), .bool false, .string (S j)]) ∨
    (K j = 2 ∧ ∃ ps, v = .iface 130 (.pointer (some ⟨b, 0, none⟩)) ∧ Bk W b 132 #[.int .u32 (npO (off j)), .int .u32 (npL 1 (off j + 1)), .int .u32 (npO (off j + 1 + (S j).size)), .int .u32 (npL 1 (off j + 1 + (S j).size + 1)), .bool false, ps])
theorem PEl.keep {off : Nat → Int} {S : Nat → ByteArray} {K : Nat → Int} {j : Nat} {v : Value} {W W1 : World} (h : PEl off S K j v W) (hb : Below W.heap.size W W1) : PEl off S K j v W1 := by
  obtain ⟨b, ⟨h1, h2, h3⟩ | ⟨h1, h2, h3⟩ | ⟨h1, ps, h2, h3⟩⟩ := h
  · exact ⟨b, .inl ⟨h1, h2, h3.keep hb⟩⟩
  · exact ⟨b, .inr (.inl ⟨h1, h2, h3.keep hb⟩)⟩
  · exact ⟨b, .inr (.inr ⟨h1, ps, h2, h3.keep hb⟩)⟩
theorem PEl.grown {off : Nat → Int} {S : Nat → ByteArray} {K : Nat → Int} {j : Nat} {v : Value} {W W1 : World} {base g k n : Nat} {ys : List Value} (h : PEl off S K j v W) (ho : W.ownsRow base 134 1 (.slice (some ⟨g, 0, none⟩) k n) k ys) (hb : W.grownBy W1 (some g)) : PEl off S K j v W1 := by
  obtain ⟨b, ⟨h1, h2, h3⟩ | ⟨h1, h2, h3⟩ | ⟨h1, ps, h2, h3⟩⟩ := h
  · exact ⟨b, .inl ⟨h1, h2, h3.grown hb (h3.ne_row ho (by decide))⟩⟩
  · exact ⟨b, .inr (.inl ⟨h1, h2, h3.grown hb (h3.ne_row ho (by decide))⟩)⟩
  · exact ⟨b, .inr (.inr ⟨h1, ps, h2, h3.grown hb (h3.ne_row ho (by decide))⟩)⟩
theorem infoWP : (Try.prog.info? 134).map (fun i => (i.zero, i.size, i.bytes)) = some (some .nilIface, 1, 16) := by kernel_rfl
def RelBW (w : World) (n : Nat) (off : Nat → Int) (S : Nat → ByteArray) (K : Nat → Int) (v o i : Value) (wr : World) : Prop :=
  ∃ k : Nat, k ≤ n ∧ i = .int .i64 k ∧ o = .int .u32 (off k) ∧ v = .slice (some ⟨w.heap.size, 0, none⟩) k n ∧ RowOf wr w.heap.size w.heap.size 134 k n (PEl off S K) ∧ Below w.heap.size w wr
/-- The word that buildWord returns. -/
def Built (w : World) (n : Nat) (off : Nat → Int) (S : Nat → ByteArray) (K : Nat → Int) (e : Ending) (w' : World) : Prop :=
  ∃ wd g : Nat, e = .returned (.pointer (some ⟨wd, 0, none⟩)) ∧ Bk w' wd 37 #[.slice (some ⟨g, 0, none⟩) n n] ∧ w.heap.size ≤ g ∧ RowOf w' w.heap.size g 134 n n (PEl off S K) ∧ Below w.heap.size w w'
theorem bd_add {a b : Int} (h : a + b < 4294967296) (h0 : 0 ≤ a + b) : (a + b) % 4294967296 = a + b := by omega
set_option maxHeartbeats 8000000 in
set_option maxRecDepth 100000 in
theorem buildWord_any (base : Int) (a ak : Option Addr) (n cap lk capk : Nat) (S : Nat → ByteArray) (f : Nat → Int) (off : Nat → Int) (w : World)
    (hs : Src w a n (fun i => .string (S i))) (hk : Src w ak lk (fun i => .int .u8 (f i))) (hf : ∀ j, j < lk → 0 ≤ f j ∧ f j ≤ 255) (hn : n ≤ 65536)
    (h0 : off 0 = base) (hoff : ∀ j, j < n → off (j + 1) = off j + (S j).size + (if kdOf lk f j = 0 then 0 else 2)) (hbd : ∀ j, j ≤ n → 0 ≤ off j ∧ off j ≤ 16777216) (hsz : ∀ j, j < n → (S j).size ≤ 1048576) :
    Calls Try.prog 34 #[.int .u32 base, .slice a n cap, .slice ak lk capk] w (Built w n off S (kdOf lk f)) := by
  obtain ⟨i0, hi, hz0, hz1, hz2⟩ := info_parts infoWP
  have hi2 := Lib.hid hi
  have hz0' := Lib.hid hz0
  have hz1' := Lib.hid hz1
  have hz2' := Lib.hid hz2
  have HS := Lib.hid hs
  have HK := Lib.hid hk
  have HF := Lib.hid hf
  have HO := Lib.hid hoff
  have HB := Lib.hid hbd
  have HZ := Lib.hid hsz
  have H0 := Lib.hid h0
  clear hi hz0 hz1 hz2 hs hk hf hoff hbd hsz h0
  go_enter Try.func34, Try.ntmps34
  go_wp2_with (at_make; refine wpList_make_own _ rfl _ _ 35 rfl w.heap.size 134 i0 .nilIface 1 Try.underlying35 hi2.out hz0'.out hz1'.out .i64 .i64 (n : Int) n rfl rfl rfl ?c1 ?c2 ?c3 ?_; rotate_left 3; intro wm hown hgr; have hBm : Below w.heap.size w wm := ⟨hgr.os, hgr.tape, hgr.output, hgr.size, fun i hi => hgr.block i hi (by simp)⟩; have hr0 : RowOf wm w.heap.size w.heap.size 134 0 n (PEl off S (kdOf lk f)) := ⟨[], hown, fun j v hj => by simp at hj⟩; clear hown hgr)
  case c1 => have := hz2'.out; rw [this]; omega
  case c2 => unfold maxLen; omega
  try (case c3 => exact Nat.le_refl _)
  go_loopw [7, 8, 9] (fun v o i wr => RelBW w n off S (kdOf lk f) v o i wr) (fun _ _ i _ => n - (intOf i).toNat)
  case atStart => exact ⟨0, by omega, by go_num, by rw [H0.out], rfl, hr0, hBm⟩
  case round =>
    clear hr0 hBm
    obtain ⟨k, hk, rfl, rfl, rfl, hrow, hB⟩ := hrel
    by_cases hlt : k < n
    · have hlt' : (k : Int) < (n : Int) := by omega
      obtain ⟨x, rfl, hx⟩ : ∃ x, a = some x ∧ ∀ i, i < n → w.cell? (x.add i) = some (.string (S i)) := by
        rcases HS.out with ⟨_, h⟩ | h
        · omega
        · exact h
      have c0 := keepc hB (hx k hlt)
      have lc0 := World.block_lt_of_cell? _ _ c0
      obtain ⟨b0, b1⟩ := HB.out k hk
      have z0 := HZ.out k hlt
      have j0 : (0 : Int) ≤ (k : Int) := by omega
      have hP := partKind_any ak lk capk k f wr (HK.out.later hB) HF.out
      have hkd := kdOf_bd lk f k
      have hE := HO.out k hlt
      have HR := Lib.hid hrow
      have HBr := Lib.hid hB
      have sw := hB.size
      clear hrow hB hx
      rcases (show kdOf lk f k = 0 ∨ kdOf lk f k = 1 ∨ kdOf lk f k = 2 by omega) with hK | hK | hK
      · rw [hK] at hP hE
        have HP := Lib.hid hP
        clear hP
        go_wp2_with fail
        refine HP.out.mono ?_
        rintro e w' ⟨rfl, rfl⟩
        go_wp2_with fail
        refine (mkPos12_any (off k) _ (by omega) (by omega)).mono ?_
        rintro e v1 ⟨rfl, hb_v1⟩
        go_wp2_with fail
        refine (mkPos12_any (off k + ((S k).size : Int)) _ (by omega) (by omega)).mono ?_
        rintro e v2 ⟨rfl, hb_v2⟩
        have hbb := bmore hb_v1 hb_v2
        have HR2 := Lib.hid (HR.out.keep hbb (fun j v h => h.keep hbb))
        have HB2 := Lib.hid (bmore HBr.out hbb)
        clear hb_v1 hb_v2 hbb HR HBr HP c0 lc0
        have s2 := HB2.out.size
        go_wp2_with (at_builtin; refine wpList_gen (S := fun W => RowOf W w.heap.size w.heap.size 134 k n (PEl off S (kdOf lk f)) ∧ PEl off S (kdOf lk f) k (.iface 28 (.pointer (some ⟨v2.heap.size, 0, none⟩))) W ∧ Bk W (v2.heap.size + 1) 134 #[.iface 28 (.pointer (some ⟨v2.heap.size, 0, none⟩))] ∧ Below w.heap.size w W) ⟨(by exact RowOf.keep HR2.out (by go_grown) (fun j v h => h.keep (by go_grown))), ⟨v2.heap.size, .inl ⟨hK, rfl, (by repeat (first | (refine Bk.newAt ?_; simp; done) | refine Bk.alloc ?_ _ | refine Bk.drew ?_))⟩⟩, (by repeat (first | (refine Bk.newAt ?_; simp; done) | refine Bk.alloc ?_ _ | refine Bk.drew ?_)), (by exact bmore HB2.out (by go_grown))⟩ ?_; rintro W ⟨hR, hEl, hO, hBW⟩; obtain ⟨xs, ho, he⟩ := hR; refine wpList_append_fits _ rfl _ _ 35 rfl w.heap.size 134 i0 1 Try.underlying35 hi2.out hz1'.out w.heap.size k n xs rfl ho ⟨v2.heap.size + 1, 0, none⟩ 1 1 [.iface 28 (.pointer (some ⟨v2.heap.size, 0, none⟩))] rfl rfl (news_one hO) (by simp [Value.oneCell']) (by omega) ?_; intro w3 ho2 hg2)
        have hrow2 : RowOf w3 w.heap.size w.heap.size 134 (k + 1) n (PEl off S (kdOf lk f)) := RowOf.push he (by simpa using ho.1) hEl ho2 (fun j u h => h.grown ho hg2)
        have hB2 := below_grown hBW hg2 (Nat.le_refl _)
        go_roundw
        case rel => exact ⟨k + 1, by omega, by go_num, by rw [hE]; congr 1; simp, rfl, hrow2, hB2⟩
        case measure => simp [intOf]; omega
      · rw [hK] at hP hE
        have HP := Lib.hid hP
        clear hP
        go_wp2_with fail
        refine HP.out.mono ?_
        rintro e w' ⟨rfl, rfl⟩
        go_wp2_with fail
        refine (mkPos12_any (off k) _ (by omega) (by omega)).mono ?_
        rintro e v1 ⟨rfl, hb_v1⟩
        go_wp2_with fail
        refine (mkPos12_any (off k + 1 + ((S k).size : Int)) _ (by omega) (by omega)).mono ?_
        rintro e v2 ⟨rfl, hb_v2⟩
        have hbb := bmore hb_v1 hb_v2
        have HR2 := Lib.hid (HR.out.keep hbb (fun j v h => h.keep hbb))
        have HB2 := Lib.hid (bmore HBr.out hbb)
        clear hb_v1 hb_v2 hbb HR HBr HP c0 lc0
        have s2 := HB2.out.size
        go_wp2_with (at_builtin; refine wpList_gen (S := fun W => RowOf W w.heap.size w.heap.size 134 k n (PEl off S (kdOf lk f)) ∧ PEl off S (kdOf lk f) k (.iface 127 (.pointer (some ⟨v2.heap.size, 0, none⟩))) W ∧ Bk W (v2.heap.size + 1) 134 #[.iface 127 (.pointer (some ⟨v2.heap.size, 0, none⟩))] ∧ Below w.heap.size w W) ⟨(by exact RowOf.keep HR2.out (by go_grown) (fun j v h => h.keep (by go_grown))), ⟨v2.heap.size, .inr (.inl ⟨hK, rfl, (by repeat (first | (refine Bk.newAt ?_; simp; done) | refine Bk.alloc ?_ _ | refine Bk.drew ?_))⟩)⟩, (by repeat (first | (refine Bk.newAt ?_; simp; done) | refine Bk.alloc ?_ _ | refine Bk.drew ?_)), (by exact bmore HB2.out (by go_grown))⟩ ?_; rintro W ⟨hR, hEl, hO, hBW⟩; obtain ⟨xs, ho, he⟩ := hR; refine wpList_append_fits _ rfl _ _ 35 rfl w.heap.size 134 i0 1 Try.underlying35 hi2.out hz1'.out w.heap.size k n xs rfl ho ⟨v2.heap.size + 1, 0, none⟩ 1 1 [.iface 127 (.pointer (some ⟨v2.heap.size, 0, none⟩))] rfl rfl (news_one hO) (by simp [Value.oneCell']) (by omega) ?_; intro w3 ho2 hg2)
        have hrow2 : RowOf w3 w.heap.size w.heap.size 134 (k + 1) n (PEl off S (kdOf lk f)) := RowOf.push he (by simpa using ho.1) hEl ho2 (fun j u h => h.grown ho hg2)
        have hB2 := below_grown hBW hg2 (Nat.le_refl _)
        go_roundw
        case rel => exact ⟨k + 1, by omega, by go_num, by rw [hE]; congr 1; (try simp); omega, rfl, hrow2, hB2⟩
        case measure => simp [intOf]; omega
      · rw [hK] at hP hE
        have HP := Lib.hid hP
        clear hP
        go_wp2_with fail
        refine HP.out.mono ?_
        rintro e w' ⟨rfl, rfl⟩
        go_wp2_with fail
        refine (mkPos12_any (off k + 1) _ (by omega) (by omega)).mono ?_
        rintro e v0 ⟨rfl, hb_v0⟩
        go_wp2_with fail
        refine (mkPos12_any (off k + 1 + ((S k).size : Int)) _ (by omega) (by omega)).mono ?_
        rintro e v00 ⟨rfl, hb_v00⟩
        have hal : Below wr.heap.size wr (v00.alloc (.cells #[.int .u32 (npO (off k + 1)), .int .u32 (npL 1 (off k + 1 + 1)), .int .u32 (npO (off k + 1 + ((S k).size : Int))), .int .u32 (npL 1 (off k + 1 + ((S k).size : Int) + 1)), .string (S k)] 33)) := (bmore hb_v0 hb_v00).alloc (bmore hb_v0 hb_v00).size _
        go_wp2_with fail
        refine (mkPos12_any (off k) _ (by omega) (by omega)).mono ?_
        rintro e v1 ⟨rfl, hb_v1⟩
        go_wp2_with fail
        refine (mkPos12_any (off k + 1 + ((S k).size : Int)) _ (by omega) (by omega)).mono ?_
        rintro e v2 ⟨rfl, hb_v2⟩
        have hbb := bmore (bmore hal hb_v1) hb_v2
        have HR2 := Lib.hid (HR.out.keep hbb (fun j v h => h.keep hbb))
        have HB2 := Lib.hid (bmore HBr.out hbb)
        clear hb_v1 hb_v2 hbb HR HBr HP c0 lc0 hal hb_v0 hb_v00
        have s2 := HB2.out.size
        go_wp2_with (at_builtin; refine wpList_gen (S := fun W => RowOf W w.heap.size w.heap.size 134 k n (PEl off S (kdOf lk f)) ∧ PEl off S (kdOf lk f) k (.iface 130 (.pointer (some ⟨v2.heap.size + 1, 0, none⟩))) W ∧ Bk W (v2.heap.size + 1 + 1) 134 #[.iface 130 (.pointer (some ⟨v2.heap.size + 1, 0, none⟩))] ∧ Below w.heap.size w W) ⟨(by exact RowOf.keep HR2.out (by go_grown) (fun j v h => h.keep (by go_grown))), ⟨v2.heap.size + 1, .inr (.inr ⟨hK, _, rfl, (by repeat (first | (refine Bk.newAt ?_; simp; done) | refine Bk.alloc ?_ _ | refine Bk.drew ?_))⟩)⟩, (by repeat (first | (refine Bk.newAt ?_; simp; done) | refine Bk.alloc ?_ _ | refine Bk.drew ?_)), (by exact bmore HB2.out (by go_grown))⟩ ?_; rintro W ⟨hR, hEl, hO, hBW⟩; obtain ⟨xs, ho, he⟩ := hR; refine wpList_append_fits _ rfl _ _ 35 rfl w.heap.size 134 i0 1 Try.underlying35 hi2.out hz1'.out w.heap.size k n xs rfl ho ⟨v2.heap.size + 1 + 1, 0, none⟩ 1 1 [.iface 130 (.pointer (some ⟨v2.heap.size + 1, 0, none⟩))] rfl rfl (news_one hO) (by simp [Value.oneCell']) (by omega) ?_; intro w3 ho2 hg2)
        have hrow2 : RowOf w3 w.heap.size w.heap.size 134 (k + 1) n (PEl off S (kdOf lk f)) := RowOf.push he (by simpa using ho.1) hEl ho2 (fun j u h => h.grown ho hg2)
        have hB2 := below_grown hBW hg2 (Nat.le_refl _)
        go_roundw
        case rel => exact ⟨k + 1, by omega, by go_num, by rw [hE]; congr 1; (try simp); omega, rfl, hrow2, hB2⟩
        case measure => simp [intOf]; omega
    · obtain rfl : k = n := by omega
      have hlt' : ¬ (k : Int) < (k : Int) := by omega
      have sw := hB.size
      go_wp2
      go_ret
      exact ⟨_, _, rfl, Bk.fresh _ _ _, Nat.le_refl _, hrow.keep (by go_grown) (fun j v h => h.keep (by go_grown)), by go_grown⟩
end Go.Proofs.Ytimaobpcefgdkaa
