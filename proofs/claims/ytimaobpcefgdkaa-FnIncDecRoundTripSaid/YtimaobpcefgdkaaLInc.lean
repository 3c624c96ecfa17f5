/- The walk of FnIncDecRoundTrip. -/
import Derived.Test.YtimaobpcefgdkaaInc
namespace Go.Proofs.Ytimaobpcefgdkaa
open Go.RowKit
theorem IncPost.ret {base b n : Nat} {c0 : Value} {lv ll : Int} {xs : List Value} {inc : Bool} {w : World} {e : Ending} {w' : World} (h : IncPost base b n c0 lv ll xs inc w e w') : e = .returned (.tuple #[]) := by
  obtain ⟨_, _, h, _⟩ := h
  exact h
/-- What the law's end leans on: the printer and its records, and the records as they came. -/
def FinI (b n c g : Nat) (A : Option Addr) (c0 : Value) (lv ll : Int) (B B0 : Nat → Bool) (w W : World) : Prop :=
  Bk W b 149 (prCells c0 lv ll (.slice (some ⟨g, 0, none⟩) n c)) ∧ Src W (some ⟨g, 0, none⟩) n (fun i => .bool (B i)) ∧ Src W A n (fun i => .bool (B0 i)) ∧ Below w.heap.size w W
theorem own_src {W : World} {base n c g : Nat} {e : TypeId} {xs : List Value} {B : Nat → Bool} {u : Value} (ho : W.ownsRow base e 1 (.slice (some ⟨g, 0, none⟩) (n + 1) c) (n + 1) (xs ++ [u])) (hl : xs.length = n) (hx : ∀ j, j < n → xs[j]? = some (.bool (B j))) : Src W (some ⟨g, 0, none⟩) n (fun i => .bool (B i)) :=
  .inr ⟨_, rfl, fun i hi => by
    have h := ho.cellAt i (by omega)
    rw [List.getElem?_append_left (by omega), hx i hi] at h
    rcases i with _ | i <;> simpa [Addr.add] using h⟩
theorem ZZInc138 (b : Nat) (w : World) {R : Ending → World → Prop} (h : Calls Try.prog 86 #[.pointer (some ⟨b, 0, none⟩)] w fun e w' => e = .returned (.tuple #[]) ∧ R e w') :
    Calls Try.prog 48 #[.pointer (some ⟨b, 0, none⟩)] w R := by
  have H := Lib.hid h
  clear h
  go_enter Try.func48, Try.ntmps48
  go_wp2_with (go_at_call 86; refine H.out.mono ?_; rintro e w' ⟨rfl, hr⟩)
  go_end0
  exact hr
theorem ZZDec138 (b : Nat) (w : World) {R : Ending → World → Prop} (h : Calls Try.prog 87 #[.pointer (some ⟨b, 0, none⟩)] w fun e w' => e = .returned (.tuple #[]) ∧ R e w') :
    Calls Try.prog 49 #[.pointer (some ⟨b, 0, none⟩)] w R := by
  have H := Lib.hid h
  clear h
  go_enter Try.func49, Try.ntmps49
  go_wp2_with (go_at_call 87; refine H.out.mono ?_; rintro e w' ⟨rfl, hr⟩)
  go_end0
  exact hr
/-- incLevel and decLevel one behind the other. -/
def RoundP (base b n : Nat) (c0 : Value) (lv ll : Int) (B : Nat → Bool) (w : World) (e : Ending) (w' : World) : Prop :=
  ∃ g c : Nat, e = .returned (.tuple #[]) ∧ n ≤ c ∧ Bk w' b 149 (prCells c0 lv ll (.slice (some ⟨g, 0, none⟩) n c)) ∧ Src w' (some ⟨g, 0, none⟩) n (fun i => .bool (B i)) ∧ Below base w w'
/-- Behind incLevel, whatever the case: decLevel leaves the level lv and the records B. -/
def Mid (base b n : Nat) (c0 : Value) (lv ll : Int) (B : Nat → Bool) (w : World) (e : Ending) (w' : World) : Prop :=
  e = .returned (.tuple #[]) ∧ Below base w w' ∧ Calls Try.prog 49 #[.pointer (some ⟨b, 0, none⟩)] w' (RoundP base b n c0 lv ll B w')
theorem mid_of_inc {base b n : Nat} {c0 : Value} {lv lv' ll : Int} {xs : List Value} {inc : Bool} {B : Nat → Bool} {w : World} (hb : base ≤ b) (hn : n ≤ 65536) (hl : xs.length = n) (hx : ∀ j, j < n → xs[j]? = some (.bool (B j)))
    (hlv : lv' = if inc then (lv - 1) % 18446744073709551616 else lv) {e : Ending} {w' : World} (h : IncPost base b n c0 lv ll xs inc w e w') : Mid base b n c0 lv' ll B w e w' := by
  obtain ⟨g, c, he, hk, ho, hB⟩ := h
  refine ⟨he, hB, ZZDec138 b w' ?_⟩
  have hx1 : (xs ++ [.bool inc])[n]? = some (.bool inc) := by rw [← hl]; simp
  cases inc
  · have hlv : lv' = lv := by simpa using hlv
    subst hlv
    exact (dec138_F b base n c g c0 _ ll _ w' hk ho hb hn hx1).mono fun e w1 ⟨he, k1, o1, b1⟩ => ⟨he, g, c, he, by have := own_cap o1; omega, k1, own_src o1 hl hx, b1⟩
  · have hlv : lv' = (lv - 1) % 18446744073709551616 := by simpa using hlv
    subst hlv
    exact (dec138_T b base n c g c0 lv ll _ w' hk ho hb hn hx1).mono fun e w1 ⟨he, k1, o1, b1⟩ => ⟨he, g, c, he, by have := own_cap o1; omega, k1, own_src o1 hl hx, b1⟩
theorem incMono {P : Ending → World → Prop} {Q : Ending → World → Prop} {b : Nat} {w : World} (h : Calls Try.prog 86 #[.pointer (some ⟨b, 0, none⟩)] w P) (hq : ∀ e w', P e w' → e = .returned (.tuple #[]) ∧ Q e w') : Calls Try.prog 48 #[.pointer (some ⟨b, 0, none⟩)] w Q :=
  ZZInc138 b w (h.mono hq)
/-- The ordinary case. -/
theorem mid_plain (b base n c : Nat) (A : Option Addr) (c0 : Value) (lv ll : Int) (B : Nat → Bool) (xs : List Value) (w : World) (hk : Bk w b 149 (prCells c0 lv ll (.slice A n c))) (ho : w.ownsRow base 4 1 (.slice A n c) n xs) (hb : base ≤ b) (hn : n ≤ 65536) (l0 : 0 ≤ lv) (l1 : lv < 18446744073709551616)
    (hx : ∀ j, j < n → xs[j]? = some (.bool (B j))) (hm : ¬ (ll < lv ∧ 0 < n ∧ B (n - 1) = true)) :
    Calls Try.prog 48 #[.pointer (some ⟨b, 0, none⟩)] w (Mid base b n c0 lv ll B w) := by
  have hl := own_ll ho
  have hw : lv = if (true : Bool) then ((lv + 1) % 18446744073709551616 - 1) % 18446744073709551616 else (lv + 1) % 18446744073709551616 := by simp; omega
  by_cases h1 : lv ≤ ll
  · exact incMono (inc138_A1 b base n c A c0 lv ll xs w hk ho hb hn h1) fun e w' h => ⟨h.ret, mid_of_inc hb hn hl hx hw h⟩
  · rcases n with _ | m
    · exact incMono (inc138_A2 b base 0 c A c0 lv ll xs w hk ho hb hn rfl h1) fun e w' h => ⟨h.ret, mid_of_inc hb hn hl hx hw h⟩
    · obtain ⟨g, c', hv⟩ := own_shape ho
      injection hv with hv1 _ hv2
      subst hv1
      have hB : B m = false := by
        cases h : B m
        · rfl
        · exact absurd ⟨by omega, by omega, h⟩ hm
      exact incMono (inc138_C b base m c g c0 lv ll xs w hk ho hb hn h1 (by rw [hx m (by omega), hB])) fun e w' h => ⟨h.ret, mid_of_inc (inc := false) hb hn hl hx (by simp) h⟩
/-- The one exception. -/
theorem mid_moved (b base m c : Nat) (A : Option Addr) (c0 : Value) (lv ll : Int) (B : Nat → Bool) (xs : List Value) (w : World) (hk : Bk w b 149 (prCells c0 lv ll (.slice A (m + 1) c))) (ho : w.ownsRow base 4 1 (.slice A (m + 1) c) (m + 1) xs) (hb : base ≤ b) (hn : m + 1 ≤ 65536)
    (hx : ∀ j, j < m + 1 → xs[j]? = some (.bool (B j))) (h1 : ll < lv) (hB : B m = true) :
    Calls Try.prog 48 #[.pointer (some ⟨b, 0, none⟩)] w (Mid base b (m + 1) c0 ((lv - 1) % 18446744073709551616) ll (fun j => if j = m then false else B j) w) := by
  have hl := own_ll ho
  obtain ⟨g, c', hv⟩ := own_shape ho
  injection hv with hv1 _ hv2
  subst hv1
  refine incMono (inc138_B b base m c g c0 lv ll xs w hk ho hb hn (by omega) (by rw [hx m (by omega), hB])) fun e w' h => ⟨h.ret, mid_of_inc (inc := true) hb hn (by simpa using hl) (fun j hj => ?_) (by simp) h⟩
  rw [List.getElem?_set]
  by_cases hjm : m = j
  · subst hjm
    simp [hl]
  · have : ¬ j = m := fun h => hjm h.symm
    simp [hjm, this, hx j hj]
theorem levelIncs138 (b : Nat) (A : Option Addr) (n c : Nat) (w : World) (h : w.cell? ⟨b, 22, none⟩ = some (.slice A n c)) :
    Calls Try.prog 50 #[.pointer (some ⟨b, 0, none⟩)] w fun e w' => e = .returned (.slice A n c) ∧ w = w' := by
  go_enter Try.func50, Try.ntmps50
  go_wp2
  go_ret
  exact ⟨rfl, rfl⟩
theorem level138 (b : Nat) (v : Int) (w : World) (h : w.cell? ⟨b, 21, none⟩ = some (.int .u64 v)) :
    Calls Try.prog 51 #[.pointer (some ⟨b, 0, none⟩)] w fun e w' => e = .returned (.int .u64 v) ∧ w = w' := by
  go_enter Try.func51, Try.ntmps51
  go_wp2
  go_ret
  exact ⟨rfl, rfl⟩
theorem lastLevel138 (b : Nat) (v : Int) (w : World) (h : w.cell? ⟨b, 20, none⟩ = some (.int .u64 v)) :
    Calls Try.prog 52 #[.pointer (some ⟨b, 0, none⟩)] w fun e w' => e = .returned (.int .u64 v) ∧ w = w' := by
  go_enter Try.func52, Try.ntmps52
  go_wp2
  go_ret
  exact ⟨rfl, rfl⟩
theorem Src.sub {w : World} {a : Option Addr} {m : Nat} {f f' : Nat → Value} (h : Src w a (m + 1) f) (hf : ∀ j, j < m → f j = f' j) : Src w a m f' := by
  rcases h with ⟨_, h⟩ | ⟨x, hx, hc⟩
  · omega
  · exact .inr ⟨x, hx, fun i hi => by rw [hc i (by omega), hf i hi]⟩
def OwnC (n : Nat) (B : Nat → Bool) (w : World) (e : Ending) (w' : World) : Prop :=
  ∃ (A : Option Addr) (xs : List Value), e = .returned (.slice A n n) ∧ w'.ownsRow w.heap.size 4 1 (.slice A n n) n xs ∧ (∀ j, j < n → xs[j]? = some (.bool (B j))) ∧ Below w.heap.size w w'
theorem cloneOwn138 (A : Option Addr) (n : Nat) (B : Nat → Bool) (w : World) (hs : Src w A n (fun i => .bool (B i))) (hn : n ≤ 1048576) : Calls Try.prog 46 #[.slice A n n] w (OwnC n B w) := by
  rcases hs with ⟨rfl, rfl⟩ | ⟨x, rfl, hc⟩
  · have hnil := fun (w : World) (a : Option Addr) (n c n' c' : Nat) => Lib.run_eql_slice_nil (P := Try.prog) w 93 4 a n c n' c' Try.underlying93
    go_enter Try.func46, Try.ntmps46
    go_wp2
    go_ret
    exact ⟨none, [], rfl, ⟨rfl, .inl ⟨rfl, rfl⟩⟩, fun j hj => absurd hj (by omega), Below.refl _ _⟩
  · exact (n010_138_zzCloneBools_some x n n B w hc hn).mono fun e w' ⟨he, ⟨xs, ho, hx⟩, hb⟩ => ⟨_, xs, he, ho, hx, hb⟩
set_option maxHeartbeats 4000000 in
set_option maxRecDepth 100000 in
theorem walkFnIncDecRoundTrip (a0 : Int) (a1 : Int) (a2 : Option Addr) (len2 cap2 : Nat) (z2 : Nat → Bool) (w : World) (w0 : (Lit.int .u64 a0).wf = true) (w1 : (Lit.int .u64 a1).wf = true) (w2 : IsBools w a2 len2 cap2 z2) :
    Calls Try.prog 9 #[.int .u64 a0, .int .u64 a1, .slice a2 len2 cap2] w fun e w' => e = .returned (.bool true) ∧ Below w.heap.size w w' := by
  have b0 := bounds_u64 w0
  have b1 := bounds_u64 w1
  have l2 := w2.len
  have hs := w2.src
  have hcap : a2 = none → cap2 = 0 := fun h => by subst h; exact w2.nilcap.2
  clear w0 w1 w2
  have HS := Lib.hid hs
  have HC := Lib.hid hcap
  clear hs hcap
  by_cases h1 : 65536 < len2
  · have h1' : (65536 : Int) < (len2 : Int) := by omega
    go_enter Try.func9, Try.ntmps9
    go_wp2_with fail
    refine (zzBytes138_any _ _ _ _ _ _ (by omega)).mono ?_
    rintro e w' ⟨b, rfl, rfl⟩
    cases b <;> (go_wp2_with fail; go_ret; exact ⟨rfl, Below.refl _ _⟩)
  have h1' : ¬ (65536 : Int) < (len2 : Int) := by omega
  go_enter Try.func9, Try.ntmps9
  go_wp2_with fail
  refine (zzBytes138_any _ _ _ _ _ _ (by omega)).mono ?_
  rintro e w' ⟨b, rfl, rfl⟩
  cases b
  · go_wp2
    go_ret
    exact ⟨rfl, Below.refl _ _⟩
  go_wp2_with fail
  refine (zzTrues_any _ _ _ z2 _ HS.out (by omega)).mono ?_
  rintro e w' ⟨tr, t0, t1, rfl, rfl⟩
  by_cases h2 : a0 < tr
  · have h2' : decide (a0 < tr) = true := by simpa using h2
    go_wp2
    go_ret
    exact ⟨rfl, Below.refl _ _⟩
  have h2' : decide (a0 < tr) = false := by simpa using h2
  go_wp2_with fail
  refine (n010_138_zzCloneBools_any a2 len2 cap2 z2 _ HS.out HC.out (by omega)).mono ?_
  rintro e v1 ⟨A, rfl, s0, hb⟩
  clear HS HC h2 h2' t0 t1
  have S0 := Lib.hid s0
  have B1 := Lib.hid hb
  clear s0 hb
  go_wp2_with fail
  refine (cloneOwn138 A len2 z2 _ S0.out (by omega)).mono ?_
  rintro e v2 ⟨A2, xs, rfl, ho, hx, hb⟩
  have HO := Lib.hid ho
  have HX := Lib.hid hx
  have B2 := Lib.hid hb
  clear ho hx hb
  go_wp2_with fail
  refine (newPrinter138 _ _ _ _ _ _).mono ?_
  rintro e v3 ⟨b, c0, rfl, hbb, hk, hb⟩
  have hbase : v1.heap.size ≤ b := Nat.le_trans B2.out.size hbb
  have ho := own_below HO.out hb
  have B3 := Lib.hid (bmore B2.out hb)
  clear HO B2 hb hbb
  by_cases hm : a1 < a0 ∧ 0 < len2 ∧ z2 (len2 - 1) = true
  · obtain ⟨hg, hz, hB⟩ := hm
    obtain ⟨m, rfl⟩ : ∃ m, len2 = m + 1 := ⟨len2 - 1, by omega⟩
    replace hB : z2 m = true := hB
    have hmid := mid_moved b v1.heap.size m (m + 1) A2 c0 a0 a1 z2 xs v3 hk ho hbase (by omega) HX.out hg hB
    have HM := Lib.hid hmid
    clear hk ho hmid HX
    have HB := Lib.hid hB
    clear hB
    go_wp2_with fail
    refine HM.out.mono ?_
    rintro e v4 ⟨rfl, hb, hd⟩
    have HD := Lib.hid hd
    have B4 := Lib.hid (B3.out.trans hb)
    clear hd hb B3 HM
    go_wp2_with fail
    refine HD.out.mono ?_
    rintro e v5 ⟨g, c, rfl, hcc, hk, hs, hb⟩
    have B5 := B4.out.trans hb
    have s0 := Lib.hid (S0.out.keep B5)
    have B6 := Lib.hid (bmore B1.out B5)
    have S1 := Lib.hid hs
    clear HD hb B4 S0 B5 B1 hs
    have c20 : v5.cell? ⟨b, 20, none⟩ = some (.int .u64 a1) := by rw [hk.cells]; rfl
    have c21 : v5.cell? ⟨b, 21, none⟩ = some (.int .u64 (a0 - 1)) := by
      have h := hk.cells 21
      rw [Int.emod_eq_of_lt (by omega) (by omega)] at h
      rw [h]; rfl
    have c22 : v5.cell? ⟨b, 22, none⟩ = some (.slice (some ⟨g, 0, none⟩) (m + 1) c) := by rw [hk.cells]; rfl
    have hlt := hk.lt
    clear hk
    have hg' : decide (a1 < a0) = true := by simpa using hg
    obtain ⟨x, hx0, q⟩ := s0.out.at_ (i := m) (by omega)
    subst hx0
    rw [HB.out] at q
    obtain ⟨y, hy0, q2⟩ := S1.out.at_ (i := m) (by omega)
    injection hy0 with hy0
    subst hy0
    have q3 : v5.cell? ⟨g, m, none⟩ = some (.bool false) := by
      rcases m with _ | m <;> simpa [Addr.add] using q2
    clear q2
    have S2 := Lib.hid (S1.out.sub (f' := fun i => .bool (z2 i)) (fun j hj => by have : ¬ j = m := by omega
                                                                                 simp [this]))
    have s2 := Lib.hid (s0.out.sub (f' := fun i => .bool (z2 i)) (fun j hj => rfl))
    clear S1 s0
    have hz : decide ((0 : Int) < (m : Int) + 1) = true := by simp
    have i0 : (0 : Int) ≤ (m : Int) := by omega
    have i1 : (m : Int) < (m : Int) + 1 := by omega
    go_wp2_with (first | (go_at_call 50; refine (levelIncs138 _ _ _ _ _ c22).mono ?_; rintro e w' ⟨rfl, rfl⟩) | (go_at_call 51; refine (level138 _ _ _ c21).mono ?_; rintro e w' ⟨rfl, rfl⟩) | (go_at_call 52; refine (lastLevel138 _ _ _ c20).mono ?_; rintro e w' ⟨rfl, rfl⟩))
    have iw : IntKind.i64.wrap (m : Int) = (m : Int) := IntWalk.i64_in _ (by omega)
    have iu : IntKind.u64.wrap (a0 - 1) = a0 - 1 := IntWalk.u64_in _ (by omega)
    have im : (m : Int) ≤ (c : Int) := by omega
    go_quiet ((go_at_call 53; exact Calls.quiet_of (zzEqBools_yes _ _ _ _ _ z2 _ S2.out s2.out (by omega))))
    clear iw iu
    go_wp2
    go_ret
    exact ⟨rfl, bdrewN B6.out _⟩
  · have hmid := mid_plain b v1.heap.size len2 len2 A2 c0 a0 a1 z2 xs v3 hk ho hbase (by omega) (by omega) (by omega) HX.out hm
    have HM := Lib.hid hmid
    have HQ := Lib.hid hm
    clear hk ho hmid hm HX
    go_wp2_with fail
    refine HM.out.mono ?_
    rintro e v4 ⟨rfl, hb, hd⟩
    have HD := Lib.hid hd
    have B4 := Lib.hid (B3.out.trans hb)
    clear hd hb B3 HM
    go_wp2_with fail
    refine HD.out.mono ?_
    rintro e v5 ⟨g, c, rfl, hcc, hk, hs, hb⟩
    have B5 := B4.out.trans hb
    have s0 := Lib.hid (S0.out.keep B5)
    have B6 := Lib.hid (bmore B1.out B5)
    have S1 := Lib.hid hs
    clear HD hb B4 S0 B5 B1 hs
    have c20 : v5.cell? ⟨b, 20, none⟩ = some (.int .u64 a1) := by rw [hk.cells]; rfl
    have c21 : v5.cell? ⟨b, 21, none⟩ = some (.int .u64 a0) := by rw [hk.cells]; rfl
    have c22 : v5.cell? ⟨b, 22, none⟩ = some (.slice (some ⟨g, 0, none⟩) len2 c) := by rw [hk.cells]; rfl
    have hlt := hk.lt
    clear hk
    by_cases hg : a1 < a0
    · have hg' : decide (a1 < a0) = true := by simpa using hg
      rcases len2 with _ | m
      · go_wp2_with (first | (go_at_call 50; refine (levelIncs138 _ _ _ _ _ c22).mono ?_; rintro e w' ⟨rfl, rfl⟩) | (go_at_call 51; refine (level138 _ _ _ c21).mono ?_; rintro e w' ⟨rfl, rfl⟩) | (go_at_call 52; refine (lastLevel138 _ _ _ c20).mono ?_; rintro e w' ⟨rfl, rfl⟩) | (go_at_call 53; refine (zzEqBools_yes _ _ _ _ _ z2 _ S1.out s0.out (by omega)).mono ?_; rintro e w' ⟨rfl, dk, rfl⟩))
        go_ret
        exact ⟨rfl, bdrewN B6.out _⟩
      · have hB : z2 m = false := by
          cases h : z2 m
          · rfl
          · exact absurd ⟨hg, by omega, h⟩ HQ.out
        obtain ⟨x, hx0, q⟩ := s0.out.at_ (i := m) (by omega)
        subst hx0
        rw [hB] at q
        have hz : decide ((0 : Int) < (m : Int) + 1) = true := by simp
        have i0 : (0 : Int) ≤ (m : Int) := by omega
        have i1 : (m : Int) < (m : Int) + 1 := by omega
        clear hB HQ
        go_wp2_with (first | (go_at_call 50; refine (levelIncs138 _ _ _ _ _ c22).mono ?_; rintro e w' ⟨rfl, rfl⟩) | (go_at_call 51; refine (level138 _ _ _ c21).mono ?_; rintro e w' ⟨rfl, rfl⟩) | (go_at_call 52; refine (lastLevel138 _ _ _ c20).mono ?_; rintro e w' ⟨rfl, rfl⟩) | (go_at_call 53; refine (zzEqBools_yes _ _ _ _ _ z2 _ S1.out s0.out (by omega)).mono ?_; rintro e w' ⟨rfl, dk, rfl⟩))
        go_ret
        exact ⟨rfl, bdrewN B6.out _⟩
    · have hg' : decide (a1 < a0) = false := by simpa using hg
      go_wp2_with (first | (go_at_call 50; refine (levelIncs138 _ _ _ _ _ c22).mono ?_; rintro e w' ⟨rfl, rfl⟩) | (go_at_call 51; refine (level138 _ _ _ c21).mono ?_; rintro e w' ⟨rfl, rfl⟩) | (go_at_call 52; refine (lastLevel138 _ _ _ c20).mono ?_; rintro e w' ⟨rfl, rfl⟩) | (go_at_call 53; refine (zzEqBools_yes _ _ _ _ _ z2 _ S1.out s0.out (by omega)).mono ?_; rintro e w' ⟨rfl, dk, rfl⟩))
      go_ret
      exact ⟨rfl, bdrewN B6.out _⟩
end Go.Proofs.Ytimaobpcefgdkaa
