/- Parser.unquotedWordPart at the parts of every kind. -/
import Derived.Test.YtnjdffnbkjjmeaaUWA
import Derived.Lib.ConvBytes
namespace Go.Proofs.Ytnjdffnbkjjmeaa
open Go.RowKit Go.PlainAid
theorem uw_ll (a : Option Addr) (w : World) : (Instr.typeAssert (.iface 122 (.pointer a)) 135 64 true).run Try.prog w = .ok (.tuple #[.pointer none, .bool false]) w := by kernel_rfl
theorem uw_ls (a : Option Addr) (w : World) : (Instr.typeAssert (.iface 122 (.pointer a)) 135 211 true).run Try.prog w = .ok (.tuple #[.pointer none, .bool false]) w := by kernel_rfl
theorem uw_ld (a : Option Addr) (w : World) : (Instr.typeAssert (.iface 122 (.pointer a)) 135 123 true).run Try.prog w = .ok (.tuple #[.pointer none, .bool false]) w := by kernel_rfl
theorem uw_sl (a : Option Addr) (w : World) : (Instr.typeAssert (.iface 211 (.pointer a)) 135 64 true).run Try.prog w = .ok (.tuple #[.pointer none, .bool false]) w := by kernel_rfl
theorem uw_ss (a : Option Addr) (w : World) : (Instr.typeAssert (.iface 211 (.pointer a)) 135 211 true).run Try.prog w = .ok (.tuple #[.pointer a, .bool true]) w := by kernel_rfl
theorem uw_dl (a : Option Addr) (w : World) : (Instr.typeAssert (.iface 123 (.pointer a)) 135 64 true).run Try.prog w = .ok (.tuple #[.pointer none, .bool false]) w := by kernel_rfl
theorem uw_ds (a : Option Addr) (w : World) : (Instr.typeAssert (.iface 123 (.pointer a)) 135 211 true).run Try.prog w = .ok (.tuple #[.pointer none, .bool false]) w := by kernel_rfl
theorem uw_dd (a : Option Addr) (w : World) : (Instr.typeAssert (.iface 123 (.pointer a)) 135 123 true).run Try.prog w = .ok (.tuple #[.pointer a, .bool true]) w := by kernel_rfl
theorem uwp_pe (pp v : Value) (q : Bool) (b : Addr) (w : World) (hpp : ∃ a, pp = .pointer a) (hv : ∃ a n c, v = .slice a n c) :
    Calls Try.prog 75 #[pp, v, .iface 122 (.pointer (some b)), .bool q] w fun e w' => e = .returned (.tuple #[v, .bool false]) ∧ w = w' := by
  obtain ⟨pa, rfl⟩ := hpp
  obtain ⟨a, n, c, rfl⟩ := hv
  have t1 := uw_ll
  have t2 := uw_ls
  have t3 := uw_ld
  go_enter Try.func75, Try.ntmps75
  go_wp2
  go_ret2
  exact ⟨rfl, rfl⟩
theorem own_sl {w : World} {B : Nat} {e : TypeId} {v : Value} {n : Nat} {xs : List Value} (h : w.ownsRow B e 1 v n xs) : ∃ a n c, v = .slice a n c := by
  rcases h.2 with ⟨h', _⟩ | ⟨g, cap, cur, h', _⟩
  · exact ⟨_, _, _, h'⟩
  · exact ⟨_, _, _, h'⟩
theorem own_below' {W W1 : World} {B n size : Nat} {e : TypeId} {v : Value} {xs : List Value} (ho : W.ownsRow B e size v n xs) (hb : Below W.heap.size W W1) (_hB : B ≤ W.heap.size) : W1.ownsRow B e size v n xs := own_below ho hb
theorem conv_bytes (s : ByteArray) (w : World) : ∃ (cp : Nat) (W1 : World), (convert 9 59 (.string s)).run Try.prog w = .ok (.slice (some ⟨w.heap.size, 0, none⟩) s.size cp) W1 ∧ Below w.heap.size w W1 ∧ ∀ j u, (s.data.toList.map bv)[j]? = some u → W1.cell? ((⟨w.heap.size, 0, none⟩ : Addr).add j) = some u := by
  refine ⟨_, _, Lib.run_convert_string_bytes w 9 59 5 s Try.underlying9 Try.underlying59 Try.underlying5, ⟨rfl, rfl, rfl, by rw [Lib.bytesWorld_size]; omega, fun k hk => Lib.bytesWorld_at_old _ _ _ _ hk⟩, fun j u hu => ?_⟩
  rw [List.getElem?_map] at hu
  cases hx : s.data.toList[j]? with
  | none => rw [hx] at hu; cases hu
  | some c =>
    rw [hx] at hu
    simp at hu
    subst hu
    have hj : j < s.size := by
      have := (List.getElem?_eq_some_iff.1 hx).1
      simpa using this
    have h := Lib.bytesWorld_cell w 5 s j hj
    have e : s.data.toList.getD j 0 = c := by simp [List.getD, hx]
    rw [e] at h
    have e2 : (⟨w.heap.size, 0, none⟩ : Addr).add j = ⟨w.heap.size, j, none⟩ := by rcases j with _ | j <;> simp [Addr.add]
    rw [e2]
    exact h
set_option maxHeartbeats 4000000 in
set_option maxRecDepth 100000 in
theorem uwp_sgl (pp v : Value) (l : List UInt8) (bl B : Nat) (s : ByteArray) (w : World) (hpp : ∃ a, pp = .pointer a) (hB : B ≤ w.heap.size) (hown : w.ownsRow B 5 1 v l.length (l.map bv)) (hl : w.cell? ⟨bl, 5, none⟩ = some (.string s)) (hs : s.size ≤ 2097152) (hll : l.length ≤ 2097152) :
    Calls Try.prog 75 #[pp, v, .iface 211 (.pointer (some ⟨bl, 0, none⟩)), .bool false] w (EndU B w (l ++ s.data.toList) true) := by
  obtain ⟨pa, rfl⟩ := hpp
  obtain ⟨i0, hi, hz0, hz1, hz2⟩ := info_parts infoU8
  have hi2 := Lib.hid hi
  have hz0' := Lib.hid hz0
  have hz1' := Lib.hid hz1
  have hz2' := Lib.hid hz2
  have HO := Lib.hid hown
  have hsl := own_sl hown
  have t1 := uw_sl
  have t2 := uw_ss
  clear hi hz0 hz1 hz2 hown
  obtain ⟨va, vn, vc, rfl⟩ := hsl
  obtain ⟨cp, W1, hcv, hbc, hnw⟩ := conv_bytes s w
  have HNW := Lib.hid hnw
  have HO1 := Lib.hid (own_below' HO.out hbc hB)
  have sz := hbc.size
  clear hnw
  go_enter Try.func75, Try.ntmps75
  go_wp2_with (at_builtin; refine wpList_append_own _ rfl (.tmp 67) (.tmp 72) 59 rfl B 5 i0 (.int .u8 0) 1 1 Try.underlying59 hi2.out hz0'.out hz1'.out hz2'.out rfl (by decide) (.slice va vn vc) l.length (l.map bv) rfl HO1.out ⟨w.heap.size, 0, none⟩ s.size cp (s.data.toList.map bv) rfl (by simp) HNW.out (by simp [Value.oneCell']) (by unfold maxLen; omega) (by omega) (by omega) ?_; intro v2 w2 ho2 hg2 _)
  have hB2 : Below B w w2 := below_app (hbc.mono hB) (by omega) HO1.out hg2
  have HO2 : Hid (w2.ownsRow B 5 1 v2 (l ++ s.data.toList).length ((l ++ s.data.toList).map bv)) := Lib.hid (by rw [List.length_append, List.map_append]; simpa using ho2)
  clear hg2 ho2 hcv
  go_wp2
  go_ret2
  exact ⟨_, rfl, HO2.out, hB2⟩
def accU (k m : Nat) (l s : List UInt8) : List UInt8 := if k = m then l ++ s else l
theorem accU_lt {k m : Nat} {l s : List UInt8} (h : k < m) : accU k m l s = l := by unfold accU; rw [if_neg (by omega)]
theorem accU_eq {m : Nat} {l s : List UInt8} : accU m m l s = l ++ s := by unfold accU; rw [if_pos rfl]
def RelDq (B : Nat) (w : World) (m : Nat) (l s : List UInt8) (v i : Value) (wr : World) : Prop :=
  ∃ k : Nat, k ≤ m ∧ i = .int .i64 k ∧ wr.ownsRow B 5 1 v (accU k m l s).length ((accU k m l s).map bv) ∧ Below B w wr
set_option maxHeartbeats 4000000 in
set_option maxRecDepth 100000 in
theorem uwp_dq (pp v : Value) (l : List UInt8) (b g lt m c B : Nat) (s : ByteArray) (w : World) (hpp : ∃ a, pp = .pointer a) (hB : B ≤ w.heap.size) (hown : w.ownsRow B 5 1 v l.length (l.map bv)) (hd : w.cell? ⟨b, 5, none⟩ = some (.slice (some ⟨g, 0, none⟩) (m + 1) c)) (hm : m ≤ 10)
    (hp : ∀ k, k < m → ∃ a, w.cell? ⟨g, k, none⟩ = some (.iface 122 (.pointer (some a)))) (hlit : w.cell? ⟨g, m, none⟩ = some (.iface 64 (.pointer (some ⟨lt, 0, none⟩)))) (hl : w.cell? ⟨lt, 4, none⟩ = some (.string s)) (_hb : b < B) (hg : g < B) (hlt : lt < B) (hs : s.size ≤ 2097152) (hll : l.length ≤ 2097152) :
    Calls Try.prog 75 #[pp, v, .iface 123 (.pointer (some ⟨b, 0, none⟩)), .bool false] w (EndU B w (l ++ s.data.toList) true) := by
  obtain ⟨pa, rfl⟩ := hpp
  have HO := Lib.hid hown
  have hsl := own_sl hown
  have t1 := uw_dl
  have t2 := uw_ds
  have t3 := uw_dd
  have HP := Lib.hid hp
  have HLI := Lib.hid hlit
  have HL := Lib.hid hl
  clear hown hp hlit hl
  obtain ⟨va, vn, vc, rfl⟩ := hsl
  go_enter Try.func75, Try.ntmps75
  go_wp2
  go_loopw [1, 82] (fun v i wr => RelDq B w (m + 1) l s.data.toList v i wr) (fun _ i _ => m + 1 - (intOf i).toNat)
  case atStart => exact ⟨0, by omega, by go_num, by rw [accU_lt (by omega)]; exact HO.out, Below.refl _ _⟩
  case round =>
    clear HO hd
    obtain ⟨k, hk, rfl, hown, hB1⟩ := hrel
    have hBw : B ≤ wr.heap.size := Nat.le_trans hB hB1.size
    by_cases hkm : k < m
    · rw [accU_lt (by omega)] at hown
      obtain ⟨a, ha⟩ := HP.out k hkm
      have hc : wr.cell? ⟨g, k, none⟩ = some (.iface 122 (.pointer (some a))) := (hB1.cell hg).trans ha
      have hlt' : (k : Int) < (m : Int) + 1 := by omega
      have i0 : (0 : Int) ≤ (k : Int) := by omega
      have hsl := own_sl hown
      have HO := Lib.hid hown
      clear hown ha
      obtain ⟨va, vn, vc, rfl⟩ := hsl
      go_wp2_with fail
      refine (uwp_pe _ _ _ _ _ ⟨_, rfl⟩ ⟨_, _, _, rfl⟩).mono ?_
      rintro e w' ⟨rfl, rfl⟩
      go_wp2
      go_roundw
      case rel => exact ⟨k + 1, by omega, by go_num, by rw [accU_lt (by omega)]; exact HO.out, hB1⟩
      case measure => simp [intOf]; omega
    · by_cases hke : k = m
      · subst hke
        rw [accU_lt (by omega)] at hown
        have hc : wr.cell? ⟨g, k, none⟩ = some (.iface 64 (.pointer (some ⟨lt, 0, none⟩))) := (hB1.cell hg).trans HLI.out
        have hc2 : wr.cell? ⟨lt, 4, none⟩ = some (.string s) := (hB1.cell hlt).trans HL.out
        have hlt' : (k : Int) < (k : Int) + 1 := by omega
        have i0 : (0 : Int) ≤ (k : Int) := by omega
        have hsl := own_sl hown
        have HO := Lib.hid hown
        have HC2 := Lib.hid hc2
        clear hown hc2
        obtain ⟨va, vn, vc, rfl⟩ := hsl
        go_wp2_with fail
        refine (uwp_in _ _ l lt B s _ ⟨_, rfl⟩ hBw HO.out HC2.out hlt hs hll).mono ?_
        rintro e w' ⟨v', rfl, ho, hb'⟩
        have HO' := Lib.hid ho
        clear ho
        go_wp2
        go_roundw
        case rel => exact ⟨k + 1, by omega, by go_num, by rw [accU_eq]; exact HO'.out, hB1.trans hb'⟩
        case measure => first | (simp [intOf]; done) | (simp [intOf]; omega)
      · obtain rfl : k = m + 1 := by omega
        rw [accU_eq] at hown
        have hge : ¬ ((m : Int) + 1 < (m : Int) + 1) := by omega
        have HO := Lib.hid hown
        clear hown
        go_wp2
        go_ret2
        exact ⟨_, rfl, HO.out, hB1⟩
/-- The bytes that a part of kind k gives; its flag. -/
def ub (k : Int) (s : List UInt8) : List UInt8 := if k = 0 then unq s else if k = 3 then [] else s
def uf (k : Int) (s : List UInt8) : Bool := if k = 0 then qf s else if k = 3 then false else true
theorem ub_le (k : Int) (s : List UInt8) : (ub k s).length ≤ s.length := by
  unfold ub
  split
  · exact unq_le s
  · split <;> simp
theorem uwp_any (lo : Nat) (pp v u : Value) (l : List UInt8) (k : Int) (s : ByteArray) (w0 w : World) (hpp : ∃ a, pp = .pointer a) (h0 : Below w0.heap.size w0 w) (hown : w.ownsRow w0.heap.size 5 1 v l.length (l.map bv)) (hp : PartU lo k s u w0) (hs : s.size ≤ 2097152) (hll : l.length ≤ 2097152) :
    Calls Try.prog 75 #[pp, v, u, .bool false] w (EndU w0.heap.size w (l ++ ub k s.data.toList) (uf k s.data.toList)) := by
  have hB := h0.size
  rcases hp with ⟨rfl, b, rfl, h1, _⟩ | ⟨rfl, b, rfl, h1, _⟩ | ⟨rfl, b, g, lt, rfl, h1, h2, h3, _⟩ | ⟨rfl, b, rfl⟩ | ⟨rfl, b, g, p, lt, rfl, h1, h2, h3, h4, _⟩
  · exact uwp_out pp v l b _ s w hpp hB hown (keepc h0 h1) (World.block_lt_of_cell? _ _ h1) hs hll
  · exact uwp_sgl pp v l b _ s w hpp hB hown (keepc h0 h1) hs hll
  · exact uwp_dq pp v l b g lt 0 1 _ s w hpp hB hown (keepc h0 h1) (by omega) (fun k hk => absurd hk (by omega)) (keepc h0 h2) (keepc h0 h3) (World.block_lt_of_cell? _ _ h1) (World.block_lt_of_cell? _ _ h2) (World.block_lt_of_cell? _ _ h3) hs hll
  · refine (uwp_pe pp v false _ w hpp (own_sl hown)).mono ?_
    rintro e w' ⟨rfl, rfl⟩
    have e1 : l ++ ub 3 s.data.toList = l := by unfold ub; simp
    rw [e1]
    exact ⟨v, rfl, hown, Below.refl _ _⟩
  · have hpe : ∀ k, k < 1 → ∃ a, w.cell? ⟨g, k, none⟩ = some (.iface 122 (.pointer (some a))) := by
      intro k hk
      obtain rfl : k = 0 := by omega
      exact ⟨_, keepc h0 h2⟩
    exact uwp_dq pp v l b g lt 1 2 _ s w hpp hB hown (keepc h0 h1) (by omega) hpe (keepc h0 h3) (keepc h0 h4) (World.block_lt_of_cell? _ _ h1) (World.block_lt_of_cell? _ _ h2) (World.block_lt_of_cell? _ _ h4) hs hll
end Go.Proofs.Ytnjdffnbkjjmeaa
