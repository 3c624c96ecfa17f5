/- Plain facts on token names: the 144 names are pairwise distinct, none of them begins as the numbered form does, and a decimal numeral tells its number. No program in sight. -/
import Derived.Lib.ItoaNum
namespace Go.Proofs.YtleldhnilecklaaDoor
/-- The value that a list of decimal digits denotes. -/
def digVal (l : List UInt8) : Nat := l.foldl (fun a d => a * 10 + (d.toNat - 48)) 0
theorem digVal_snoc (l : List UInt8) (d : UInt8) : digVal (l ++ [d]) = digVal l * 10 + (d.toNat - 48) := by simp [digVal, List.foldl_append]
theorem digit_toNat (k : Nat) (h : k < 10) : (UInt8.ofNat (48 + k)).toNat - 48 = k := by
  have h1 : (UInt8.ofNat (48 + k)).toNat = 48 + k := by simp; omega
  omega
theorem digVal_dec (u : Nat) : digVal (Lib.decDigits u) = u := by
  induction u using Nat.strongRecOn with
  | _ u ih =>
    rw [Lib.decDigits]
    split
    · rename_i h
      have : digVal ([] ++ [UInt8.ofNat (48 + u)]) = u := by rw [digVal_snoc, digit_toNat u h]; simp [digVal]
      simpa using this
    · rename_i h
      rw [digVal_snoc, ih (u / 10) (by omega), digit_toNat (u % 10) (by omega)]
      omega
theorem dec_inj {a b : Nat} (h : Lib.decDigits a = Lib.decDigits b) : a = b := by rw [← digVal_dec a, ← digVal_dec b, h]
def tokBytes : List UInt8 := [105, 108, 108, 101, 103, 97, 108, 84, 111, 107, 69, 79, 70, 78, 101, 119, 108, 76, 105, 116, 76, 105, 116, 87, 111, 114, 100, 76, 105, 116, 82, 101, 100, 105, 114, 114, 101, 97, 108, 84, 111, 107, 101, 110, 66, 111, 117, 110, 100, 97, 114, 121, 39, 34, 96, 38, 38, 38, 124, 124, 124, 124, 38, 38, 124, 38, 33, 36, 36, 39, 36, 34, 36, 123, 36, 91, 36, 40, 36, 40, 40, 123, 91, 91, 91, 40, 40, 40, 125, 93, 93, 93, 41, 41, 41, 59, 59, 59, 59, 38, 59, 59, 38, 59, 124, 33, 126, 43, 43, 45, 45, 42, 42, 42, 61, 61, 33, 61, 60, 61, 62, 61, 43, 61, 45, 61, 42, 61, 47, 61, 37, 61, 38, 61, 124, 61, 94, 61, 60, 60, 61, 62, 62, 61, 38, 38, 61, 124, 124, 61, 94, 94, 61, 42, 42, 61, 62, 62, 62, 60, 60, 62, 60, 38, 62, 38, 62, 124, 62, 62, 124, 60, 60, 60, 60, 45, 60, 60, 60, 38, 62, 38, 62, 124, 38, 62, 62, 38, 62, 62, 124, 60, 40, 61, 40, 62, 40, 43, 58, 43, 45, 58, 45, 63, 58, 63, 61, 58, 61, 37, 37, 37, 35, 35, 35, 58, 35, 58, 124, 58, 42, 94, 94, 94, 44, 44, 44, 64, 47, 47, 47, 46, 58, 45, 101, 45, 102, 45, 100, 45, 99, 45, 98, 45, 112, 45, 83, 45, 76, 45, 107, 45, 103, 45, 117, 45, 71, 45, 79, 45, 78, 45, 114, 45, 119, 45, 120, 45, 115, 45, 116, 45, 122, 45, 110, 45, 111, 45, 118, 45, 82, 61, 126, 45, 110, 116, 45, 111, 116, 45, 101, 102, 45, 101, 113, 45, 110, 101, 45, 108, 101, 45, 103, 101, 45, 108, 116, 45, 103, 116, 63, 40, 42, 40, 43, 40, 64, 40, 33, 40]
def tokIdx : List Nat := [0, 10, 13, 17, 20, 27, 35, 52, 53, 54, 55, 56, 58, 60, 61, 63, 65, 67, 68, 70, 72, 74, 76, 78, 81, 82, 83, 85, 86, 88, 89, 90, 92, 93, 95, 96, 98, 100, 103, 105, 106, 107, 109, 111, 112, 114, 116, 118, 120, 122, 124, 126, 128, 130, 132, 134, 136, 138, 141, 144, 147, 150, 153, 156, 157, 159, 160, 162, 164, 166, 168, 171, 173, 176, 179, 181, 184, 187, 191, 193, 195, 197, 198, 200, 201, 203, 204, 206, 207, 209, 210, 212, 213, 215, 217, 219, 221, 222, 224, 225, 227, 228, 229, 231, 232, 233, 235, 237, 239, 241, 243, 245, 247, 249, 251, 253, 255, 257, 259, 261, 263, 265, 267, 269, 271, 273, 275, 277, 279, 281, 283, 286, 289, 292, 295, 298, 301, 304, 307, 310, 312, 314, 316, 318, 320]
def tokPieces : List (List UInt8) := [[105, 108, 108, 101, 103, 97, 108, 84, 111, 107], [69, 79, 70], [78, 101, 119, 108], [76, 105, 116], [76, 105, 116, 87, 111, 114, 100], [76, 105, 116, 82, 101, 100, 105, 114], [114, 101, 97, 108, 84, 111, 107, 101, 110, 66, 111, 117, 110, 100, 97, 114, 121], [39], [34], [96], [38], [38, 38], [124, 124], [124], [124, 38], [38, 124], [38, 33], [36], [36, 39], [36, 34], [36, 123], [36, 91], [36, 40], [36, 40, 40], [123], [91], [91, 91], [40], [40, 40], [125], [93], [93, 93], [41], [41, 41], [59], [59, 59], [59, 38], [59, 59, 38], [59, 124], [33], [126], [43, 43], [45, 45], [42], [42, 42], [61, 61], [33, 61], [60, 61], [62, 61], [43, 61], [45, 61], [42, 61], [47, 61], [37, 61], [38, 61], [124, 61], [94, 61], [60, 60, 61], [62, 62, 61], [38, 38, 61], [124, 124, 61], [94, 94, 61], [42, 42, 61], [62], [62, 62], [60], [60, 62], [60, 38], [62, 38], [62, 124], [62, 62, 124], [60, 60], [60, 60, 45], [60, 60, 60], [38, 62], [38, 62, 124], [38, 62, 62], [38, 62, 62, 124], [60, 40], [61, 40], [62, 40], [43], [58, 43], [45], [58, 45], [63], [58, 63], [61], [58, 61], [37], [37, 37], [35], [35, 35], [58, 35], [58, 124], [58, 42], [94], [94, 94], [44], [44, 44], [64], [47], [47, 47], [46], [58], [45, 101], [45, 102], [45, 100], [45, 99], [45, 98], [45, 112], [45, 83], [45, 76], [45, 107], [45, 103], [45, 117], [45, 71], [45, 79], [45, 78], [45, 114], [45, 119], [45, 120], [45, 115], [45, 116], [45, 122], [45, 110], [45, 111], [45, 118], [45, 82], [61, 126], [45, 110, 116], [45, 111, 116], [45, 101, 102], [45, 101, 113], [45, 110, 101], [45, 108, 101], [45, 103, 101], [45, 108, 116], [45, 103, 116], [63, 40], [42, 40], [43, 40], [64, 40], [33, 40]]
def tokPiece (i : Nat) : List UInt8 := tokPieces.getD i []
theorem tokPiece_eq : ∀ i : Fin 144, (tokBytes.drop (tokIdx.getD i.val 0)).take (tokIdx.getD (i.val + 1) 0 - tokIdx.getD i.val 0) = tokPiece i.val := by decide +kernel
theorem tokPiece_inj : ∀ i j : Fin 144, tokPiece i.val = tokPiece j.val → i = j := by decide +kernel
theorem tokPiece_head : ∀ i : Fin 144, (tokPiece i.val).take 6 ≠ [116, 111, 107, 101, 110, 40] := by decide +kernel
/-- The text of a token. -/
def tokText (i : Nat) : List UInt8 := if i < 144 then tokPiece i else [116, 111, 107, 101, 110, 40] ++ Lib.decDigits i ++ [41]
theorem tokText_inj {a b : Nat} (h : tokText a = tokText b) : a = b := by
  unfold tokText at h
  by_cases ha : a < 144
  · by_cases hb : b < 144
    · rw [if_pos ha, if_pos hb] at h
      have := tokPiece_inj ⟨a, ha⟩ ⟨b, hb⟩ h
      simpa using this
    · rw [if_pos ha, if_neg hb] at h
      exact absurd (by rw [h]; rfl) (tokPiece_head ⟨a, ha⟩)
  · by_cases hb : b < 144
    · rw [if_neg ha, if_pos hb] at h
      exact absurd (by rw [← h]; rfl) (tokPiece_head ⟨b, hb⟩)
    · rw [if_neg ha, if_neg hb] at h
      exact dec_inj (List.append_cancel_left (List.append_cancel_right h))
theorem tokIdx_le : ∀ i : Fin 144, tokIdx.getD i.val 0 ≤ tokIdx.getD (i.val + 1) 0 ∧ tokIdx.getD (i.val + 1) 0 ≤ 320 := by decide +kernel
end Go.Proofs.YtleldhnilecklaaDoor
