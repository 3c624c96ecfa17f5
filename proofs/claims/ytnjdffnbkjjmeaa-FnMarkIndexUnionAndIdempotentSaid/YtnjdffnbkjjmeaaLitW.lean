/- zzB1LitWord: a new word of one literal. -/
import Derived.Test.YtnjdffnbkjjmeaaGrA
namespace Go.Proofs.Ytnjdffnbkjjmeaa
open Go.RowKit
theorem litWord116 (s : ByteArray) (w : World) : Calls Try.prog 80 #[.string s] w fun e w' => ∃ (b : Nat) (cs : Array Value), e = .returned (.pointer (some ⟨b, 0, none⟩)) ∧ w.heap.size ≤ b ∧ Bk w' b 129 cs ∧ Below w.heap.size w w' := by
  go_enter Try.func80, Try.ntmps80
  go_wp2
  go_ret
  exact ⟨_, _, rfl, by omega, Bk.newAt (by simp), by go_grown⟩
end Go.Proofs.Ytnjdffnbkjjmeaa
