/- ParamExp.simple by the expansion's extras, and what zzParamExp_b2 lays. -/
import Derived.Test.YtnjdffnbkjjmeaaSP
namespace Go.Proofs.Ytnjdffnbkjjmeaa
open Go.RowKit
abbrev peC (fl : Value) (ex ln wi is : Bool) (sp gl rc : Int) (pa ne ix mo sl re : Value) (na : Int) (xp : Value) : Array Value := #[.int .u32 0, .int .u32 0, .int .u32 0, .int .u32 0, .bool true, fl, .bool ex, .bool ln, .bool wi, .bool is, .int .u8 sp, .int .u8 gl, .int .u8 rc, pa, ne, ix, mo, sl, re, .int .u32 na, xp]
def SimpleIs (cs : Array Value) (b : Bool) : Prop := ∀ (pe : Nat) (W : World), Bk W pe 142 cs → Calls Try.prog 88 #[.pointer (some ⟨pe, 0, none⟩)] W fun e w' => e = .returned (.bool b) ∧ W = w'
end Go.Proofs.Ytnjdffnbkjjmeaa
