/-
  math/bits.TrailingZeros16 (63) over its table.
-/
import Derived.Test.Qxb6615056aDoorRows
import Derived.Test.Qxb6615056aDoorBase
import Derived.Lib.TrailingZeros
namespace Go.Proofs.Qxb6615056aDoor
open Go.RowKit Go.Tocsin

/-- The program's variable holds the library's table. -/
def TabAt (w : World) : Prop := ∀ i, i < 32 → w.cell? ⟨0, i, none⟩ = some (.int .u8 (Lib.deBruijn32tab.getD i 0 : Nat))
theorem TabAt.kp {w w' : World} {S : List Nat} (h : TabAt w) (k : Kp S w w') (h0 : 0 ∉ S) : TabAt w' := fun i hi => k.cell' (h i hi) h0

theorem wrap_u16 (n : Int) : IntKind.u16.wrap n = n % 65536 := by simp [IntKind.wrap, IntKind.signed, IntKind.bits]
theorem bits_and_u16_nat (a b : Nat) (ha : a < 65536) (hb : b < 65536) : bits .and .u16 (a : Int) (b : Int) = ((a &&& b : Nat) : Int) := by
  have hx : a &&& b < 2 ^ 16 := Nat.and_lt_two_pow _ (by omega)
  have h1 : (BitVec.ofInt 16 (a : Int)).toNat = a := by
    rw [BitVec.ofInt_natCast, BitVec.toNat_ofNat]; exact Nat.mod_eq_of_lt (by omega)
  have h2 : (BitVec.ofInt 16 (b : Int)).toNat = b := by
    rw [BitVec.ofInt_natCast, BitVec.toNat_ofNat]; exact Nat.mod_eq_of_lt (by omega)
  show IntKind.u16.wrap ((BitVec.ofInt 16 (a : Int) &&& BitVec.ofInt 16 (b : Int)).toNat : Int) = _
  rw [BitVec.toNat_and, h1, h2, wrap_u16]
  omega

theorem tz16_key (x a : Nat) (hx : x < 65536) (hx0 : x ≠ 0) (hlow : x &&& (65536 - x) = a) :
    bits BinOp.and IntKind.u16 (x : Int) (IntKind.u16.wrap (-(x : Int))) % 4294967296 * 125613361 % 4294967296 / 134217728 = ((a * 125613361 % 4294967296 / 134217728 : Nat) : Int) := by
  have e1 : IntKind.u16.wrap (-(x : Int)) = ((65536 - x : Nat) : Int) := by rw [wrap_u16]; omega
  rw [e1, bits_and_u16_nat x _ hx (by omega), hlow]
  omega

set_option maxHeartbeats 800000 in
set_option maxRecDepth 100000 in
theorem tz_core (x k idx : Nat) (w : World) (hx0 : ((x : Int) == 0) = false)
    (key : bits BinOp.and IntKind.u16 (x : Int) (IntKind.u16.wrap (-(x : Int))) % 4294967296 * 125613361 % 4294967296 / 134217728 = (idx : Int)) (hi : idx < 32) (hk : k < 32) (hcell : w.cell? ⟨0, idx, none⟩ = some (.int .u8 k)) :
    Calls Tryd.prog 30 #[.int .u16 x] w fun e w' => e = .returned (.int .i64 k) ∧ w' = w := by
  go_enter Tryd.func30, Tryd.ntmps30
  go_wp2_with (simp only [key])
  go_ret
  exact ⟨rfl, rfl⟩

theorem tz_calls (x : Nat) (w : World) (h0 : x ≠ 0) (hx : x < 65536) (hT : TabAt w) :
    Calls Tryd.prog 30 #[.int .u16 x] w fun e w' => e = .returned (.int .i64 (Lib.ctz 16 x : Nat)) ∧ w' = w := by
  obtain ⟨hlow, hk⟩ := Lib.lowest_bit 16 x h0 hx
  obtain ⟨hi, htab⟩ := Lib.deBruijn32_at _ (Nat.lt_trans hk (by omega))
  have hc := hT _ hi
  rw [htab] at hc
  exact tz_core x _ _ w (by simp; omega) (tz16_key x _ hx h0 hlow) hi (Nat.lt_trans hk (by omega)) hc
end Go.Proofs.Qxb6615056aDoor
