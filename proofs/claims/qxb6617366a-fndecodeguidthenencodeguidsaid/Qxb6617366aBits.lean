import Derived.Test.Qxb6617366aRows
import Derived.WalkKit
import Derived.WalkSpells
import Derived.WalkLawsBesides
import Derived.Lib.EndianBits
namespace Go.Proofs.Qxb6617366a
open Go.RowKit

/-- Four bytes, the least first, as one number. -/
def num32 (a b c d : Int) : Int := a + b * 256 + c * 65536 + d * 16777216
def num16 (a b : Int) : Int := a + b * 256

theorem ret_int {k : IntKind} {a b : Int} (h : a = b) : Ending.returned (.int k a) = .returned (.int k b) := by rw [h]

theorem bits_le32 (a b c d : Int) (ha : 0 ≤ a) (ha' : a ≤ 255) (hb : 0 ≤ b) (hb' : b ≤ 255) (hc : 0 ≤ c) (hc' : c ≤ 255) (hd : 0 ≤ d) (hd' : d ≤ 255) :
    bits BinOp.or IntKind.u32 (bits BinOp.or IntKind.u32 (bits BinOp.or IntKind.u32 a (b * 256)) (c * 65536)) (d * 16777216) = num32 a b c d := by
  rw [u32_or8 a (b * 256) ha (by omega) (by omega) (by omega) (by omega), u32_or16 (a + b * 256) (c * 65536) (by omega) (by omega) (by omega) (by omega) (by omega),
    u32_or24 (a + b * 256 + c * 65536) (d * 16777216) (by omega) (by omega) (by omega) (by omega) (by omega)]
  rfl

theorem bits_be32 (a b c d : Int) (ha : 0 ≤ a) (ha' : a ≤ 255) (hb : 0 ≤ b) (hb' : b ≤ 255) (hc : 0 ≤ c) (hc' : c ≤ 255) (hd : 0 ≤ d) (hd' : d ≤ 255) :
    bits BinOp.or IntKind.u32 (bits BinOp.or IntKind.u32 (bits BinOp.or IntKind.u32 (d * 16777216) (c * 65536)) (b * 256)) a = num32 a b c d := by
  rw [bits_join .u32 32 (by decide) wraps_u32 24 (d * 16777216) (c * 65536) (by omega) (by omega) (by omega) (by omega) (by omega) (by omega),
    bits_join .u32 32 (by decide) wraps_u32 16 (d * 16777216 + c * 65536) (b * 256) (by omega) (by omega) (by omega) (by omega) (by omega) (by omega),
    bits_join .u32 32 (by decide) wraps_u32 8 (d * 16777216 + c * 65536 + b * 256) a (by omega) (by omega) (by omega) (by omega) (by omega) (by omega)]
  unfold num32
  omega

theorem bits_le16 (a b : Int) (ha : 0 ≤ a) (ha' : a ≤ 255) (hb : 0 ≤ b) (hb' : b ≤ 255) : bits BinOp.or IntKind.u16 a (b * 256) = num16 a b := by
  rw [u16_or8 a (b * 256) ha (by omega) (by omega) (by omega) (by omega)]
  rfl

theorem bits_be16 (a b : Int) (ha : 0 ≤ a) (ha' : a ≤ 255) (hb : 0 ≤ b) (hb' : b ≤ 255) : bits BinOp.or IntKind.u16 (b * 256) a = num16 a b := by
  rw [bits_join .u16 16 (by decide) wraps_u16 8 (b * 256) a (by omega) (by omega) (by omega) (by omega) (by omega) (by omega)]
  unfold num16
  omega

theorem le32_any (a b c d : Int) (ha : 0 ≤ a) (ha' : a ≤ 255) (hb : 0 ≤ b) (hb' : b ≤ 255) (hc : 0 ≤ c) (hc' : c ≤ 255) (hd : 0 ≤ d) (hd' : d ≤ 255) (w : World) :
    Calls Try.prog 19 #[.int .u8 a, .int .u8 b, .int .u8 c, .int .u8 d] w fun e w' => e = .returned (.int .u32 (num32 a b c d)) ∧ w' = w := by
  go_enter Try.func19, Try.ntmps19
  go_wp2
  go_ret
  exact ⟨ret_int (bits_le32 a b c d ha ha' hb hb' hc hc' hd hd'), rfl⟩
theorem be32_any (a b c d : Int) (ha : 0 ≤ a) (ha' : a ≤ 255) (hb : 0 ≤ b) (hb' : b ≤ 255) (hc : 0 ≤ c) (hc' : c ≤ 255) (hd : 0 ≤ d) (hd' : d ≤ 255) (w : World) :
    Calls Try.prog 20 #[.int .u8 d, .int .u8 c, .int .u8 b, .int .u8 a] w fun e w' => e = .returned (.int .u32 (num32 a b c d)) ∧ w' = w := by
  go_enter Try.func20, Try.ntmps20
  go_wp2
  go_ret
  exact ⟨ret_int (bits_be32 a b c d ha ha' hb hb' hc hc' hd hd'), rfl⟩
theorem le16_any (a b : Int) (ha : 0 ≤ a) (ha' : a ≤ 255) (hb : 0 ≤ b) (hb' : b ≤ 255) (w : World) :
    Calls Try.prog 21 #[.int .u8 a, .int .u8 b] w fun e w' => e = .returned (.int .u16 (num16 a b)) ∧ w' = w := by
  go_enter Try.func21, Try.ntmps21
  go_wp2
  go_ret
  exact ⟨ret_int (bits_le16 a b ha ha' hb hb'), rfl⟩
theorem be16_any (a b : Int) (ha : 0 ≤ a) (ha' : a ≤ 255) (hb : 0 ≤ b) (hb' : b ≤ 255) (w : World) :
    Calls Try.prog 22 #[.int .u8 b, .int .u8 a] w fun e w' => e = .returned (.int .u16 (num16 a b)) ∧ w' = w := by
  go_enter Try.func22, Try.ntmps22
  go_wp2
  go_ret
  exact ⟨ret_int (bits_be16 a b ha ha' hb hb'), rfl⟩
end Go.Proofs.Qxb6617366a
