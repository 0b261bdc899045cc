/- The small callees: math.Abs (over the two functions without a body that it calls). -/
import Derived.Test.YbulkbfeqProg
import Derived.Test.YbulkbfeqPlain
import Derived.WalkKit
import Derived.WalkSpells
import Derived.WalkLawsBesides
import Derived.Laws.Externs
import Derived.Laws.BitsAllLaws
namespace Go.Proofs.Ybulkbfeq
open Go.RowKit
attribute [local go_sem] run_store_float

theorem bits_run (x : Nat) (w : World) : (callFunc 10 #[.float .f64 x]).run Yba.prog w = .ok (.value (.int .u64 x)) w :=
  (run_callFunc_extern (e := Extern.MathFloatBits.float64bits) Yba.func10 (by kernel_rfl) (by kernel_rfl) (by kernel_rfl) (by kernel_rfl) _ w)
theorem frombits_run (x : Int) (w : World) : (callFunc 9 #[.int .u64 x]).run Yba.prog w = .ok (.value (.float .f64 x.toNat)) w :=
  (run_callFunc_extern (e := Extern.MathFloatBits.float64frombits) Yba.func9 (by kernel_rfl) (by kernel_rfl) (by kernel_rfl) (by kernel_rfl) _ w)

theorem abs_bits (x : Nat) : (bits BinOp.andNot IntKind.u64 (x : Int) 9223372036854775808).toNat = fabs x := by
  have hm : BitVec.ofInt 64 (x : Int) = BitVec.ofInt 64 ((x % 18446744073709551616 : Nat) : Int) := by
    apply BitVec.eq_of_toNat_eq
    simp
    omega
  have e : bits BinOp.andNot IntKind.u64 (x : Int) 9223372036854775808 = bits BinOp.andNot IntKind.u64 ((x % 18446744073709551616 : Nat) : Int) 9223372036854775808 := by
    simp only [bits, IntKind.bits]
    rw [hm]
  rw [e, show (9223372036854775808 : Int) = ((9223372036854775808 : Nat) : Int) from rfl, u64_andNot_nat _ _ (by omega) (by omega), Int.toNat_natCast]
  show x % 18446744073709551616 &&& 9223372036854775807 = x % 2 ^ 63
  rw [show (9223372036854775807 : Nat) = 2 ^ 63 - 1 from rfl, Nat.and_two_pow_sub_one_eq_mod]
  omega

set_option maxHeartbeats 400000 in
theorem abs_any (x : Nat) (w : World) :
    Calls Yba.prog 8 #[.float .f64 x] w fun e w' => e = .returned (.float .f64 (fabs x)) ∧ w' = w := by
  have h1 := bits_run
  have h2 := frombits_run
  have h3 := abs_bits
  go_enter Yba.func8, Yba.ntmps8
  go_wp2
  go_ret
  exact ⟨rfl, rfl⟩

theorem abs_at (x : Nat) (w : World) : Calls Yba.prog 8 #[.float .f64 x] w fun e w' => e = .returned (.float .f64 (fabs x)) ∧ w = w' :=
  (abs_any x w).mono fun _ _ ⟨h1, h2⟩ => ⟨h1, h2.symm⟩

end Go.Proofs.Ybulkbfeq
