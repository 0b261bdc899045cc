/-
  WORDS THAT ARE A NOUGHT (isZ: +0, -0) OR A UNIT (isU: 1, -1): what the operations and tests say of them. (No Go in sight.)
-/
import Derived.Test.YbulkbfeqBox
namespace Go.Proofs.Ybulkbfeq
open Ieee
attribute [local go_sem] run_store_float

abbrev W1 : Nat := 4607182418800017408
abbrev M1 : Nat := 13830554455654793216
def isZ (x : Nat) : Prop := x = 0 ∨ x = 9223372036854775808
def isU (x : Nat) : Prop := x = W1 ∨ x = M1
def isZU (x : Nat) : Prop := isZ x ∨ isU x

theorem isZ_zero : isZ 0 := .inl rfl
theorem isU_one : isU W1 := .inl rfl

theorem div_zu {x f : Nat} (hx : isZU x) (hf : isU f) : (double.div x f).isSome = true := by
  rcases hx with hx | hx <;> rcases hx with rfl | rfl <;> rcases hf with rfl | rfl <;> decide +kernel
theorem div_z {x f : Nat} (hx : isZ x) (hf : isU f) : isZ (fdiv x f) := by
  rcases hx with rfl | rfl <;> rcases hf with rfl | rfl <;> unfold isZ <;> decide +kernel
theorem div_u {x f : Nat} (hx : isU x) (hf : isU f) : isU (fdiv x f) := by
  rcases hx with rfl | rfl <;> rcases hf with rfl | rfl <;> unfold isU <;> decide +kernel
theorem div_self {f : Nat} (hf : isU f) : fdiv f f = W1 := by rcases hf with rfl | rfl <;> decide +kernel
theorem div_one {f : Nat} (hf : isU f) : fdiv W1 f = f := by rcases hf with rfl | rfl <;> decide +kernel
theorem mul_zu {x y : Nat} (hx : isZU x) (hy : isZU y) : (double.mul x y).isSome = true := by
  rcases hx with hx | hx <;> rcases hx with rfl | rfl <;> rcases hy with hy | hy <;> rcases hy with rfl | rfl <;> decide +kernel
theorem mul_uz {x y : Nat} (hx : isU x) (hy : isZ y) : isZ (fmul x y) := by
  rcases hx with rfl | rfl <;> rcases hy with rfl | rfl <;> unfold isZ <;> decide +kernel
theorem mul_uu {x y : Nat} (hx : isU x) (hy : isU y) : isU (fmul x y) := by
  rcases hx with rfl | rfl <;> rcases hy with rfl | rfl <;> unfold isU <;> decide +kernel
theorem mul_one {x : Nat} (hx : isU x) : fmul x W1 = x := by rcases hx with rfl | rfl <;> decide +kernel
theorem sub_zu {x y : Nat} (hx : isZU x) (hy : isZU y) : (double.sub x y).isSome = true := by
  rcases hx with hx | hx <;> rcases hx with rfl | rfl <;> rcases hy with hy | hy <;> rcases hy with rfl | rfl <;> decide +kernel
theorem sub_zz {x y : Nat} (hx : isZ x) (hy : isZ y) : isZ (fsub x y) := by
  rcases hx with rfl | rfl <;> rcases hy with rfl | rfl <;> unfold isZ <;> decide +kernel
theorem sub_uz {x y : Nat} (hx : isU x) (hy : isZ y) : isU (fsub x y) := by
  rcases hx with rfl | rfl <;> rcases hy with rfl | rfl <;> unfold isU <;> decide +kernel
theorem sub_zu' {x y : Nat} (hx : isZ x) (hy : isU y) : isU (fsub x y) := by
  rcases hx with rfl | rfl <;> rcases hy with rfl | rfl <;> unfold isU <;> decide +kernel
theorem sub_self {x : Nat} (hx : isU x) : isZ (fsub x x) := by rcases hx with rfl | rfl <;> unfold isZ <;> decide +kernel
theorem gt_z {x y : Nat} (hx : isZ x) (hy : isZU y) : fgt (fabs x) (fabs y) = false := by
  rcases hx with rfl | rfl <;> rcases hy with hy | hy <;> rcases hy with rfl | rfl <;> decide +kernel
theorem gt_uz {x y : Nat} (hx : isU x) (hy : isZ y) : fgt (fabs x) (fabs y) = true := by
  rcases hx with rfl | rfl <;> rcases hy with rfl | rfl <;> decide +kernel
theorem gt_uu {x y : Nat} (hx : isU x) (hy : isU y) : fgt (fabs x) (fabs y) = false := by
  rcases hx with rfl | rfl <;> rcases hy with rfl | rfl <;> decide +kernel
theorem small_z {x : Nat} (hx : isZ x) : flt (fabs x) 4427486594234968593 = true := by rcases hx with rfl | rfl <;> decide +kernel
theorem small_u {x : Nat} (hx : isU x) : flt (fabs x) 4427486594234968593 = false := by rcases hx with rfl | rfl <;> decide +kernel
theorem ne_z {x : Nat} (hx : isZ x) : fne x 0 = false := by rcases hx with rfl | rfl <;> decide +kernel
theorem ne_u {x : Nat} (hx : isU x) : fne x 0 = true := by rcases hx with rfl | rfl <;> decide +kernel
theorem ne_self {x : Nat} (hx : isU x) : fne x x = false := by rcases hx with rfl | rfl <;> decide +kernel
theorem not_zu {x : Nat} (hx : isZ x) (hy : isU x) : False := by
  rcases hx with rfl | rfl <;> rcases hy with h | h <;> exact absurd h (by decide)

end Go.Proofs.Ybulkbfeq
