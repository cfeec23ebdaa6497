/- The plain mathematics of mix and its inverse: no Go in sight but the model's own 'bits' and 'wrap'. -/
import Derived.Laws.Bits64
namespace Go.Proofs.Ybulkfiyu

/-- 'x ^ x/s' on a uint64. -/
def xs (s a : Int) : Int := bits .xor .u64 a (a / s)
/-- mix, as the walk writes it. -/
def mixI (a : Int) : Int :=
  xs 2147483648 (IntKind.u64.wrap (xs 134217728 (IntKind.u64.wrap (xs 1073741824 a * 13787848793156543929)) * 10723151780598845931))
/-- unshift in two rounds. -/
def ush (s t a : Int) : Int := bits .xor .u64 (bits .xor .u64 a (a / s)) (a / t)
/-- Newton's iteration, k rounds. -/
def nwt (c : Int) : Nat → Int
  | 0 => c
  | k + 1 => IntKind.u64.wrap (nwt c k * IntKind.u64.wrap (2 - IntKind.u64.wrap (c * nwt c k)))
def unmixI (a : Int) : Int :=
  ush 1073741824 1152921504606846976 (IntKind.u64.wrap (ush 134217728 18014398509481984 (IntKind.u64.wrap (ush 2147483648 4611686018427387904 a * nwt 10723151780598845931 5)) * nwt 13787848793156543929 5))

theorem nwt_2 : nwt 10723151780598845931 5 = 3573116690164977347 := by decide
theorem nwt_1 : nwt 13787848793156543929 5 = 10871156337175269513 := by decide

theorem xor_bv (x y : BitVec 64) : bits .xor .u64 (x.toNat : Int) (y.toNat : Int) = ((x ^^^ y).toNat : Int) := by
  rw [bits_xor_u64_nat _ _ x.isLt y.isLt, BitVec.toNat_xor]
theorem div_bv (x : BitVec 64) (s : Nat) : (x.toNat : Int) / ((2 ^ s : Nat) : Int) = ((x >>> s).toNat : Int) := by
  rw [BitVec.toNat_ushiftRight, Nat.shiftRight_eq_div_pow]; simp
theorem mul_bv (x : BitVec 64) (c : Nat) : IntKind.u64.wrap ((x.toNat : Int) * (c : Int)) = ((x * BitVec.ofNat 64 c).toNat : Int) := by
  rw [IntKind.wrap_u64, BitVec.toNat_mul, BitVec.toNat_ofNat, Nat.mul_mod_mod]
  simp

theorem xs_bv (x : BitVec 64) (s : Nat) : xs ((2 ^ s : Nat) : Int) (x.toNat : Int) = ((x ^^^ x >>> s).toNat : Int) := by
  unfold xs; rw [div_bv, xor_bv]
theorem ush_bv (x : BitVec 64) (s t : Nat) : ush ((2 ^ s : Nat) : Int) ((2 ^ t : Nat) : Int) (x.toNat : Int) = ((x ^^^ x >>> s ^^^ x >>> t).toNat : Int) := by
  unfold ush; rw [div_bv, div_bv, xor_bv, xor_bv]

/-- undoing 'x ^ x>>s' where 3s >= 64. -/
theorem undo (x : BitVec 64) (s : Nat) (h : 64 ≤ s + (s + s)) :
    ((x ^^^ x >>> s) ^^^ (x ^^^ x >>> s) >>> s ^^^ (x ^^^ x >>> s) >>> (s + s)) = x := by
  apply BitVec.eq_of_getLsbD_eq
  intro i hi
  simp only [BitVec.getLsbD_xor, BitVec.getLsbD_ushiftRight]
  have e : x.getLsbD (s + (s + s + i)) = false := BitVec.getLsbD_of_ge _ _ (by omega)
  rw [e, show s + s + i = s + (s + i) by omega]
  cases x.getLsbD i <;> cases x.getLsbD (s + i) <;> cases x.getLsbD (s + (s + i)) <;> rfl

theorem unmix_mix (a : Int) (h0 : 0 ≤ a) (h1 : a < 18446744073709551616) : unmixI (mixI a) = a := by
  obtain ⟨x, rfl⟩ : ∃ x : BitVec 64, a = (x.toNat : Int) := by
    refine ⟨BitVec.ofNat 64 a.toNat, ?_⟩
    rw [BitVec.toNat_ofNat]; omega
  have hm : mixI (x.toNat : Int) = xs ((2 ^ 31 : Nat) : Int) (IntKind.u64.wrap (xs ((2 ^ 27 : Nat) : Int) (IntKind.u64.wrap (xs ((2 ^ 30 : Nat) : Int) (x.toNat : Int) * ((13787848793156543929 : Nat) : Int))) * ((10723151780598845931 : Nat) : Int))) := by rfl
  have hu : ∀ y : BitVec 64, unmixI (y.toNat : Int) = ush ((2 ^ 30 : Nat) : Int) ((2 ^ 60 : Nat) : Int) (IntKind.u64.wrap (ush ((2 ^ 27 : Nat) : Int) ((2 ^ 54 : Nat) : Int) (IntKind.u64.wrap (ush ((2 ^ 31 : Nat) : Int) ((2 ^ 62 : Nat) : Int) (y.toNat : Int) * ((3573116690164977347 : Nat) : Int))) * ((10871156337175269513 : Nat) : Int))) := by
    intro y; unfold unmixI; rw [nwt_1, nwt_2]; rfl
  rw [hm, xs_bv, mul_bv, xs_bv, mul_bv, xs_bv, hu, ush_bv, undo _ 31 (by omega), mul_bv, BitVec.mul_assoc,
    show BitVec.ofNat 64 10723151780598845931 * BitVec.ofNat 64 3573116690164977347 = 1#64 by decide, BitVec.mul_one,
    ush_bv, undo _ 27 (by omega), mul_bv, BitVec.mul_assoc,
    show BitVec.ofNat 64 13787848793156543929 * BitVec.ofNat 64 10871156337175269513 = 1#64 by decide, BitVec.mul_one,
    ush_bv, undo _ 30 (by omega)]
theorem mix_zero : mixI 0 = 0 := by decide
theorem xs_rng (s a : Int) : 0 ≤ xs s a ∧ xs s a < 18446744073709551616 := by
  unfold xs
  show 0 ≤ IntKind.u64.wrap _ ∧ IntKind.u64.wrap _ < _
  rw [IntKind.wrap_u64]; omega
end Go.Proofs.Ybulkfiyu
