/- Seat b4255aF: the plain arithmetic of the ring's words: a generation above a count; a start stamped with its generation. -/
import Derived.WalkKit
import Derived.ProofKit
import Derived.OpenShut
namespace Go.Proofs.YbulkcjceFmt.Wn
open Go.RowKit

/-- the bit by which a stamp tells the generations before and after it apart -/
def tb (g : Nat) : Nat := (g + 1) % 2097152 / 2 % 2
/-- window.go's 'stamp' -/
def stampN (X g : Nat) : Nat := X ^^^ (g * 4398046511104) ^^^ (tb g * 9223372036854775808)

theorem tb_le (g : Nat) : tb g ≤ 1 := by unfold tb; omega

theorem xor_back (X a b : Nat) : X ^^^ a ^^^ b ^^^ a ^^^ b = X := by
  apply Nat.eq_of_testBit_eq
  intro i
  simp only [Nat.testBit_xor]
  cases X.testBit i <;> cases a.testBit i <;> cases b.testBit i <;> rfl
theorem stamp_inv (X g : Nat) : stampN (stampN X g) g = X := xor_back _ _ _

theorem stamp_lt {X g : Nat} (hX : X < 18446744073709551616) (hg : g < 2097152) : stampN X g < 18446744073709551616 := by
  have h1 : X < 2 ^ 64 := by omega
  have h2 : g * 4398046511104 < 2 ^ 64 := by omega
  have h3 : tb g * 9223372036854775808 < 2 ^ 64 := Nat.lt_of_le_of_lt (Nat.mul_le_mul_right _ (tb_le g)) (by decide)
  have := Nat.xor_lt_two_pow (Nat.xor_lt_two_pow h1 h2) h3
  unfold stampN
  omega

theorem stamp_top {X g : Nat} (hg : g < 2097152) : stampN X g / 9223372036854775808 = (X / 9223372036854775808) ^^^ tb g := by
  unfold stampN
  have e : (9223372036854775808 : Nat) = 2 ^ 63 := by decide
  rw [e, ← Nat.shiftRight_eq_div_pow, ← Nat.shiftRight_eq_div_pow, Nat.shiftRight_xor_distrib, Nat.shiftRight_xor_distrib]
  have e1 : (g * 4398046511104) >>> 63 = 0 := by rw [Nat.shiftRight_eq_div_pow]; omega
  have e2 : (tb g * 2 ^ 63) >>> 63 = tb g := by rw [Nat.shiftRight_eq_div_pow]; omega
  rw [e1, e2, Nat.xor_zero]

/-- the walk's own spelling of 'stamp' -/
theorem stamp_eq (X g : Nat) (hX : X < 18446744073709551616) (hg : g < 2097152) :
    bits BinOp.xor IntKind.u64 (bits BinOp.xor IntKind.u64 (IntKind.u64.wrap (wrap64 X)) (g * 4398046511104)) (IntKind.u64.wrap (bits BinOp.and IntKind.u64 (((g : Int) + 1) % 2097152 / 2) 1 * 9223372036854775808)) = ((stampN X g : Nat) : Int) := by
  have a1 : IntKind.u64.wrap (wrap64 X) = (X : Int) := by rw [IntKind.wrap_u64]; unfold wrap64; omega
  have a2 : ((g : Int) * 4398046511104) = ((g * 4398046511104 : Nat) : Int) := by omega
  have a3 : (((g : Int) + 1) % 2097152 / 2) = (((g + 1) % 2097152 / 2 : Nat) : Int) := by omega
  have a4 : bits BinOp.and IntKind.u64 (((g + 1) % 2097152 / 2 : Nat) : Int) ((1 : Nat) : Int) = ((tb g : Nat) : Int) := by
    rw [u64_and_nat _ _ (by omega) (by decide)]
    have : ((g + 1) % 2097152 / 2) &&& 1 = (g + 1) % 2097152 / 2 % 2 := Nat.and_one_is_mod _
    rw [this]; rfl
  have a5 : IntKind.u64.wrap (((tb g : Nat) : Int) * 9223372036854775808) = ((tb g * 9223372036854775808 : Nat) : Int) := by
    rw [IntKind.wrap_u64]; have := tb_le g; omega
  have a6 : X ^^^ g * 4398046511104 < 2 ^ 64 := Nat.xor_lt_two_pow (by omega) (by omega)
  rw [a1, a2, a3]
  have a4' : bits BinOp.and IntKind.u64 (((g + 1) % 2097152 / 2 : Nat) : Int) 1 = ((tb g : Nat) : Int) := a4
  rw [a4', a5, u64_xor_nat _ _ hX (by omega), u64_xor_nat _ _ (by omega) (by have := tb_le g; omega)]
  rfl

/-- a stale entry is told from a fresh one by its top bit -/
theorem tb_apart (g : Nat) : tb g ^^^ tb (g + 2) = 1 := by
  have h1 : (tb g = 0 ∧ tb (g + 2) = 1) ∨ (tb g = 1 ∧ tb (g + 2) = 0) := by unfold tb; omega
  rcases h1 with ⟨a, b⟩ | ⟨a, b⟩ <;> rw [a, b] <;> rfl

theorem stamp_top_fresh {S g : Nat} (hS : S < 4398046511104) (hg : g < 2097152) : stampN S g / 9223372036854775808 = tb g := by
  rw [stamp_top hg, Nat.div_eq_of_lt (by omega), Nat.zero_xor]

theorem and_one (G : Nat) (h : G < 18446744073709551616) : bits BinOp.and IntKind.u64 (G : Int) 1 = ((G % 2 : Nat) : Int) := by
  have := u64_and_nat G 1 h (by decide)
  rw [Nat.and_one_is_mod] at this
  exact this

theorem and_count (V : Nat) (h : V < 18446744073709551616) : bits BinOp.and IntKind.u64 (V : Int) 8796093022207 = ((V % 8796093022208 : Nat) : Int) := by
  have := u64_and_nat V 8796093022207 h (by decide)
  rw [show (8796093022207 : Nat) = 2 ^ 43 - 1 from rfl, Nat.and_two_pow_sub_one_eq_mod] at this
  exact this

theorem and_sweep (N : Nat) (h : N < 9223372036854775808) : bits BinOp.and IntKind.u64 (N : Int) 9223372036854775808 = 0 := by
  have := u64_and_nat N 9223372036854775808 (by omega) (by decide)
  have e : N &&& 9223372036854775808 = 0 := by
    apply Nat.eq_of_testBit_eq
    intro i
    rw [show (9223372036854775808 : Nat) = 2 ^ 63 from rfl, Nat.testBit_and, Nat.testBit_two_pow, Nat.zero_testBit]
    by_cases hi : 63 = i
    · subst hi; rw [Nat.testBit_lt_two_pow (by omega)]; rfl
    · simp [hi]
  rw [e] at this
  exact this

/-- a generation above a count -/
theorem or_word (G n : Nat) (hG : G < 2097152) (hn : n < 8796093022208) : bits BinOp.or IntKind.u64 ((G : Int) * 8796093022208) (n : Int) = ((G * 8796093022208 + n : Nat) : Int) := by
  have h := u64_or_nat (G * 8796093022208) n (by omega) (by omega)
  have e : G * 8796093022208 ||| n = G * 8796093022208 + n := by
    have := Nat.shiftLeft_add_eq_or_of_lt (show n < 2 ^ 43 by omega) G
    rw [Nat.shiftLeft_eq] at this
    rw [show (8796093022208 : Nat) = 2 ^ 43 from rfl]
    omega
  rw [e] at h
  have e2 : ((G : Int) * 8796093022208) = ((G * 8796093022208 : Nat) : Int) := by omega
  rw [e2]; exact h
end Go.Proofs.YbulkcjceFmt.Wn
