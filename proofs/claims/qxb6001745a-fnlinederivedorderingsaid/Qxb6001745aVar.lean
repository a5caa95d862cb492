/- The plain side: what is encoded is what is decoded; the text of a stanza's lines. No walk in this text. -/
import Derived.WalkKit
import Derived.Lib.Varint
import Derived.Lib.VarintDec
import Derived.Lib.VarintMem
namespace Go.Proofs.Qxb6001745a.Var
open Go

theorem toNat_toUInt8 {a : Nat} (h : a < 256) : (a.toUInt8).toNat = a := Lib.toUInt8_toNat h

/-- i bytes are read; k = 9 - i -/
theorem dec_from : ∀ (k i acc x : Nat) (rest : List UInt8), i + k = 9 → x < 2 * 128 ^ k →
    Lib.uvarintFrom i acc (Lib.uvarint x ++ rest) = (acc + x * 2 ^ (7 * i), (i : Int) + ((Lib.uvarint x).length : Int)) := by
  intro k
  induction k with
  | zero =>
    intro i acc x rest hi hx
    have hi9 : i = 9 := by omega
    have hx2 : x < 2 := by simpa using hx
    subst hi9
    rw [Lib.uvarint_small (by omega)]
    have hb := toNat_toUInt8 (a := x) (by omega)
    simp only [List.cons_append, List.nil_append, Lib.uvarintFrom, hb]
    rw [if_neg (by omega), if_pos (by omega), if_neg (by omega)]
    rfl
  | succ k ih =>
    intro i acc x rest hi hx
    by_cases h : x < 128
    · rw [Lib.uvarint_small h]
      have hb := toNat_toUInt8 (a := x) (by omega)
      simp only [List.cons_append, List.nil_append, Lib.uvarintFrom, hb]
      rw [if_neg (by omega), if_pos h, if_neg (by omega)]
      rfl
    · rw [Lib.uvarint_big (by omega)]
      have hm : x % 128 < 128 := Nat.mod_lt _ (by decide)
      have hb := toNat_toUInt8 (a := x % 128 + 128) (by omega)
      simp only [List.cons_append, Lib.uvarintFrom, hb]
      rw [if_neg (by omega), if_neg (by omega)]
      have hx' : x / 128 < 2 * 128 ^ k := by
        apply Nat.div_lt_of_lt_mul
        rw [Nat.pow_succ] at hx
        omega
      rw [ih (i + 1) _ (x / 128) rest (by omega) hx']
      have e1 : (x % 128 + 128) % 128 = x % 128 := by omega
      have e2 : 2 ^ (7 * (i + 1)) = 128 * 2 ^ (7 * i) := by
        rw [show 7 * (i + 1) = 7 + 7 * i from by omega, Nat.pow_add]
      rw [e1, e2]
      generalize 2 ^ (7 * i) = p
      have e3 : acc + x % 128 * p + x / 128 * (128 * p) = acc + x * p := by
        have hd : x % 128 + 128 * (x / 128) = x := Nat.mod_add_div x 128
        have : x * p = x % 128 * p + x / 128 * (128 * p) := by
          conv => lhs; rw [← hd]
          rw [Nat.add_mul, Nat.mul_comm 128 (x / 128), Nat.mul_assoc]
        omega
      rw [e3, List.length_cons]
      congr 1
      omega

def u64max : Nat := 18446744073709551616

theorem dec_uvarint (x : Nat) (rest : List UInt8) (h : x < u64max) : Lib.uvarintDec (Lib.uvarint x ++ rest) = (x, ((Lib.uvarint x).length : Int)) := by
  unfold Lib.uvarintDec
  rw [dec_from 9 0 0 x rest rfl (Nat.lt_of_lt_of_le h (by decide))]
  simp

/-- uint64(x), as a natural number -/
def u64n (x : Int) : Nat := (x % 18446744073709551616).toNat
theorem u64n_lt (x : Int) : u64n x < u64max := by unfold u64n u64max; omega
theorem u64n_nat (n : Nat) (h : n < 1000000000) : u64n (n : Int) = n := by unfold u64n; omega
theorem wrap_u64 (x : Int) : IntKind.u64.wrap x = ((u64n x : Nat) : Int) := by
  have e : IntKind.u64.wrap x = x % 18446744073709551616 := rfl
  rw [e]
  unfold u64n
  omega
theorem wrap_back (x : Int) (h0 : -9223372036854775808 ≤ x) (h1 : x ≤ 9223372036854775807) : IntKind.i64.wrap ((u64n x : Nat) : Int) = x := by
  have e : IntKind.i64.wrap ((u64n x : Nat) : Int) = (if ((u64n x : Nat) : Int) % 18446744073709551616 ≥ 9223372036854775808 then ((u64n x : Nat) : Int) % 18446744073709551616 - 18446744073709551616 else ((u64n x : Nat) : Int) % 18446744073709551616) := by
    simp [IntKind.wrap, IntKind.bits, IntKind.signed]
  rw [e]
  unfold u64n
  split <;> omega

/-- the lines, one uvarint after another -/
def enc (zs : List Int) : List UInt8 := zs.flatMap fun z => Lib.uvarint (u64n z)
theorem enc_nil : enc [] = [] := rfl
theorem enc_cons (z : Int) (zs : List Int) : enc (z :: zs) = Lib.uvarint (u64n z) ++ enc zs := by simp [enc]
theorem enc_append (a b : List Int) : enc (a ++ b) = enc a ++ enc b := by simp [enc]
theorem enc_length (zs : List Int) : (enc zs).length ≤ 10 * zs.length := by
  induction zs with
  | nil => simp [enc]
  | cons z zs ih =>
    rw [enc_cons, List.length_append, List.length_cons]
    have := Lib.uvarint_length64 (u64n_lt z)
    omega
/-- the head: the first line and the number of fields -/
def head (first : Int) (n : Nat) : List UInt8 := Lib.uvarint (u64n first) ++ Lib.uvarint n
theorem head_length (first : Int) (n : Nat) (h : n < 1000000000) : (head first n).length ≤ 20 := by
  unfold head
  rw [List.length_append]
  have h1 := Lib.uvarint_length64 (u64n_lt first)
  have h2 := Lib.uvarint_length64 (x := n) (by omega)
  omega
def text (first : Int) (zs : List Int) : List UInt8 := head first zs.length ++ enc zs
end Go.Proofs.Qxb6001745a.Var
