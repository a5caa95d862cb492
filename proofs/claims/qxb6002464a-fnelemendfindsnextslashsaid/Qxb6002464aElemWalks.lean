import Derived.Test.Qxb6002464aRows
import Derived.WalkKit
import Derived.WalkSpells
import Derived.WalkLawsBesides
import Derived.Lib.Bytealg
import Derived.Lib.Walk
namespace Go.Proofs.Qxb6002464a.Elem
open Go.RowKit Go.Proofs

theorem hide {p : Prop} (h : p) : Hid p := h
theorem ret_bool {a b : Bool} (h : a = b) : Ending.returned (.bool a) = .returned (.bool b) := by rw [h]
theorem ret_int {k : IntKind} {a b : Int} (h : a = b) : Ending.returned (.int k a) = .returned (.int k b) := by rw [h]

set_option maxHeartbeats 400000 in
set_option maxRecDepth 100000 in
theorem lite_IndexByte (s : ByteArray) (c : Int) (w : World) :
    Calls Try.prog 31 #[.string s, .int .u8 c] w fun e w' => e = .returned (.int .i64 (Lib.indexByte s.data.toList c.toNat.toUInt8)) ∧ w' = w := by
  go_enter Try.func31, Try.ntmps31
  go_wp2
  rw [run_callFunc_extern Try.func35 (by kernel_rfl) (by kernel_rfl) (by kernel_rfl) (e := Extern.BytealgIndexByte.indexByte) (by kernel_rfl), Lib.run_indexByteString]
  simp only [Result.andThen]
  rw [Oper.upon_value]
  go_wp2
  go_ret
  exact ⟨rfl, rfl⟩

set_option maxHeartbeats 400000 in
theorem strings_IndexByte (s : ByteArray) (c : Int) (w : World) :
    Calls Try.prog 24 #[.string s, .int .u8 c] w fun e w' => e = .returned (.int .i64 (Lib.indexByte s.data.toList c.toNat.toUInt8)) ∧ w' = w := by
  go_enter Try.func24, Try.ntmps24
  go_wp2_with (go_at_call 31; refine (lite_IndexByte _ _ _).mono ?_; rintro e w' ⟨rfl, rfl⟩)
  go_ret
  exact ⟨rfl, rfl⟩

theorem indexByte_spec (c : UInt8) : ∀ l : List UInt8, (Lib.indexByte l c = -1 ∧ c ∉ l) ∨ ∃ k : Nat, Lib.indexByte l c = (k : Int) ∧ l[k]? = some c ∧ ∀ j, j < k → l[j]? ≠ some c
  | [] => .inl ⟨rfl, by simp⟩
  | b :: l => by
    unfold Lib.indexByte
    by_cases hb : b = c
    · subst hb
      refine .inr ⟨0, by simp, by simp, fun j hj => absurd hj (Nat.not_lt_zero _)⟩
    · have hb' : (b == c) = false := by simpa using hb
      rcases indexByte_spec c l with ⟨h1, h2⟩ | ⟨k, h1, h2, h3⟩
      · refine .inl ⟨by simp [hb', h1], ?_⟩
        simp only [List.mem_cons, not_or]
        exact ⟨fun e => hb e.symm, h2⟩
      · refine .inr ⟨k + 1, ?_, by simpa using h2, ?_⟩
        · rw [h1, hb']
          have : ((k : Int) == -1) = false := by rw [beq_eq_false_iff_ne]; omega
          simp [this]
        · intro j hj
          cases j with
          | zero => simpa using hb
          | succ j => simpa using h3 j (by omega)

/-- e is the first slash of s from p on, or the end of s -/
def EndOf (s : ByteArray) (p e : Nat) : Prop :=
  p ≤ e ∧ e ≤ s.size ∧ (∀ j (h : j < s.size), p ≤ j → j < e → s[j] ≠ 47) ∧ (∀ h : e < s.size, s[e] = 47)

theorem get_some (s : ByteArray) (j : Nat) (h : j < s.size) : s.data.toList[j]? = some s[j] := by
  rw [List.getElem?_eq_getElem (by simpa using h)]; rfl

def slash (s : ByteArray) (p : Nat) : Int := Lib.indexByte (s.data.toList.drop p) 47

theorem ext_list (s : ByteArray) (p : Nat) : (s.extract p s.size).data.toList = s.data.toList.drop p := by
  rw [← Lib.toList_data, Lib.extract_toList, List.take_of_length_le (by simp)]

theorem strings_IndexByte_slash (s : ByteArray) (p : Nat) (w : World) :
    Calls Try.prog 24 #[.string (s.extract p s.size), .int .u8 47] w fun e w' => e = .returned (.int .i64 (slash s p)) ∧ w' = w := by
  have h := strings_IndexByte (s.extract p s.size) 47 w
  rw [ext_list] at h
  exact h

theorem slash_spec (s : ByteArray) (p : Nat) (hp : p ≤ s.size) :
    (slash s p = -1 ∧ EndOf s p s.size) ∨ ∃ k : Nat, slash s p = (k : Int) ∧ p + k < s.size ∧ EndOf s p (p + k) := by
  rcases indexByte_spec 47 (s.data.toList.drop p) with ⟨h1, h2⟩ | ⟨k, h1, h2, h3⟩
  · refine .inl ⟨h1, hp, Nat.le_refl _, ?_, fun h => absurd h (Nat.lt_irrefl _)⟩
    intro j hj hpj _ e
    apply h2
    rw [List.mem_iff_getElem?]
    refine ⟨j - p, ?_⟩
    rw [List.getElem?_drop, show p + (j - p) = j from by omega, get_some s j hj, e]
  · rw [List.getElem?_drop] at h2
    have hlt : p + k < s.size := by
      have := (List.getElem?_eq_some_iff.1 h2).1
      simpa using this
    refine .inr ⟨k, h1, hlt, by omega, by omega, ?_, ?_⟩
    · intro j hj hpj hjk e
      apply h3 (j - p) (by omega)
      rw [List.getElem?_drop, show p + (j - p) = j from by omega, get_some s j hj, e]
    · intro hh
      rw [get_some s _ hlt] at h2
      exact Option.some.inj h2

set_option maxHeartbeats 400000 in
theorem ElemEnd_any (s : ByteArray) (p : Nat) (w : World) (hs : s.size ≤ 1048576) (hp : p ≤ s.size) :
    Calls Try.prog 9 #[.string s, .int .i64 ((p : Int) - 1)] w fun e w' => (∃ n : Nat, e = .returned (.int .i64 n) ∧ EndOf s p n) ∧ w' = w := by
  rcases slash_spec s p hp with ⟨h1, h2⟩ | ⟨k, h1, h2, h3⟩
  · have H := hide h2
    clear h2
    go_enter Try.func9, Try.ntmps9
    go_wp2_with (go_at_call 24; refine (strings_IndexByte_slash _ _ _).mono ?_; rintro e w' ⟨rfl, rfl⟩)
    go_ret
    exact ⟨⟨s.size, rfl, H.out⟩, rfl⟩
  · have H := hide h3
    clear h3
    go_enter Try.func9, Try.ntmps9
    go_wp2_with (go_at_call 24; refine (strings_IndexByte_slash _ _ _).mono ?_; rintro e w' ⟨rfl, rfl⟩)
    go_ret
    exact ⟨⟨p + k, ret_int (by simp), H.out⟩, rfl⟩

theorem ne47 (b : UInt8) (h : b ≠ 47) : ((b.toNat : Int) == 47) = false := by
  rw [beq_eq_false_iff_ne]
  intro e
  apply h
  exact UInt8.toNat_inj.1 (by simp; omega)

set_option maxHeartbeats 400000 in
theorem law_big (s : ByteArray) (a : Int) (w : World) (hs : ¬ s.size ≤ 1048576) (hm : s.size ≤ maxLen) :
    Calls Try.prog 3 #[.string s, .int .i64 a] w fun e w' => e = .returned (.bool true) ∧ Grown w w' := by
  unfold maxLen at hm
  have h1 : (1048576 : Int) < (s.size : Int) := by omega
  go_enter Try.func3, Try.ntmps3
  go_wp2
  go_ret
  exact ⟨rfl, Grown.refl _⟩

set_option maxHeartbeats 400000 in
theorem law_lo (s : ByteArray) (a : Int) (w : World) (hs : s.size ≤ 1048576) (h : a < -1) :
    Calls Try.prog 3 #[.string s, .int .i64 a] w fun e w' => e = .returned (.bool true) ∧ Grown w w' := by
  go_enter Try.func3, Try.ntmps3
  go_wp2
  go_ret
  exact ⟨rfl, Grown.refl _⟩

set_option maxHeartbeats 400000 in
theorem law_hi (s : ByteArray) (a : Int) (w : World) (hs : s.size ≤ 1048576) (h0 : -1 ≤ a) (h : (s.size : Int) ≤ a) :
    Calls Try.prog 3 #[.string s, .int .i64 a] w fun e w' => e = .returned (.bool true) ∧ Grown w w' := by
  have h' : ¬ a < -1 := by omega
  go_enter Try.func3, Try.ntmps3
  go_wp2
  go_ret
  exact ⟨rfl, Grown.refl _⟩

set_option maxHeartbeats 1000000 in
theorem law_mid (s : ByteArray) (p : Nat) (w : World) (hs : s.size ≤ 1048576) (hp : p ≤ s.size) :
    Calls Try.prog 3 #[.string s, .int .i64 ((p : Int) - 1)] w fun e w' => e = .returned (.bool true) ∧ Grown w w' := by
  have h1 : ¬ ((p : Int) - 1 < -1) := by omega
  have h2 : (p : Int) - 1 < (s.size : Int) := by omega
  go_enter Try.func3, Try.ntmps3
  go_wp2_with (first | (go_at_call 8; go_in) | (go_at_call 9; refine (ElemEnd_any _ _ _ hs hp).mono ?_; rintro e w' ⟨⟨n, rfl, a1, a2, a3, a4⟩, rfl⟩; replace a3 := hide a3; replace a4 := hide a4))
  go_loop [6] (fun i => ∃ k : Nat, p ≤ k ∧ k ≤ n ∧ i = .int .i64 k) (fun i => n - (intOf i).toNat)
  case atStart => exact ⟨p, Nat.le_refl _, a1, rfl⟩
  case round =>
    obtain ⟨k, hk1, hk2, rfl⟩ := hrel
    by_cases hlt : k < n
    · have hks : k < s.size := by omega
      have hb : ((s[k].toNat : Int) == 47) = false := ne47 _ (a3.out k hks hk1 hlt)
      go_wp2
      go_round
      case rel => exact ⟨k + 1, by omega, by omega, by go_num⟩
      case measure => simp [intOf]; omega
    · by_cases hns : n < s.size
      · have hb : ((s[n].toNat : Int) != 47) = false := by rw [a4.out hns]; rfl
        go_wp2
        go_ret
        exact ⟨rfl, Grown.refl _⟩
      · go_wp2
        go_ret
        exact ⟨rfl, Grown.refl _⟩

theorem law (s : ByteArray) (a : Int) (w : World) (hm : s.size ≤ maxLen) :
    Calls Try.prog 3 #[.string s, .int .i64 a] w fun e w' => e = .returned (.bool true) ∧ Grown w w' := by
  by_cases hs : s.size ≤ 1048576
  · by_cases h1 : a < -1
    · exact law_lo s a w hs h1
    · by_cases h2 : (s.size : Int) ≤ a
      · exact law_hi s a w hs (by omega) h2
      · have e : a = (((a + 1).toNat : Nat) : Int) - 1 := by omega
        rw [e]
        exact law_mid s (a + 1).toNat w hs (by omega)
  · exact law_big s a w hs hm
end Go.Proofs.Qxb6002464a.Elem
