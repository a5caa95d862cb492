import Derived.Test.Qxb6001238aRows
import Derived.WalkKit
import Derived.WalkSpells
import Derived.WalkLawsBesides
import Derived.Lib.Bytealg
import Derived.Lib.Walk
import Derived.Laws.IdiomStrings
namespace Go.Proofs.Qxb6001238a.Tok
open Go.RowKit Go.Proofs

set_option maxHeartbeats 400000 in
set_option maxRecDepth 100000 in
theorem lite_IndexByte (s : ByteArray) (c : Int) (w : World) :
    Calls Try.prog 26 #[.string s, .int .u8 c] w fun e w' => e = .returned (.int .i64 (Lib.indexByte s.data.toList c.toNat.toUInt8)) ∧ w' = w := by
  go_enter Try.func26, Try.ntmps26
  go_wp2
  rw [run_callFunc_extern Try.func27 (by kernel_rfl) (by kernel_rfl) (by kernel_rfl) (e := Extern.BytealgIndexByte.indexByte) (by kernel_rfl), Lib.run_indexByteString]
  simp only [Result.andThen]
  rw [Oper.upon_value]
  go_wp2
  go_ret
  exact ⟨rfl, rfl⟩

set_option maxHeartbeats 400000 in
theorem strings_IndexByte (s : ByteArray) (c : Int) (w : World) :
    Calls Try.prog 24 #[.string s, .int .u8 c] w fun e w' => e = .returned (.int .i64 (Lib.indexByte s.data.toList c.toNat.toUInt8)) ∧ w' = w := by
  go_enter Try.func24, Try.ntmps24
  go_wp2_with (go_at_call 26; refine (lite_IndexByte _ _ _).mono ?_; rintro e w' ⟨rfl, rfl⟩)
  go_ret
  exact ⟨rfl, rfl⟩

def punct : List UInt8 := [33, 35, 36, 37, 38, 39, 42, 43, 45, 46, 94, 95, 96, 124, 126]

/-- what isTokenChar answers -/
def tokB (c : Int) : Bool := decide (97 ≤ c ∧ c ≤ 122) || decide (65 ≤ c ∧ c ≤ 90) || decide (48 ≤ c ∧ c ≤ 57) || decide (0 ≤ Lib.indexByte punct c.toNat.toUInt8)

theorem ret_bool {a b : Bool} (h : a = b) : Ending.returned (.bool a) = .returned (.bool b) := by rw [h]

set_option maxHeartbeats 400000 in
theorem isTokenChar_any (c : Int) (w : World) (h0 : 0 ≤ c) (h1 : c ≤ 255) :
    Calls Try.prog 22 #[.int .u8 c] w fun e w' => e = .returned (.bool (tokB c)) ∧ w' = w := by
  go_enter Try.func22, Try.ntmps22
  go_wp2_with (go_at_call 24; refine (strings_IndexByte _ _ _).mono ?_; rintro e w' ⟨rfl, rfl⟩)
  all_goals
    go_ret
    refine ⟨ret_bool ?_, rfl⟩
    rw [Bool.eq_iff_iff]
    simp [tokB, punct]
    try omega

/-- what rfcTchar answers -/
def rfcB (c : Int) : Bool := decide (33 ≤ c ∧ c ≤ 126) && !([34, 40, 41, 44, 47, 58, 59, 60, 61, 62, 63, 64, 91, 92, 93, 123, 125] : List Int).contains c

set_option maxHeartbeats 400000 in
theorem rfcTchar_any (c : Int) (w : World) (h0 : 0 ≤ c) (h1 : c ≤ 255) :
    Calls Try.prog 10 #[.int .u8 c] w fun e w' => e = .returned (.bool (rfcB c)) ∧ w' = w := by
  go_enter Try.func10, Try.ntmps10
  go_wp2
  all_goals
    go_ret
    refine ⟨ret_bool ?_, rfl⟩
    (try simp only [beq_iff_eq, beq_eq_false_iff_ne] at *)
    (rw [Bool.eq_iff_iff]; simp [rfcB]; omega)

theorem same (c : Int) (h0 : 0 ≤ c) (h1 : c ≤ 255) : tokB c = rfcB c := by
  have h : ∀ n : Fin 256, tokB (n.val : Int) = rfcB (n.val : Int) := by decide +kernel
  have := h ⟨c.toNat, by omega⟩
  simpa [Int.toNat_of_nonneg h0] using this

def isTok (l : List UInt8) : Bool := (l.all fun b => tokB (b.toNat : Int)) && !l.isEmpty

theorem take_snoc (s : ByteArray) (k : Nat) (h : k < s.size) : s.data.toList.take (k + 1) = s.data.toList.take k ++ [s[k]] := by
  rw [List.take_succ_eq_append_getElem (by simpa using h)]; rfl

def allTo (s : ByteArray) (k : Nat) : Bool := (s.data.toList.take k).all fun b => tokB (b.toNat : Int)
theorem allTo_zero (s : ByteArray) : allTo s 0 = true := rfl
theorem allTo_succ (s : ByteArray) (k : Nat) (h : k < s.size) (h1 : allTo s k = true) (h2 : tokB (s[k].toNat : Int) = true) : allTo s (k + 1) = true := by
  unfold allTo at *
  rw [take_snoc s k h]; simp only [List.all_append, h1, List.all_cons, List.all_nil, h2]; rfl
theorem isTok_no (s : ByteArray) (k : Nat) (h : k < s.size) (h2 : tokB (s[k].toNat : Int) = false) : isTok s.data.toList = false := by
  unfold isTok
  have hm : s[k] ∈ s.data.toList := by
    have : s[k] = s.data.toList[k]'(by simpa using h) := rfl
    rw [this]; exact List.getElem_mem _
  have : (s.data.toList.all fun b => tokB (b.toNat : Int)) = false := by
    rw [List.all_eq_false]
    exact ⟨_, hm, by simp [h2]⟩
  simp [this]
theorem isTok_end (s : ByteArray) (h : allTo s s.size = true) : isTok s.data.toList = !s.data.toList.isEmpty := by
  unfold isTok
  unfold allTo at h
  rw [List.take_of_length_le (by simp)] at h
  simp [h]

set_option maxHeartbeats 400000 in
theorem IsToken_any (s : ByteArray) (w : World) (hs : s.size ≤ maxLen) :
    Calls Try.prog 9 #[.string s] w fun e w' => e = .returned (.bool (isTok s.data.toList)) ∧ w' = w := by
  unfold maxLen at hs
  go_enter Try.func9, Try.ntmps9
  go_wp2
  go_loop [3] (fun i => ∃ k : Nat, k ≤ s.size ∧ i = .int .i64 k ∧ allTo s k = true) (fun i => s.size - (intOf i).toNat)
  case atStart => exact ⟨0, Nat.zero_le _, rfl, allTo_zero s⟩
  case round =>
    obtain ⟨k, hk, rfl, hall⟩ := hrel
    have HA : Hid (allTo s k = true) := hall
    clear hall
    by_cases hlt : k < s.size
    · cases hb : tokB (s[k].toNat : Int)
      · go_wp2_with (go_at_call 22; refine (isTokenChar_any _ _ (by omega) (by have := s[k].toNat_lt; omega)).mono ?_; rintro e w' ⟨rfl, rfl⟩)
        go_ret
        exact ⟨ret_bool (isTok_no s k hlt hb).symm, rfl⟩
      · go_wp2_with (go_at_call 22; refine (isTokenChar_any _ _ (by omega) (by have := s[k].toNat_lt; omega)).mono ?_; rintro e w' ⟨rfl, rfl⟩)
        go_round
        case rel => exact ⟨k + 1, by omega, by go_num, allTo_succ s k hlt HA.out hb⟩
        case measure => simp [intOf]; omega
    · have hke : k = s.size := by omega
      have HE : Hid (isTok s.data.toList = !s.data.toList.isEmpty) := isTok_end s (by rw [← hke]; exact HA.out)
      clear hke
      go_wp2
      go_ret
      refine ⟨ret_bool ?_, rfl⟩
      rw [HE.out, ByteArray.toList_eq]

def str1 (c : Int) : ByteArray := ⟨#[UInt8.ofNat c.toNat]⟩
theorem isTok_str1 (c : Int) (h0 : 0 ≤ c) (h1 : c ≤ 255) : isTok (str1 c).data.toList = tokB c := by
  simp [isTok, str1]
  congr 1
  omega

theorem conv1 (c : Int) (h0 : 0 ≤ c) (h1 : c ≤ 255) (w : World) : (convert 23 9 (.slice (some ⟨w.heap.size, 0, none⟩) 1 1)).run Try.prog (w.alloc (.cells #[.int .u8 c] 5)) = .ok (.string (str1 c)) (w.alloc (.cells #[.int .u8 c] 5)) := by
  refine run_convert_bytes_back (l := [UInt8.ofNat c.toNat]) (w.alloc (.cells #[.int .u8 c] 5)) 23 9 5 ⟨w.heap.size, 0, none⟩ 1 Try.underlying23 Try.underlying5 Try.underlying9 ?_
  intro j hj
  simp at hj
  subst hj
  simp [Addr.add]
  omega

set_option maxHeartbeats 400000 in
theorem law (c : Int) (w : World) (h0 : 0 ≤ c) (h1 : c ≤ 255) :
    Calls Try.prog 3 #[.int .u8 c] w fun e w' => e = .returned (.bool true) ∧ Grown w w' := by
  have hc := conv1 c h0 h1
  have hs1 : (str1 c).size ≤ maxLen := by
    show 1 ≤ maxLen
    decide
  have H1 : Hid (isTok (str1 c).data.toList = tokB c) := isTok_str1 c h0 h1
  have H2 : Hid (tokB c = rfcB c) := same c h0 h1
  go_enter Try.func3, Try.ntmps3
  go_wp2_with (first | (go_at_call 9; refine (IsToken_any _ _ hs1).mono ?_; rintro e w' ⟨rfl, rfl⟩) | (go_at_call 10; refine (rfcTchar_any _ _ h0 h1).mono ?_; rintro e w' ⟨rfl, rfl⟩))
  go_ret
  refine ⟨ret_bool ?_, Grown.alloc (Grown.refl _) _ _⟩
  rw [H1.out, H2.out]
  simp
end Go.Proofs.Qxb6001238a.Tok
