import Derived.Test.Qxb6001461aRows
import Derived.WalkKit
import Derived.WalkSpells
import Derived.WalkLawsBesides
import Derived.Lib.Bytealg
import Derived.Lib.Walk
import Derived.Deep.QuietTactic
import Derived.BigQuiet
namespace Go.Proofs.Qxb6001461a.Here
open Go.RowKit Go.Proofs

theorem hide {p : Prop} (h : p) : Hid p := h
theorem ret_bool {a b : Bool} (h : a = b) : Ending.returned (.bool a) = .returned (.bool b) := by rw [h]

set_option maxHeartbeats 400000 in
set_option maxRecDepth 100000 in
theorem lite_IndexByte (s : ByteArray) (c : Int) (w : World) :
    Calls Try.prog 24 #[.string s, .int .u8 c] w fun e w' => e = .returned (.int .i64 (Lib.indexByte s.data.toList c.toNat.toUInt8)) ∧ w' = w := by
  go_enter Try.func24, Try.ntmps24
  go_wp2
  rw [run_callFunc_extern Try.func28 (by kernel_rfl) (by kernel_rfl) (by kernel_rfl) (e := Extern.BytealgIndexByte.indexByte) (by kernel_rfl), Lib.run_indexByteString]
  simp only [Result.andThen]
  rw [Oper.upon_value]
  go_wp2
  go_ret
  exact ⟨rfl, rfl⟩

theorem ret_int {k : IntKind} {a b : Int} (h : a = b) : Ending.returned (.int k a) = .returned (.int k b) := by rw [h]

theorem indexByte_not (l : List UInt8) (c : UInt8) (h : c ∉ l) : Lib.indexByte l c = -1 := by
  induction l with
  | nil => rfl
  | cons b l ih =>
    simp only [List.mem_cons, not_or] at h
    have hb : (b == c) = false := by simp; exact fun e => h.1 e.symm
    unfold Lib.indexByte
    rw [ih h.2]
    simp [hb]

set_option maxHeartbeats 400000 in
theorem lite_Index_lt (s : ByteArray) (w : World) (h : (60 : UInt8) ∉ s.data.toList) :
    Calls Try.prog 23 #[.string s, .string ⟨#[60]⟩] w fun e w' => e = .returned (.int .i64 (-1)) ∧ w' = w := by
  have H := indexByte_not _ _ h
  have h2 : ([60] == s.toList) = false := by
    rw [ByteArray.toList_eq]
    simp only [beq_eq_false_iff_ne]
    intro e
    rw [← e] at h
    simp at h
  clear h
  go_enter Try.func23, Try.ntmps23
  go_wp2_with (go_at_call 24; refine (lite_IndexByte _ _ _).mono ?_; rintro e w' ⟨rfl, rfl⟩)
  go_ret
  have e : ∀ h, ((⟨#[60]⟩ : ByteArray)[0]'h) = 60 := fun _ => rfl
  exact ⟨ret_int (by simpa [e] using H), rfl⟩

set_option maxHeartbeats 400000 in
theorem Contains_lt (s : ByteArray) (w : World) (h : (60 : UInt8) ∉ s.data.toList) :
    Calls Try.prog 19 #[.string s, .string ⟨#[60]⟩] w fun e w' => e = .returned (.bool false) ∧ w' = w := by
  have H : Hid ((60 : UInt8) ∉ s.data.toList) := h
  clear h
  go_enter Try.func19, Try.ntmps19
  go_wp2_with fail
  go_in
  go_wp2_with (go_at_call 23; refine (lite_Index_lt _ _ H.out).mono ?_; rintro e w' ⟨rfl, rfl⟩)
  go_ret
  exact ⟨rfl, rfl⟩

theorem bytes_ext {a b : ByteArray} (h : a.data.toList = b.data.toList) : a = b := by
  cases a; cases b; simp at h; simpa using h
theorem size_list (s : ByteArray) : s.size = s.data.toList.length := by rw [Array.length_toList]; rfl

theorem ext_pre (s p r : ByteArray) (h : s.data.toList = p.data.toList ++ r.data.toList) : (s.extract 0 p.size).toList == p.toList := by
  rw [Lib.extract_toList, Lib.toList_data, h, size_list p]
  simp
theorem ext_post (s p r : ByteArray) (h : s.data.toList = p.data.toList ++ r.data.toList) : s.extract p.size s.size = r := by
  apply bytes_ext
  rw [← Lib.toList_data, Lib.extract_toList, size_list s, size_list p, h]
  simp only [List.drop_left, List.length_append, Nat.add_sub_cancel_left, List.take_length]

set_option maxHeartbeats 400000 in
theorem CutPrefix_yes (s p r : ByteArray) (w : World) (h : s.data.toList = p.data.toList ++ r.data.toList) :
    Calls Try.prog 18 #[.string s, .string p] w fun e w' => e = .returned (.tuple #[.string r, .bool true]) ∧ w' = w := by
  have hs : p.size ≤ s.size := by rw [size_list, size_list, h]; simp
  have h1 := ext_pre s p r h
  have h2 := ext_post s p r h
  clear h
  go_enter Try.func18, Try.ntmps18
  go_wp2
  go_ret2
  exact ⟨rfl, rfl⟩

set_option maxHeartbeats 400000 in
theorem CutPrefix_no (s p : ByteArray) (w : World) (hs : p.size ≤ s.size) (h : ((s.extract 0 p.size).toList == p.toList) = false) :
    Calls Try.prog 18 #[.string s, .string p] w fun e w' => e = .returned (.tuple #[.string s, .bool false]) ∧ w' = w := by
  go_enter Try.func18, Try.ntmps18
  go_wp2
  go_ret2
  exact ⟨rfl, rfl⟩

def wrapB (s : ByteArray) : Bool :=
  if h : 2 ≤ s.size then (((s[0].toNat : Int) == 34) || ((s[0].toNat : Int) == 39)) && ((s[s.size - 1].toNat : Int) == (s[0].toNat : Int)) else false
theorem wrapB_small (s : ByteArray) (h : ¬ 2 ≤ s.size) : wrapB s = false := by unfold wrapB; rw [dif_neg h]
theorem wrapB_neither (s : ByteArray) (h : 0 < s.size) (a : ((s[0].toNat : Int) == 34) = false) (b : ((s[0].toNat : Int) == 39) = false) : wrapB s = false := by
  unfold wrapB; split
  · rw [a, b]; rfl
  · rfl
theorem wrapB_dq (s : ByteArray) (h : 2 ≤ s.size) (a : ((s[0].toNat : Int) == 34) = true) : wrapB s = ((s[s.size - 1].toNat : Int) == (s[0].toNat : Int)) := by
  unfold wrapB; rw [dif_pos h, a]; rfl
theorem wrapB_sq (s : ByteArray) (h : 2 ≤ s.size) (b : ((s[0].toNat : Int) == 39) = true) : wrapB s = ((s[s.size - 1].toNat : Int) == (s[0].toNat : Int)) := by
  unfold wrapB; rw [dif_pos h, b, Bool.or_true]; rfl

set_option maxHeartbeats 1000000 in
theorem Wrapped_any (s : ByteArray) (w : World) (hs : s.size ≤ 1048576) :
    Calls Try.prog 13 #[.string s] w fun e w' => e = .returned (.bool (wrapB s)) ∧ ∃ n, w' = w.drewN n := by
  by_cases h2 : (2 : Int) ≤ (s.size : Int)
  · have h0 : (0 : Int) < (s.size : Int) := by omega
    have h1 : (s.size : Int) - 1 < (s.size : Int) := by omega
    have h0' : 0 < s.size := by omega
    have h1a : (1 : Int) ≤ (s.size : Int) := by omega
    have h1b : 1 ≤ s.size := by omega
    cases a : ((s[0].toNat : Int) == 34)
    · cases b : ((s[0].toNat : Int) == 39)
      · have H : Hid (wrapB s = false) := wrapB_neither s h0' a b
        go_enter Try.func13, Try.ntmps13
        go_wp2
        go_quiet (fail)
        go_wp2
        go_ret
        exact ⟨ret_bool H.out.symm, _, rfl⟩
      · have H : Hid (wrapB s = ((s[s.size - 1].toNat : Int) == (s[0].toNat : Int))) := wrapB_sq s (by omega) b
        go_enter Try.func13, Try.ntmps13
        go_wp2
        go_quiet (fail)
        go_wp2
        go_ret
        exact ⟨ret_bool H.out.symm, _, rfl⟩
    · have H : Hid (wrapB s = ((s[s.size - 1].toNat : Int) == (s[0].toNat : Int))) := wrapB_dq s (by omega) a
      go_enter Try.func13, Try.ntmps13
      go_wp2
      go_quiet (fail)
      go_wp2
      go_ret
      exact ⟨ret_bool H.out.symm, _, rfl⟩
  · have h2' : decide ((2 : Int) ≤ (s.size : Int)) = false := by simpa using h2
    have H : Hid (wrapB s = false) := wrapB_small s (by omega)
    go_enter Try.func13, Try.ntmps13
    go_wp2
    go_quiet (fail)
    go_wp2
    go_ret
    exact ⟨ret_bool H.out.symm, _, rfl⟩

/-- the ways through heredoc's test on quotes, each with what the name is behind it -/
def Way (body name : ByteArray) : Prop :=
  (¬ 2 ≤ body.size ∧ body = name) ∨
  (∃ h : 2 ≤ body.size, ((body[0].toNat : Int) == 34) = false ∧ ((body[0].toNat : Int) == 39) = false ∧ body = name) ∨
  (∃ h : 2 ≤ body.size, ((body[0].toNat : Int) == 34) = true ∧ ((body[body.size - 1].toNat : Int) == (body[0].toNat : Int)) = false ∧ body = name) ∨
  (∃ h : 2 ≤ body.size, ((body[0].toNat : Int) == 34) = false ∧ ((body[0].toNat : Int) == 39) = true ∧ ((body[body.size - 1].toNat : Int) == (body[0].toNat : Int)) = false ∧ body = name) ∨
  (∃ h : 2 ≤ body.size, ((body[0].toNat : Int) == 34) = true ∧ ((body[body.size - 1].toNat : Int) == (body[0].toNat : Int)) = true ∧ body.extract 1 (body.size - 1) = name) ∨
  (∃ h : 2 ≤ body.size, ((body[0].toNat : Int) == 34) = false ∧ ((body[0].toNat : Int) == 39) = true ∧ ((body[body.size - 1].toNat : Int) == (body[0].toNat : Int)) = true ∧ body.extract 1 (body.size - 1) = name)

set_option maxHeartbeats 2000000 in
theorem heredoc_tabs (word r1 body name : ByteArray) (w : World) (hw : word.data.toList = (⟨#[60, 60]⟩ : ByteArray).data.toList ++ r1.data.toList)
    (hr : r1.data.toList = (⟨#[45]⟩ : ByteArray).data.toList ++ body.data.toList) (hs : body.size ≤ 2000000)
    (hb : Way body name) (hne : name.toList.isEmpty = false) (hlt : (60 : UInt8) ∉ name.data.toList) :
    Calls Try.prog 17 #[.string word] w fun e w' => e = .returned (.tuple #[.string name, .bool true, .bool true]) ∧ ∃ n, w' = w.drewN n := by
  have HW := hide hw
  have HR := hide hr
  have HL := hide hlt
  clear hw hr hlt
  rcases hb with ⟨h2, hn⟩ | ⟨h2, a, b, hn⟩ | ⟨h2, a, c, hn⟩ | ⟨h2, a, b, c, hn⟩ | ⟨h2, a, c, hn⟩ | ⟨h2, a, b, c, hn⟩
  · subst hn
    have h2' : decide ((2 : Int) ≤ (body.size : Int)) = false := by simp; omega
    go_enter Try.func17, Try.ntmps17
    go_wp2_with fail
    refine (CutPrefix_yes _ _ r1 _ HW.out).mono ?_
    rintro e w' ⟨rfl, rfl⟩
    go_wp2_with fail
    refine (CutPrefix_yes _ _ body _ HR.out).mono ?_
    rintro e w' ⟨rfl, rfl⟩
    go_wp2_with fail
    go_quiet (fail)
    go_wp2_with (go_at_call 19; refine (Contains_lt _ _ HL.out).mono ?_; rintro e w' ⟨rfl, rfl⟩)
    go_ret3
    exact ⟨rfl, _, rfl⟩
  · subst hn
    have h2i : (2 : Int) ≤ (body.size : Int) := by omega
    have h0 : (0 : Int) < (body.size : Int) := by omega
    have h1 : (body.size : Int) - 1 < (body.size : Int) := by omega
    have h0' : 0 < body.size := by omega
    have h1a : (1 : Int) ≤ (body.size : Int) := by omega
    have h1b : 1 ≤ body.size := by omega
    go_enter Try.func17, Try.ntmps17
    go_wp2_with fail
    refine (CutPrefix_yes _ _ r1 _ HW.out).mono ?_
    rintro e w' ⟨rfl, rfl⟩
    go_wp2_with fail
    refine (CutPrefix_yes _ _ body _ HR.out).mono ?_
    rintro e w' ⟨rfl, rfl⟩
    go_wp2_with fail
    go_quiet (fail)
    go_wp2_with (go_at_call 19; refine (Contains_lt _ _ HL.out).mono ?_; rintro e w' ⟨rfl, rfl⟩)
    go_ret3
    exact ⟨rfl, _, rfl⟩
  · subst hn
    have h2i : (2 : Int) ≤ (body.size : Int) := by omega
    have h0 : (0 : Int) < (body.size : Int) := by omega
    have h1 : (body.size : Int) - 1 < (body.size : Int) := by omega
    have h0' : 0 < body.size := by omega
    have h1a : (1 : Int) ≤ (body.size : Int) := by omega
    have h1b : 1 ≤ body.size := by omega
    go_enter Try.func17, Try.ntmps17
    go_wp2_with fail
    refine (CutPrefix_yes _ _ r1 _ HW.out).mono ?_
    rintro e w' ⟨rfl, rfl⟩
    go_wp2_with fail
    refine (CutPrefix_yes _ _ body _ HR.out).mono ?_
    rintro e w' ⟨rfl, rfl⟩
    go_wp2_with fail
    go_quiet (fail)
    go_wp2_with (go_at_call 19; refine (Contains_lt _ _ HL.out).mono ?_; rintro e w' ⟨rfl, rfl⟩)
    go_ret3
    exact ⟨rfl, _, rfl⟩
  · subst hn
    have h2i : (2 : Int) ≤ (body.size : Int) := by omega
    have h0 : (0 : Int) < (body.size : Int) := by omega
    have h1 : (body.size : Int) - 1 < (body.size : Int) := by omega
    have h0' : 0 < body.size := by omega
    have h1a : (1 : Int) ≤ (body.size : Int) := by omega
    have h1b : 1 ≤ body.size := by omega
    go_enter Try.func17, Try.ntmps17
    go_wp2_with fail
    refine (CutPrefix_yes _ _ r1 _ HW.out).mono ?_
    rintro e w' ⟨rfl, rfl⟩
    go_wp2_with fail
    refine (CutPrefix_yes _ _ body _ HR.out).mono ?_
    rintro e w' ⟨rfl, rfl⟩
    go_wp2_with fail
    go_quiet (fail)
    go_wp2_with (go_at_call 19; refine (Contains_lt _ _ HL.out).mono ?_; rintro e w' ⟨rfl, rfl⟩)
    go_ret3
    exact ⟨rfl, _, rfl⟩
  · have h2i : (2 : Int) ≤ (body.size : Int) := by omega
    have h0 : (0 : Int) < (body.size : Int) := by omega
    have h1 : (body.size : Int) - 1 < (body.size : Int) := by omega
    have h0' : 0 < body.size := by omega
    have h1a : (1 : Int) ≤ (body.size : Int) := by omega
    have h1b : 1 ≤ body.size := by omega
    go_enter Try.func17, Try.ntmps17
    go_wp2_with fail
    refine (CutPrefix_yes _ _ r1 _ HW.out).mono ?_
    rintro e w' ⟨rfl, rfl⟩
    go_wp2_with fail
    refine (CutPrefix_yes _ _ body _ HR.out).mono ?_
    rintro e w' ⟨rfl, rfl⟩
    go_wp2_with fail
    go_quiet (fail)
    go_wp2_with (go_at_call 19; refine (Contains_lt _ _ HL.out).mono ?_; rintro e w' ⟨rfl, rfl⟩)
    go_ret3
    exact ⟨rfl, _, rfl⟩
  · have h2i : (2 : Int) ≤ (body.size : Int) := by omega
    have h0 : (0 : Int) < (body.size : Int) := by omega
    have h1 : (body.size : Int) - 1 < (body.size : Int) := by omega
    have h0' : 0 < body.size := by omega
    have h1a : (1 : Int) ≤ (body.size : Int) := by omega
    have h1b : 1 ≤ body.size := by omega
    go_enter Try.func17, Try.ntmps17
    go_wp2_with fail
    refine (CutPrefix_yes _ _ r1 _ HW.out).mono ?_
    rintro e w' ⟨rfl, rfl⟩
    go_wp2_with fail
    refine (CutPrefix_yes _ _ body _ HR.out).mono ?_
    rintro e w' ⟨rfl, rfl⟩
    go_wp2_with fail
    go_quiet (fail)
    go_wp2_with (go_at_call 19; refine (Contains_lt _ _ HL.out).mono ?_; rintro e w' ⟨rfl, rfl⟩)
    go_ret3
    exact ⟨rfl, _, rfl⟩

set_option maxHeartbeats 2000000 in
theorem heredoc_bare (word body name : ByteArray) (w : World) (hw : word.data.toList = (⟨#[60, 60]⟩ : ByteArray).data.toList ++ body.data.toList)
    (hr : (⟨#[45]⟩ : ByteArray).size ≤ body.size ∧ ((body.extract 0 (⟨#[45]⟩ : ByteArray).size).toList == (⟨#[45]⟩ : ByteArray).toList) = false) (hs : body.size ≤ 2000000)
    (hb : Way body name) (hne : name.toList.isEmpty = false) (hlt : (60 : UInt8) ∉ name.data.toList) :
    Calls Try.prog 17 #[.string word] w fun e w' => e = .returned (.tuple #[.string name, .bool false, .bool true]) ∧ ∃ n, w' = w.drewN n := by
  have HW := hide hw
  have HR := hide hr
  have HL := hide hlt
  clear hw hr hlt
  rcases hb with ⟨h2, hn⟩ | ⟨h2, a, b, hn⟩ | ⟨h2, a, c, hn⟩ | ⟨h2, a, b, c, hn⟩ | ⟨h2, a, c, hn⟩ | ⟨h2, a, b, c, hn⟩
  · subst hn
    have h2' : decide ((2 : Int) ≤ (body.size : Int)) = false := by simp; omega
    go_enter Try.func17, Try.ntmps17
    go_wp2_with fail
    refine (CutPrefix_yes _ _ body _ HW.out).mono ?_
    rintro e w' ⟨rfl, rfl⟩
    go_wp2_with fail
    refine (CutPrefix_no _ _ _ HR.out.1 HR.out.2).mono ?_
    rintro e w' ⟨rfl, rfl⟩
    go_wp2_with fail
    go_quiet (fail)
    go_wp2_with (go_at_call 19; refine (Contains_lt _ _ HL.out).mono ?_; rintro e w' ⟨rfl, rfl⟩)
    go_ret3
    exact ⟨rfl, _, rfl⟩
  · subst hn
    have h2i : (2 : Int) ≤ (body.size : Int) := by omega
    have h0 : (0 : Int) < (body.size : Int) := by omega
    have h1 : (body.size : Int) - 1 < (body.size : Int) := by omega
    have h0' : 0 < body.size := by omega
    have h1a : (1 : Int) ≤ (body.size : Int) := by omega
    have h1b : 1 ≤ body.size := by omega
    go_enter Try.func17, Try.ntmps17
    go_wp2_with fail
    refine (CutPrefix_yes _ _ body _ HW.out).mono ?_
    rintro e w' ⟨rfl, rfl⟩
    go_wp2_with fail
    refine (CutPrefix_no _ _ _ HR.out.1 HR.out.2).mono ?_
    rintro e w' ⟨rfl, rfl⟩
    go_wp2_with fail
    go_quiet (fail)
    go_wp2_with (go_at_call 19; refine (Contains_lt _ _ HL.out).mono ?_; rintro e w' ⟨rfl, rfl⟩)
    go_ret3
    exact ⟨rfl, _, rfl⟩
  · subst hn
    have h2i : (2 : Int) ≤ (body.size : Int) := by omega
    have h0 : (0 : Int) < (body.size : Int) := by omega
    have h1 : (body.size : Int) - 1 < (body.size : Int) := by omega
    have h0' : 0 < body.size := by omega
    have h1a : (1 : Int) ≤ (body.size : Int) := by omega
    have h1b : 1 ≤ body.size := by omega
    go_enter Try.func17, Try.ntmps17
    go_wp2_with fail
    refine (CutPrefix_yes _ _ body _ HW.out).mono ?_
    rintro e w' ⟨rfl, rfl⟩
    go_wp2_with fail
    refine (CutPrefix_no _ _ _ HR.out.1 HR.out.2).mono ?_
    rintro e w' ⟨rfl, rfl⟩
    go_wp2_with fail
    go_quiet (fail)
    go_wp2_with (go_at_call 19; refine (Contains_lt _ _ HL.out).mono ?_; rintro e w' ⟨rfl, rfl⟩)
    go_ret3
    exact ⟨rfl, _, rfl⟩
  · subst hn
    have h2i : (2 : Int) ≤ (body.size : Int) := by omega
    have h0 : (0 : Int) < (body.size : Int) := by omega
    have h1 : (body.size : Int) - 1 < (body.size : Int) := by omega
    have h0' : 0 < body.size := by omega
    have h1a : (1 : Int) ≤ (body.size : Int) := by omega
    have h1b : 1 ≤ body.size := by omega
    go_enter Try.func17, Try.ntmps17
    go_wp2_with fail
    refine (CutPrefix_yes _ _ body _ HW.out).mono ?_
    rintro e w' ⟨rfl, rfl⟩
    go_wp2_with fail
    refine (CutPrefix_no _ _ _ HR.out.1 HR.out.2).mono ?_
    rintro e w' ⟨rfl, rfl⟩
    go_wp2_with fail
    go_quiet (fail)
    go_wp2_with (go_at_call 19; refine (Contains_lt _ _ HL.out).mono ?_; rintro e w' ⟨rfl, rfl⟩)
    go_ret3
    exact ⟨rfl, _, rfl⟩
  · have h2i : (2 : Int) ≤ (body.size : Int) := by omega
    have h0 : (0 : Int) < (body.size : Int) := by omega
    have h1 : (body.size : Int) - 1 < (body.size : Int) := by omega
    have h0' : 0 < body.size := by omega
    have h1a : (1 : Int) ≤ (body.size : Int) := by omega
    have h1b : 1 ≤ body.size := by omega
    go_enter Try.func17, Try.ntmps17
    go_wp2_with fail
    refine (CutPrefix_yes _ _ body _ HW.out).mono ?_
    rintro e w' ⟨rfl, rfl⟩
    go_wp2_with fail
    refine (CutPrefix_no _ _ _ HR.out.1 HR.out.2).mono ?_
    rintro e w' ⟨rfl, rfl⟩
    go_wp2_with fail
    go_quiet (fail)
    go_wp2_with (go_at_call 19; refine (Contains_lt _ _ HL.out).mono ?_; rintro e w' ⟨rfl, rfl⟩)
    go_ret3
    exact ⟨rfl, _, rfl⟩
  · have h2i : (2 : Int) ≤ (body.size : Int) := by omega
    have h0 : (0 : Int) < (body.size : Int) := by omega
    have h1 : (body.size : Int) - 1 < (body.size : Int) := by omega
    have h0' : 0 < body.size := by omega
    have h1a : (1 : Int) ≤ (body.size : Int) := by omega
    have h1b : 1 ≤ body.size := by omega
    go_enter Try.func17, Try.ntmps17
    go_wp2_with fail
    refine (CutPrefix_yes _ _ body _ HW.out).mono ?_
    rintro e w' ⟨rfl, rfl⟩
    go_wp2_with fail
    refine (CutPrefix_no _ _ _ HR.out.1 HR.out.2).mono ?_
    rintro e w' ⟨rfl, rfl⟩
    go_wp2_with fail
    go_quiet (fail)
    go_wp2_with (go_at_call 19; refine (Contains_lt _ _ HL.out).mono ?_; rintro e w' ⟨rfl, rfl⟩)
    go_ret3
    exact ⟨rfl, _, rfl⟩

end Go.Proofs.Qxb6001461a.Here
