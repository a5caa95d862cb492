import Derived.Test.Qxb6001461aHereWalks
namespace Go.Proofs.Qxb6001461a.Here
open Go.RowKit Go.Proofs

def hasTo (s : ByteArray) (k : Nat) : Bool := (s.data.toList.take k).contains 60
def hasB (s : ByteArray) : Bool := s.data.toList.contains 60
theorem hasTo_zero (s : ByteArray) : hasTo s 0 = false := rfl
theorem take_snoc (s : ByteArray) (k : Nat) (h : k < s.size) : s.data.toList.take (k + 1) = s.data.toList.take k ++ [s[k]] := by
  rw [List.take_succ_eq_append_getElem (by simpa using h)]; rfl
theorem hasTo_succ (s : ByteArray) (k : Nat) (h : k < s.size) (h1 : hasTo s k = false) (h2 : ((s[k].toNat : Int) == 60) = false) : hasTo s (k + 1) = false := by
  unfold hasTo at *
  rw [take_snoc s k h]
  simp only [List.contains_eq_mem, decide_eq_false_iff_not, List.mem_append, not_or] at *
  refine ⟨h1, ?_⟩
  simp at h2 ⊢
  intro e
  rw [← e] at h2
  simp at h2
theorem hasB_yes (s : ByteArray) (k : Nat) (h : k < s.size) (h2 : ((s[k].toNat : Int) == 60) = true) : hasB s = true := by
  unfold hasB
  have hm : s[k] ∈ s.data.toList := by
    have : s[k] = s.data.toList[k]'(by simpa using h) := rfl
    rw [this]; exact List.getElem_mem _
  have e : s[k] = 60 := by
    simp at h2
    exact UInt8.toNat_inj.1 (by simp; omega)
  rw [e] at hm
  simpa using hm
theorem hasB_end (s : ByteArray) (h : hasTo s s.size = false) : hasB s = false := by
  unfold hasTo at h
  unfold hasB
  rwa [List.take_of_length_le (by simp)] at h

set_option maxHeartbeats 400000 in
theorem HasByte_any (s : ByteArray) (w : World) (hs : s.size ≤ 1048576) :
    Calls Try.prog 12 #[.string s, .int .u8 60] w fun e w' => e = .returned (.bool (hasB s)) ∧ w' = w := by
  go_enter Try.func12, Try.ntmps12
  go_wp2
  go_loop [5] (fun i => ∃ k : Nat, k ≤ s.size ∧ i = .int .i64 k ∧ hasTo s k = false) (fun i => s.size - (intOf i).toNat)
  case atStart => exact ⟨0, Nat.zero_le _, rfl, hasTo_zero s⟩
  case round =>
    obtain ⟨k, hk, rfl, hall⟩ := hrel
    have HA := hide hall
    clear hall
    by_cases hlt : k < s.size
    · cases hb : ((s[k].toNat : Int) == 60)
      · go_wp2
        go_round
        case rel => exact ⟨k + 1, by omega, by go_num, hasTo_succ s k hlt HA.out hb⟩
        case measure => simp [intOf]; omega
      · go_wp2
        go_ret
        exact ⟨ret_bool (hasB_yes s k hlt hb).symm, rfl⟩
    · have HE : Hid (hasB s = false) := hasB_end s (by have hke : k = s.size := by omega
                                                       rw [← hke]; exact HA.out)
      go_wp2
      go_ret
      exact ⟨ret_bool HE.out.symm, rfl⟩

set_option maxHeartbeats 400000 in
theorem ZZ_tabs (word r1 body name : ByteArray) (w : World) (hw : word.data.toList = (⟨#[60, 60]⟩ : ByteArray).data.toList ++ r1.data.toList)
    (hr : r1.data.toList = (⟨#[45]⟩ : ByteArray).data.toList ++ body.data.toList) (hs : body.size ≤ 2000000)
    (hb : Way body name) (hne : name.toList.isEmpty = false) (hlt : (60 : UInt8) ∉ name.data.toList) :
    Calls Try.prog 14 #[.string word] w fun e w' => e = .returned (.tuple #[.string name, .bool true, .bool true]) ∧ ∃ n, w' = w.drewN n := by
  have H := hide (fun w => heredoc_tabs word r1 body name w hw hr hs hb hne hlt)
  clear hw hr hs hb hne hlt
  go_enter Try.func14, Try.ntmps14
  go_wp2_with (go_at_call 17; refine (H.out _).mono ?_; rintro e w' ⟨rfl, n, rfl⟩)
  go_ret3
  exact ⟨rfl, _, rfl⟩

set_option maxHeartbeats 400000 in
theorem ZZ_bare (word body name : ByteArray) (w : World) (hw : word.data.toList = (⟨#[60, 60]⟩ : ByteArray).data.toList ++ body.data.toList)
    (hr : (⟨#[45]⟩ : ByteArray).size ≤ body.size ∧ ((body.extract 0 (⟨#[45]⟩ : ByteArray).size).toList == (⟨#[45]⟩ : ByteArray).toList) = false) (hs : body.size ≤ 2000000)
    (hb : Way body name) (hne : name.toList.isEmpty = false) (hlt : (60 : UInt8) ∉ name.data.toList) :
    Calls Try.prog 14 #[.string word] w fun e w' => e = .returned (.tuple #[.string name, .bool false, .bool true]) ∧ ∃ n, w' = w.drewN n := by
  have H := hide (fun w => heredoc_bare word body name w hw hr hs hb hne hlt)
  clear hw hr hs hb hne hlt
  go_enter Try.func14, Try.ntmps14
  go_wp2_with (go_at_call 17; refine (H.out _).mono ?_; rintro e w' ⟨rfl, n, rfl⟩)
  go_ret3
  exact ⟨rfl, _, rfl⟩

/-! the plain side -/
def qt (q : UInt8) (name : ByteArray) : ByteArray := ⟨([q] ++ name.data.toList ++ [q]).toArray⟩
theorem qt_size (q : UInt8) (name : ByteArray) : (qt q name).size = name.size + 2 := by
  rw [size_list, size_list name]; simp [qt]
theorem qt_first (q : UInt8) (name : ByteArray) (h : 0 < (qt q name).size) : (qt q name)[0] = q := rfl
theorem qt_last (q : UInt8) (name : ByteArray) (h : (qt q name).size - 1 < (qt q name).size) : (qt q name)[(qt q name).size - 1] = q := by
  have e : (qt q name)[(qt q name).size - 1] = ([q] ++ name.data.toList ++ [q])[(qt q name).size - 1]'(by rw [size_list] at h ⊢; simp [qt]) := rfl
  rw [e]
  have h2 : (qt q name).size - 1 = ([q] ++ name.data.toList).length := by rw [qt_size, size_list]; simp
  simp [h2]
theorem qt_mid (q : UInt8) (name : ByteArray) : (qt q name).extract 1 ((qt q name).size - 1) = name := by
  apply bytes_ext
  rw [← Lib.toList_data, Lib.extract_toList, qt_size, size_list]
  simp [qt]
theorem way_dq (name : ByteArray) : Way (qt 34 name) name := by
  have h : 2 ≤ (qt 34 name).size := by rw [qt_size]; omega
  refine .inr (.inr (.inr (.inr (.inl ⟨h, ?_, ?_, qt_mid _ _⟩))))
  · rw [qt_first]; rfl
  · rw [qt_first, qt_last]; rfl
theorem way_sq (name : ByteArray) : Way (qt 39 name) name := by
  have h : 2 ≤ (qt 39 name).size := by rw [qt_size]; omega
  refine .inr (.inr (.inr (.inr (.inr ⟨h, ?_, ?_, ?_, qt_mid _ _⟩))))
  · rw [qt_first]; rfl
  · rw [qt_first]; rfl
  · rw [qt_first, qt_last]; rfl
theorem way_bare (name : ByteArray) (h : wrapB name = false) : Way name name := by
  by_cases h2 : 2 ≤ name.size
  · cases a : ((name[0].toNat : Int) == 34)
    · cases b : ((name[0].toNat : Int) == 39)
      · exact .inr (.inl ⟨h2, a, b, rfl⟩)
      · exact .inr (.inr (.inr (.inl ⟨h2, a, b, by rw [← wrapB_sq name h2 b]; exact h, rfl⟩)))
    · exact .inr (.inr (.inl ⟨h2, a, by rw [← wrapB_dq name h2 a]; exact h, rfl⟩))
  · exact .inl ⟨h2, rfl⟩

theorem done {w w' : World} (h : Grown w w') : Ending.returned (.bool true) = .returned (.bool true) ∧ Grown w w' := ⟨rfl, h⟩
theorem grown_drewN (w : World) (n : Nat) : Grown w (w.drewN n) := by
  induction n with
  | zero => exact Grown.refl _
  | succ n ih => exact Grown.drew ih

set_option maxHeartbeats 1000000 in
theorem law_big (s : ByteArray) (t : Bool) (c : Int) (w : World) (hs : ¬ s.size ≤ 1048576) (hm : s.size ≤ maxLen) :
    Calls Try.prog 5 #[.string s, .bool t, .int .u8 c] w fun e w' => e = .returned (.bool true) ∧ Grown w w' := by
  unfold maxLen at hm
  have h1 : (1048576 : Int) < (s.size : Int) := by omega
  go_enter Try.func5, Try.ntmps5
  go_wp2
  go_ret
  exact ⟨rfl, Grown.refl _⟩

set_option maxHeartbeats 1000000 in
theorem law_empty (s : ByteArray) (t : Bool) (c : Int) (w : World) (hs : s.size ≤ 1048576) (he : s.toList.isEmpty = true) :
    Calls Try.prog 5 #[.string s, .bool t, .int .u8 c] w fun e w' => e = .returned (.bool true) ∧ Grown w w' := by
  go_enter Try.func5, Try.ntmps5
  go_wp2_with (first | (go_at_call 11; go_in) | fail)
  go_ret
  exact ⟨rfl, Grown.refl _⟩

set_option maxHeartbeats 1000000 in
theorem law_has (s : ByteArray) (t : Bool) (c : Int) (w : World) (hs : s.size ≤ 1048576) (he : s.toList.isEmpty = false) (hh : hasB s = true) :
    Calls Try.prog 5 #[.string s, .bool t, .int .u8 c] w fun e w' => e = .returned (.bool true) ∧ Grown w w' := by
  go_enter Try.func5, Try.ntmps5
  go_wp2_with (first | (go_at_call 11; go_in) | (go_at_call 12; refine (HasByte_any _ _ hs).mono ?_; rintro e w' ⟨rfl, rfl⟩))
  go_ret
  exact ⟨rfl, Grown.refl _⟩

theorem noLt (s : ByteArray) (hh : hasB s = false) : (60 : UInt8) ∉ s.data.toList := by
  unfold hasB at hh
  simpa using hh
theorem first_of (s : ByteArray) (h : 0 < s.size) : (s.extract 0 (⟨#[45]⟩ : ByteArray).size).toList = [s[0]] := by
  rw [Lib.extract_toList]
  have e : (⟨#[45]⟩ : ByteArray).size = 1 := rfl
  have h' : 0 < s.data.toList.length := by rw [← size_list]; exact h
  rw [e]
  rw [List.drop_zero, show 1 - 0 = 0 + 1 from rfl, List.take_succ_eq_append_getElem h']
  rfl
theorem notDash (s : ByteArray) (h : 0 < s.size) (hd : s[0] ≠ 45) : (⟨#[45]⟩ : ByteArray).size ≤ s.size ∧ ((s.extract 0 (⟨#[45]⟩ : ByteArray).size).toList == (⟨#[45]⟩ : ByteArray).toList) = false := by
  refine ⟨h, ?_⟩
  rw [first_of s h]
  have e : (⟨#[45]⟩ : ByteArray).toList = [45] := by rw [ByteArray.toList_eq]
  rw [e]
  simpa using hd
theorem notDash_qt (q : UInt8) (s : ByteArray) (hq : q ≠ 45) : (⟨#[45]⟩ : ByteArray).size ≤ (qt q s).size ∧ (((qt q s).extract 0 (⟨#[45]⟩ : ByteArray).size).toList == (⟨#[45]⟩ : ByteArray).toList) = false := by
  have h : 0 < (qt q s).size := by rw [qt_size]; omega
  refine notDash _ h ?_
  rw [qt_first]; exact hq

theorem ba_append (a b : ByteArray) : (a ++ b).data.toList = a.data.toList ++ b.data.toList := by simp

theorem Z_bare_q (q : UInt8) (s : ByteArray) (w : World) (hs : s.size ≤ 1048576) (he : s.toList.isEmpty = false) (hh : hasB s = false) (hq : q ≠ 45) (hw : Way (qt q s) s) :
    Calls Try.prog 14 #[.string ((⟨#[60, 60]⟩ : ByteArray) ++ (⟨#[q]⟩ : ByteArray) ++ s ++ (⟨#[q]⟩ : ByteArray))] w fun e w' => e = .returned (.tuple #[.string s, .bool false, .bool true]) ∧ ∃ n, w' = w.drewN n :=
  ZZ_bare _ (qt q s) s w (by simp only [ba_append]; simp [qt]) (notDash_qt q s hq) (by rw [qt_size]; omega) hw he (noLt s hh)
theorem Z_tabs_q (q : UInt8) (s : ByteArray) (w : World) (hs : s.size ≤ 1048576) (he : s.toList.isEmpty = false) (hh : hasB s = false) (hw : Way (qt q s) s) :
    Calls Try.prog 14 #[.string ((⟨#[60, 60, 45]⟩ : ByteArray) ++ (⟨#[q]⟩ : ByteArray) ++ s ++ (⟨#[q]⟩ : ByteArray))] w fun e w' => e = .returned (.tuple #[.string s, .bool true, .bool true]) ∧ ∃ n, w' = w.drewN n :=
  ZZ_tabs _ ((⟨#[45]⟩ : ByteArray) ++ qt q s) (qt q s) s w (by simp only [ba_append]; simp [qt]) (by simp only [ba_append]) (by rw [qt_size]; omega) hw he (noLt s hh)
theorem Z_bare_0 (s : ByteArray) (w : World) (hs : s.size ≤ 1048576) (he : s.toList.isEmpty = false) (hh : hasB s = false) (h : 0 < s.size) (hd : s[0] ≠ 45) (hw : wrapB s = false) :
    Calls Try.prog 14 #[.string ((⟨#[60, 60]⟩ : ByteArray) ++ s)] w fun e w' => e = .returned (.tuple #[.string s, .bool false, .bool true]) ∧ ∃ n, w' = w.drewN n :=
  ZZ_bare _ s s w (by simp only [ba_append]) (notDash s h hd) (by omega) (way_bare s hw) he (noLt s hh)
theorem Z_tabs_0 (s : ByteArray) (w : World) (hs : s.size ≤ 1048576) (he : s.toList.isEmpty = false) (hh : hasB s = false) (hw : wrapB s = false) :
    Calls Try.prog 14 #[.string ((⟨#[60, 60, 45]⟩ : ByteArray) ++ s)] w fun e w' => e = .returned (.tuple #[.string s, .bool true, .bool true]) ∧ ∃ n, w' = w.drewN n :=
  ZZ_tabs _ ((⟨#[45]⟩ : ByteArray) ++ s) s s w (by simp only [ba_append]; simp) (by simp only [ba_append]) (by omega) (way_bare s hw) he (noLt s hh)

set_option maxHeartbeats 1000000 in
theorem law_q1_t (s : ByteArray) (c : Int) (w : World) (hs : s.size ≤ 1048576) (he : s.toList.isEmpty = false) (hh : hasB s = false) (h0 : 0 ≤ c) (h1 : c ≤ 255) (hq : c % 3 = 1) :
    Calls Try.prog 5 #[.string s, .bool true, .int .u8 c] w fun e w' => e = .returned (.bool true) ∧ Grown w w' := by
  have way := hide (way_dq s)
  go_enter Try.func5, Try.ntmps5
  go_wp2_with (first | (go_at_call 11; go_in) | (go_at_call 12; refine (HasByte_any _ _ hs).mono ?_; rintro e w' ⟨rfl, rfl⟩) | (go_at_call 14; refine (Z_tabs_q 34 s _ hs he hh way.out).mono ?_; rintro e w' ⟨rfl, n, rfl⟩))
  go_ret
  exact ⟨rfl, grown_drewN _ _⟩

set_option maxHeartbeats 1000000 in
theorem law_q1_f (s : ByteArray) (c : Int) (w : World) (hs : s.size ≤ 1048576) (he : s.toList.isEmpty = false) (hh : hasB s = false) (h0 : 0 ≤ c) (h1 : c ≤ 255) (hq : c % 3 = 1) :
    Calls Try.prog 5 #[.string s, .bool false, .int .u8 c] w fun e w' => e = .returned (.bool true) ∧ Grown w w' := by
  have way := hide (way_dq s)
  go_enter Try.func5, Try.ntmps5
  go_wp2_with (first | (go_at_call 11; go_in) | (go_at_call 12; refine (HasByte_any _ _ hs).mono ?_; rintro e w' ⟨rfl, rfl⟩) | (go_at_call 14; refine (Z_bare_q 34 s _ hs he hh (by decide) way.out).mono ?_; rintro e w' ⟨rfl, n, rfl⟩))
  go_ret
  exact ⟨rfl, grown_drewN _ _⟩

set_option maxHeartbeats 1000000 in
theorem law_q2_t (s : ByteArray) (c : Int) (w : World) (hs : s.size ≤ 1048576) (he : s.toList.isEmpty = false) (hh : hasB s = false) (h0 : 0 ≤ c) (h1 : c ≤ 255) (hq : c % 3 = 2) :
    Calls Try.prog 5 #[.string s, .bool true, .int .u8 c] w fun e w' => e = .returned (.bool true) ∧ Grown w w' := by
  have way := hide (way_sq s)
  go_enter Try.func5, Try.ntmps5
  go_wp2_with (first | (go_at_call 11; go_in) | (go_at_call 12; refine (HasByte_any _ _ hs).mono ?_; rintro e w' ⟨rfl, rfl⟩) | (go_at_call 14; refine (Z_tabs_q 39 s _ hs he hh way.out).mono ?_; rintro e w' ⟨rfl, n, rfl⟩))
  go_ret
  exact ⟨rfl, grown_drewN _ _⟩

set_option maxHeartbeats 1000000 in
theorem law_q2_f (s : ByteArray) (c : Int) (w : World) (hs : s.size ≤ 1048576) (he : s.toList.isEmpty = false) (hh : hasB s = false) (h0 : 0 ≤ c) (h1 : c ≤ 255) (hq : c % 3 = 2) :
    Calls Try.prog 5 #[.string s, .bool false, .int .u8 c] w fun e w' => e = .returned (.bool true) ∧ Grown w w' := by
  have way := hide (way_sq s)
  go_enter Try.func5, Try.ntmps5
  go_wp2_with (first | (go_at_call 11; go_in) | (go_at_call 12; refine (HasByte_any _ _ hs).mono ?_; rintro e w' ⟨rfl, rfl⟩) | (go_at_call 14; refine (Z_bare_q 39 s _ hs he hh (by decide) way.out).mono ?_; rintro e w' ⟨rfl, n, rfl⟩))
  go_ret
  exact ⟨rfl, grown_drewN _ _⟩

set_option maxHeartbeats 1000000 in
theorem law_q0_wrapped (s : ByteArray) (t : Bool) (c : Int) (w : World) (hs : s.size ≤ 1048576) (he : s.toList.isEmpty = false) (hh : hasB s = false) (h0 : 0 ≤ c) (h1 : c ≤ 255) (hq : c % 3 = 0) (hw : wrapB s = true) :
    Calls Try.prog 5 #[.string s, .bool t, .int .u8 c] w fun e w' => e = .returned (.bool true) ∧ Grown w w' := by
  go_enter Try.func5, Try.ntmps5
  go_wp2_with (first | (go_at_call 11; go_in) | (go_at_call 12; refine (HasByte_any _ _ hs).mono ?_; rintro e w' ⟨rfl, rfl⟩) | (go_at_call 13; refine (Wrapped_any _ _ hs).mono ?_; rintro e w' ⟨rfl, n, rfl⟩))
  go_ret
  exact ⟨rfl, grown_drewN _ _⟩

set_option maxHeartbeats 1000000 in
theorem law_q0_dash (s : ByteArray) (c : Int) (w : World) (hs : s.size ≤ 1048576) (he : s.toList.isEmpty = false) (hh : hasB s = false) (h0 : 0 ≤ c) (h1 : c ≤ 255) (hq : c % 3 = 0) (hw : wrapB s = false)
    (hp : 0 < s.size) (hd : ((s[0].toNat : Int) == 45) = true) :
    Calls Try.prog 5 #[.string s, .bool false, .int .u8 c] w fun e w' => e = .returned (.bool true) ∧ Grown w w' := by
  go_enter Try.func5, Try.ntmps5
  go_wp2_with (first | (go_at_call 11; go_in) | (go_at_call 12; refine (HasByte_any _ _ hs).mono ?_; rintro e w' ⟨rfl, rfl⟩) | (go_at_call 13; refine (Wrapped_any _ _ hs).mono ?_; rintro e w' ⟨rfl, n, rfl⟩))
  go_ret
  exact ⟨rfl, grown_drewN _ _⟩

theorem ne45 (b : UInt8) (h : ((b.toNat : Int) == 45) = false) : b ≠ 45 := by
  rintro rfl
  simp at h

set_option maxHeartbeats 1000000 in
theorem law_q0_f (s : ByteArray) (c : Int) (w : World) (hs : s.size ≤ 1048576) (he : s.toList.isEmpty = false) (hh : hasB s = false) (h0 : 0 ≤ c) (h1 : c ≤ 255) (hq : c % 3 = 0) (hw : wrapB s = false)
    (hp : 0 < s.size) (hd : ((s[0].toNat : Int) == 45) = false) :
    Calls Try.prog 5 #[.string s, .bool false, .int .u8 c] w fun e w' => e = .returned (.bool true) ∧ Grown w w' := by
  have hd' := hide (ne45 _ hd)
  go_enter Try.func5, Try.ntmps5
  go_wp2_with (first | (go_at_call 11; go_in) | (go_at_call 12; refine (HasByte_any _ _ hs).mono ?_; rintro e w' ⟨rfl, rfl⟩) | (go_at_call 13; refine (Wrapped_any _ _ hs).mono ?_; rintro e w' ⟨rfl, n, rfl⟩) | (go_at_call 14; refine (Z_bare_0 s _ hs he hh hp hd'.out hw).mono ?_; rintro e w' ⟨rfl, m, rfl⟩))
  go_ret
  exact ⟨rfl, grown_drewN _ _⟩

set_option maxHeartbeats 1000000 in
theorem law_q0_t (s : ByteArray) (c : Int) (w : World) (hs : s.size ≤ 1048576) (he : s.toList.isEmpty = false) (hh : hasB s = false) (h0 : 0 ≤ c) (h1 : c ≤ 255) (hq : c % 3 = 0) (hw : wrapB s = false) :
    Calls Try.prog 5 #[.string s, .bool true, .int .u8 c] w fun e w' => e = .returned (.bool true) ∧ Grown w w' := by
  go_enter Try.func5, Try.ntmps5
  go_wp2_with (first | (go_at_call 11; go_in) | (go_at_call 12; refine (HasByte_any _ _ hs).mono ?_; rintro e w' ⟨rfl, rfl⟩) | (go_at_call 13; refine (Wrapped_any _ _ hs).mono ?_; rintro e w' ⟨rfl, n, rfl⟩) | (go_at_call 14; refine (Z_tabs_0 s _ hs he hh hw).mono ?_; rintro e w' ⟨rfl, m, rfl⟩))
  go_ret
  exact ⟨rfl, grown_drewN _ _⟩

theorem law (s : ByteArray) (t : Bool) (c : Int) (w : World) (hm : s.size ≤ maxLen) (h0 : 0 ≤ c) (h1 : c ≤ 255) :
    Calls Try.prog 5 #[.string s, .bool t, .int .u8 c] w fun e w' => e = .returned (.bool true) ∧ Grown w w' := by
  by_cases hs : s.size ≤ 1048576
  · cases he : s.toList.isEmpty
    · cases hh : hasB s
      · have hp : 0 < s.size := by
          rw [size_list]
          rw [ByteArray.toList_eq] at he
          cases hl : s.data.toList with
          | nil => rw [hl] at he; simp at he
          | cons a l => simp
        have hq : c % 3 = 0 ∨ c % 3 = 1 ∨ c % 3 = 2 := by omega
        rcases hq with hq | hq | hq
        · cases hw : wrapB s
          · cases t
            · cases hd : ((s[0].toNat : Int) == 45)
              · exact law_q0_f s c w hs he hh h0 h1 hq hw hp hd
              · exact law_q0_dash s c w hs he hh h0 h1 hq hw hp hd
            · exact law_q0_t s c w hs he hh h0 h1 hq hw
          · exact law_q0_wrapped s t c w hs he hh h0 h1 hq hw
        · cases t
          · exact law_q1_f s c w hs he hh h0 h1 hq
          · exact law_q1_t s c w hs he hh h0 h1 hq
        · cases t
          · exact law_q2_f s c w hs he hh h0 h1 hq
          · exact law_q2_t s c w hs he hh h0 h1 hq
      · exact law_has s t c w hs he hh
    · exact law_empty s t c w hs he
  · exact law_big s t c w hs hm
end Go.Proofs.Qxb6001461a.Here
