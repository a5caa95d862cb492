import Derived.Test.Qxb6001745aLine
namespace Go.Proofs.Qxb6001745a.Sums
open Go.RowKit Go.Proofs Go.Proofs.Qxb6001745a.Var Go.Proofs.Qxb6001745a.Set Go.Proofs.Qxb6001745a.Field Go.Proofs.Qxb6001745a.Straight Go.Proofs.Qxb6001745a.Line

/-- the bytes of the first k strings -/
def tot (ss : List ByteArray) (k : Nat) : Nat := ((ss.take k).map fun s => s.size).sum
theorem tot_zero (ss : List ByteArray) : tot ss 0 = 0 := rfl
theorem tot_succ (ss : List ByteArray) (k : Nat) (h : k < ss.length) : tot ss (k + 1) = tot ss k + (ss.getD k ByteArray.empty).size := by
  unfold tot
  rw [List.take_succ_eq_append_getElem h, List.map_append, List.sum_append]
  simp [List.getD, List.getElem?_eq_getElem h]

/-- what is known of a slice of strings with an element -/
def Strs (w : World) (b o n : Nat) (ss : List ByteArray) : Prop :=
  ss.length = n ∧ b < w.heap.size ∧ ∀ j, j < n → w.cell? ⟨b, o + j, none⟩ = some (.string (ss.getD j ByteArray.empty))

/-- what zzBytes answers: no; or yes, and the lengths are small -/
def Small (e : Ending) (n : Nat) (ss : List ByteArray) : Prop := e = .returned (.bool false) ∨ (e = .returned (.bool true) ∧ n + tot ss n ≤ 1048576)

set_option maxHeartbeats 1000000 in
theorem zzBytes_any (first i : Int) (b o n cap : Nat) (ss : List ByteArray) (w : World) (hn : n ≤ 1048576) (hs : Strs w b o n ss) (hm : ∀ s ∈ ss, s.size ≤ maxLen) :
    Calls Try.prog 27 #[.int .i64 first, .slice (some ⟨b, o, none⟩) n cap, .int .i64 i] w fun e w' =>
      Small e n ss ∧ w' = w := by
  obtain ⟨hz, hb, hc⟩ := hs
  have HZ := hide hz
  have HC := hide hc
  have HM := hide hm
  have HT := hide (tot_succ ss)
  clear hz hc hm
  go_enter Try.func27, Try.ntmps27
  go_wp2
  go_loop [7, 8] (fun vz vi => ∃ k : Nat, k ≤ n ∧ vi = .int .i64 k ∧ vz = .int .i64 ((n + tot ss k : Nat) : Int) ∧ n + tot ss k ≤ 1048576) (fun _ vi => n - (intOf vi).toNat)
  case atStart => exact ⟨0, Nat.zero_le _, rfl, by simp [tot_zero], by rw [tot_zero]; omega⟩
  case round =>
    obtain ⟨k, hk, rfl, rfl, htk⟩ := hrel
    by_cases hlt : k < n
    · obtain ⟨s, hsk⟩ : ∃ s, ss.getD k ByteArray.empty = s := ⟨_, rfl⟩
      have hkz : k < ss.length := by rw [HZ.out]; exact hlt
      have hck := HC.out k hlt
      have hts := HT.out k hkz
      rw [hsk] at hck hts
      have hsm : s.size ≤ maxLen := by
        rw [← hsk]
        apply HM.out
        simp [List.getD, List.getElem?_eq_getElem hkz]
      unfold maxLen at hsm
      obtain ⟨t, ht⟩ : ∃ t, tot ss k = t := ⟨_, rfl⟩
      rw [ht] at hts htk
      rw [ht]
      have HTS := hide hts
      clear hts hsk ht
      by_cases h1 : 1048576 < s.size
      · have h1' : (1048576 : Int) < (s.size : Int) := by omega
        go_wp2
        go_ret
        exact ⟨.inl rfl, rfl⟩
      · by_cases h2 : 1048576 < n + t + s.size
        · go_wp2
          go_ret
          exact ⟨.inl rfl, rfl⟩
        · go_wp2
          go_round
          case rel => exact ⟨k + 1, by omega, by go_num, by rw [HTS.out]; go_num, by rw [HTS.out]; omega⟩
          case measure => simp [intOf]; omega
    · have hkn : k = n := by omega
      subst hkn
      have HTK := hide htk
      go_wp2
      go_ret
      exact ⟨.inr ⟨rfl, HTK.out⟩, rfl⟩

set_option maxHeartbeats 1000000 in
theorem zzBytes_zero (first i : Int) (a : Option Addr) (cap : Nat) (w : World) :
    Calls Try.prog 27 #[.int .i64 first, .slice a 0 cap, .int .i64 i] w fun e w' => e = .returned (.bool true) ∧ w' = w := by
  go_enter Try.func27, Try.ntmps27
  go_wp2
  refine wp_loop_rounds 1 ?_
  rw [rounds_succ]
  go_wp2
  go_ret
  exact ⟨rfl, rfl⟩

set_option maxHeartbeats 1000000 in
theorem stringsBytes_any (b o n cap : Nat) (ss : List ByteArray) (w : World) (hn : n ≤ 65536) (hs : Strs w b o n ss) (ht : tot ss n ≤ 1048576) :
    Calls Try.prog 12 #[.slice (some ⟨b, o, none⟩) n cap] w fun e w' => (∃ t : Int, e = .returned (.int .i64 t)) ∧ w' = w := by
  obtain ⟨hz, hb, hc⟩ := hs
  have HZ := hide hz
  have HC := hide hc
  have HT := hide (tot_succ ss)
  have HM : Hid (∀ k, k ≤ n → tot ss k ≤ tot ss n) := by
    intro k hk
    unfold tot
    rw [← hz, List.take_length]
    conv => rhs; rw [← List.take_append_drop k ss, List.map_append, List.sum_append]
    exact Nat.le_add_right _ _
  clear hz hc
  go_enter Try.func12, Try.ntmps12
  go_wp2
  go_loop [3, 4] (fun vt vi => ∃ k : Nat, k ≤ n ∧ vi = .int .i64 k ∧ vt = .int .i64 ((16 * n + tot ss k : Nat) : Int)) (fun _ vi => n - (intOf vi).toNat)
  case atStart => exact ⟨0, Nat.zero_le _, rfl, by simp [tot_zero]⟩
  case round =>
    obtain ⟨k, hk, rfl, rfl⟩ := hrel
    by_cases hlt : k < n
    · obtain ⟨s, hsk⟩ : ∃ s, ss.getD k ByteArray.empty = s := ⟨_, rfl⟩
      have hkz : k < ss.length := by rw [HZ.out]; exact hlt
      have hck := HC.out k hlt
      have hts := HT.out k hkz
      have hmk := HM.out (k + 1) hlt
      rw [hts] at hmk
      rw [hsk] at hck hts hmk
      obtain ⟨t, htt⟩ : ∃ t, tot ss k = t := ⟨_, rfl⟩
      obtain ⟨u, huu⟩ : ∃ u, tot ss n = u := ⟨_, rfl⟩
      rw [htt] at hts hmk
      rw [huu] at hmk ht
      rw [htt]
      have HTS := hide hts
      clear hts hsk htt huu
      by_cases h2 : 1048576 < 16 * n + t + s.size
      · go_wp2
        go_ret
        exact ⟨⟨_, rfl⟩, rfl⟩
      · go_wp2
        go_round
        case rel => exact ⟨k + 1, by omega, by go_num, by rw [HTS.out]; go_num⟩
        case measure => simp [intOf]; omega
    · go_wp2
      go_ret
      exact ⟨⟨_, rfl⟩, rfl⟩

set_option maxHeartbeats 1000000 in
theorem stringsBytes_zero (a : Option Addr) (cap : Nat) (w : World) :
    Calls Try.prog 12 #[.slice a 0 cap] w fun e w' => e = .returned (.int .i64 0) ∧ w' = w := by
  go_enter Try.func12, Try.ntmps12
  go_wp2
  refine wp_loop_rounds 1 ?_
  rw [rounds_succ]
  go_wp2
  go_ret
  exact ⟨rfl, rfl⟩

theorem count_snoc (s : ByteArray) (k : Nat) (h : k < s.size) : Lib.countByte (s.data.toList.take (k + 1)) 10 = Lib.countByte (s.data.toList.take k) 10 + (if ((s[k].toNat : Int) == 10) = true then 1 else 0) := by
  unfold Lib.countByte
  rw [List.take_succ_eq_append_getElem (by simpa using h), List.count_append]
  have e : s.data.toList[k]'(by simpa using h) = s[k] := rfl
  rw [e, List.count_singleton]
  by_cases hh : s[k] = 10
  · rw [hh]; rfl
  · have h1 : (s[k] == 10) = false := by simpa using hh
    have h2 : ((s[k].toNat : Int) == 10) = false := by
      rw [beq_eq_false_iff_ne]
      intro e2
      apply hh
      exact UInt8.toNat_inj.1 (by simp; omega)
    rw [h1, h2]

theorem count_le (l : List UInt8) : Lib.countByte l 10 ≤ l.length := List.count_le_length

set_option maxHeartbeats 1000000 in
theorem countLineFeeds_any (s : ByteArray) (w : World) (hs : s.size ≤ 1048576) :
    Calls Try.prog 30 #[.string s] w fun e w' => e = .returned (.int .i64 (Lib.countByte s.data.toList 10 : Nat)) ∧ w' = w := by
  have HCS := hide (count_snoc s)
  go_enter Try.func30, Try.ntmps30
  go_wp2
  go_loop [3, 4] (fun vn vi => ∃ k : Nat, k ≤ s.size ∧ vi = .int .i64 k ∧ vn = .int .i64 (Lib.countByte (s.data.toList.take k) 10 : Nat)) (fun _ vi => s.size - (intOf vi).toNat)
  case atStart => exact ⟨0, Nat.zero_le _, rfl, rfl⟩
  case round =>
    obtain ⟨k, hk, rfl, rfl⟩ := hrel
    have hle : Lib.countByte (s.data.toList.take k) 10 ≤ k := Nat.le_trans (count_le _) (List.length_take_le _ _)
    by_cases hlt : k < s.size
    · have hcs := HCS.out k hlt
      cases hb : ((s[k].toNat : Int) == 10)
      · rw [hb] at hcs
        have H := hide hcs
        clear hcs
        go_wp2
        go_round
        case rel => exact ⟨k + 1, by omega, by go_num, by rw [H.out]; simp⟩
        case measure => simp [intOf]; omega
      · rw [hb] at hcs
        have H := hide hcs
        clear hcs
        go_wp2
        go_round
        case rel => exact ⟨k + 1, by omega, by go_num, by rw [H.out]; simp⟩
        case measure => simp [intOf]; omega
    · have H : Hid (Lib.countByte (s.data.toList.take k) 10 = Lib.countByte s.data.toList 10) := by
        show _ = _
        rw [List.take_of_length_le (by simp; omega)]
      go_wp2
      go_ret
      refine ⟨?_, rfl⟩
      show Ending.returned (.int .i64 _) = _
      rw [H.out]
end Go.Proofs.Qxb6001745a.Sums
