import Derived.Test.Qxb6001745aDer
namespace Go.Proofs.Qxb6001745a.Der
open Go.RowKit Go.Proofs Go.Proofs.Qxb6001745a.Var Go.Proofs.Qxb6001745a.Set Go.Proofs.Qxb6001745a.Field Go.Proofs.Qxb6001745a.Straight Go.Proofs.Qxb6001745a.Line Go.Proofs.Qxb6001745a.Sums Go.Proofs.Qxb6001745a.App
open Go.Proofs.Qxb6001745a.Round (info33)

set_option maxHeartbeats 400000 in
theorem law_huge (first : Int) (a : Option Addr) (n cap : Nat) (i : Int) (w : World) (hm : n ≤ maxLen) (h : 1048576 < n) :
    Calls Try.prog 10 #[.int .i64 first, .slice a n cap, .int .i64 i] w fun e w' => e = .returned (.bool true) ∧ Below w.heap.size w w' := by
  unfold maxLen at hm
  have h1 : (1048576 : Int) < (n : Int) := by omega
  go_enter Try.func10, Try.ntmps10
  go_wp2
  go_ret
  exact ⟨rfl, Below.refl _ _⟩

set_option maxHeartbeats 400000 in
theorem law_many (first : Int) (b o n cap : Nat) (ss : List ByteArray) (i : Int) (w : World) (hn : n ≤ 1048576) (h : 65536 < n) (hs : Strs w b o n ss) (hm : ∀ s ∈ ss, s.size ≤ maxLen) :
    Calls Try.prog 10 #[.int .i64 first, .slice (some ⟨b, o, none⟩) n cap, .int .i64 i] w fun e w' => e = .returned (.bool true) ∧ Below w.heap.size w w' := by
  have H := hide (zzBytes_any first i b o n cap ss w hn hs hm)
  clear hs hm
  have h1 : (65536 : Int) < (n : Int) := by omega
  go_enter Try.func10, Try.ntmps10
  go_wp2_with fail
  refine H.out.mono ?_
  rintro e w' ⟨h | ⟨h, _⟩, hw⟩
  · rw [h, hw]
    go_wp2
    go_ret
    exact ⟨rfl, Below.refl _ _⟩
  · rw [h, hw]
    go_wp2
    go_ret
    exact ⟨rfl, Below.refl _ _⟩

set_option maxHeartbeats 400000 in
theorem law_late (first : Int) (b o n cap : Nat) (ss : List ByteArray) (i : Int) (w : World) (hn : n ≤ 65536) (hs : Strs w b o n ss) (hm : ∀ s ∈ ss, s.size ≤ maxLen) (hf : 9223372036850581503 < first) :
    Calls Try.prog 10 #[.int .i64 first, .slice (some ⟨b, o, none⟩) n cap, .int .i64 i] w fun e w' => e = .returned (.bool true) ∧ Below w.heap.size w w' := by
  have HS := hide hs
  have HM := hide hm
  clear hs hm
  go_enter Try.func10, Try.ntmps10
  go_wp2_with fail
  refine (zzBytes_any first i b o n cap ss w (by omega) HS.out HM.out).mono ?_
  rintro e w' ⟨h | ⟨h, ht⟩, hw⟩
  · rw [h, hw]
    go_wp2
    go_ret
    exact ⟨rfl, Below.refl _ _⟩
  · rw [h, hw]
    clear h hw
    go_wp2_with fail
    refine (stringsBytes_any b o n cap ss w hn HS.out (by omega)).mono ?_
    rintro e w2 ⟨⟨t, h⟩, hw⟩
    rw [h, hw]
    clear h hw
    by_cases htt : 1048576 < t
    · go_wp2
      go_ret
      exact ⟨rfl, Below.refl _ _⟩
    · go_wp2
      go_ret
      exact ⟨rfl, Below.refl _ _⟩

set_option maxHeartbeats 400000 in
theorem law_zero_late (first : Int) (a : Option Addr) (cap : Nat) (i : Int) (w : World) (hf : 9223372036850581503 < first) :
    Calls Try.prog 10 #[.int .i64 first, .slice a 0 cap, .int .i64 i] w fun e w' => e = .returned (.bool true) ∧ Below w.heap.size w w' := by
  go_enter Try.func10, Try.ntmps10
  go_wp2_with (first | (go_at_call 27; refine (zzBytes_zero _ _ _ _ _).mono ?_; rintro e w' ⟨rfl, rfl⟩) | (go_at_call 12; refine (stringsBytes_zero _ _ _).mono ?_; rintro e w' ⟨rfl, rfl⟩))
  go_ret
  exact ⟨rfl, Below.refl _ _⟩

set_option maxHeartbeats 1000000 in
theorem law_zero (first : Int) (a : Option Addr) (cap : Nat) (i : Int) (w : World) (hf0 : -9223372036854775808 ≤ first) (hf1 : first ≤ 9223372036850581503) :
    Calls Try.prog 10 #[.int .i64 first, .slice a 0 cap, .int .i64 i] w fun e w' => e = .returned (.bool true) ∧ Below w.heap.size w w' := by
  obtain ⟨j0, hj0, hy0, hy1, hy2⟩ := info_parts info33
  have hfu := wrap_u64 first
  have hl1 := Lib.uvarint_length64 (u64n_lt first)
  have hl2 := Lib.uvarint_length64 (x := 0) (by omega)
  go_enter Try.func10, Try.ntmps10
  go_wp2_with fail
  refine (zzBytes_zero first i a cap w).mono ?_
  rintro e w1 ⟨h, hw⟩
  rw [h, hw]
  clear h hw
  go_wp2_with fail
  refine (stringsBytes_zero a cap w).mono ?_
  rintro e w2 ⟨h, hw⟩
  rw [h, hw]
  clear h hw
  go_wp2_with (at_make; refine wpList_make_full _ rfl _ _ 25 rfl w.heap.size 33 j0 (.agg #[.string ⟨#[]⟩, .string ⟨#[]⟩]) 2 Try.underlying25 hj0 hy0 hy1 _ _ _ _ 0 rfl rfl rfl rfl (by omega) (by unfold maxLen; omega) (Nat.le_refl _) ?_)
  intro w3 own3 gr3
  have bel3 : Below w.heap.size w w3 := (Below.refl _ _).grown gr3 (Nat.le_refl _) (fun k hk => by cases hk)
  have hsz3 := (own3.lt w.heap.size rfl).2
  clear own3 gr3
  go_wp2_with fail
  refine wp_loop_rounds 1 ?_
  rw [rounds_succ]
  go_wp2_with fail
  refine (appendUvarint_any w3.heap.size 0 (u64n first) (u64n_lt first) (.slice none 0 0) [] w3 (World.ownsRow_nil _ _ _ _) (Nat.le_refl _) (by omega)).mono ?_
  rintro e w4 ⟨v1, rfl, own1, bel1⟩
  simp only [List.nil_append, Nat.zero_add] at own1
  go_wp2_with fail
  refine (appendUvarint_any w3.heap.size _ 0 (by omega) v1 _ w4 own1 bel1.size (by omega)).mono ?_
  rintro e w5 ⟨v2, rfl, own2, bel2⟩
  replace own2 := own_head2 own2
  have belT : Below w3.heap.size w3 w5 := bel1.trans bel2
  obtain ⟨g2, c2, rfl⟩ := own_form own2 (head_pos first 0)
  have hcv := fun O => conv_bytes (own2.alloc O)
  clear own1 bel1 bel2 own2
  go_wp2_with (go_at_call 20; go_in)
  refine (SetText_facts w5.heap.size _ _ ⟨#[]⟩ (by simp) (by simp)).mono ?_
  rintro e w6 ⟨rfl, hst6, hfl6, bel6⟩
  have hfl7 : w6.cell? ⟨w5.heap.size, 0, none⟩ = some (.slice (some ⟨w.heap.size, 0, none⟩) 0 0) := by rw [hfl6]; simp
  have hsz6 : w5.heap.size < w6.heap.size := by have := bel6.size; simp at this; omega
  have hszT := belT.size
  have TE : Hid (Tells w6 w5.heap.size 0 first (lineAt first [])) :=
    tells_straight w6 w5.heap.size w.heap.size 0 first [] (by omega) rfl (by decide) hf0 hf1 (by omega) (by omega) (fun j hj => absurd hj (Nat.not_lt_zero _)) hst6 hfl7
  have belW : Below w.heap.size w w6 := (bel3.trans (belT.mono (by omega))).trans (((Below.refl _ w5).alloc (by omega) _).trans (bel6.mono (by omega)))
  clear hst6 hfl6 hfl7 bel6 belT bel3
  go_wp2_with fail
  refine (ZZ_neg w5.heap.size 0 first _ w6 TE.out (-1) (by omega)).mono ?_
  rintro e w7 ⟨rfl, bel7⟩
  go_wp2
  go_ret
  exact ⟨rfl, belW.trans (bel7.mono (by omega))⟩

theorem law (first : Int) (a : Option Addr) (n cap : Nat) (ss : List ByteArray) (i : Int) (w : World)
    (hf0 : -9223372036854775808 ≤ first)
    (hrow : (a = none ∧ n = 0 ∧ cap = 0 ∧ ss = []) ∨
      ∃ x, a = some x ∧ n ≤ cap ∧ cap ≤ maxLen ∧ ss.length = cap ∧ (∀ i, i < ss.length → w.cell? (x.add i) = some (.string (ss.getD i ByteArray.empty))) ∧ ∀ s ∈ ss, s.size ≤ maxLen) :
    Calls Try.prog 10 #[.int .i64 first, .slice a n cap, .int .i64 i] w fun e w' => e = .returned (.bool true) ∧ Below w.heap.size w w' := by
  have hm : n ≤ maxLen := by
    rcases hrow with ⟨_, h, _⟩ | ⟨_, _, h1, h2, _⟩
    · rw [h]; exact Nat.zero_le _
    · exact Nat.le_trans h1 h2
  by_cases h0 : n = 0
  · subst h0
    by_cases hf : first ≤ 9223372036850581503
    · exact law_zero first a cap i w hf0 hf
    · exact law_zero_late first a cap i w (by omega)
  · rcases hrow with ⟨_, h, _⟩ | ⟨⟨b, o, sp⟩, rfl, hnc, _, hzl, hcell, hwf⟩
    · exact absurd h h0
    · have hsp : sp = none := by
        simpa [Addr.add] using World.cell?_spot (hcell 0 (by omega))
      subst hsp
      have hz : (ss.take n).length = n := by rw [List.length_take]; omega
      have hm' : ∀ s ∈ ss.take n, s.size ≤ maxLen := fun s hs => hwf s (List.mem_of_mem_take hs)
      have hs : Strs w b o n (ss.take n) := by
        refine ⟨hz, ?_, ?_⟩
        · have h := hcell 0 (by omega)
          rw [Addr.add_lit] at h
          exact block_lt_of_cell h
        · intro j hj
          have h := hcell j (by omega)
          rw [Addr.add_lit] at h
          rw [h]
          simp [List.getD, hj]
      by_cases h1 : n ≤ 1048576
      · by_cases h2 : n ≤ 65536
        · by_cases hf : first ≤ 9223372036850581503
          · exact main first b o n cap (ss.take n) i w (by omega) h2 hs hm' hf0 hf
          · exact law_late first b o n cap (ss.take n) i w h2 hs hm' (by omega)
        · exact law_many first b o n cap (ss.take n) i w h1 (by omega) hs hm'
      · exact law_huge first (some ⟨b, o, none⟩) n cap i w hm (by omega)
end Go.Proofs.Qxb6001745a.Der
