import Derived.Test.Qxb6001745aLine
import Derived.Laws.CopyOwn
namespace Go.Proofs.Qxb6001745a.Round
open Go.RowKit Go.Proofs Go.Proofs.Qxb6001745a.Var Go.Proofs.Qxb6001745a.Set Go.Proofs.Qxb6001745a.Field Go.Proofs.Qxb6001745a.Straight Go.Proofs.Qxb6001745a.Line

theorem info33 : (Try.prog.info? 33).map (fun i => (i.zero, i.size, i.bytes)) = some (some (.agg #[.string ⟨#[]⟩, .string ⟨#[]⟩]), 2, 32) := by kernel_rfl

theorem goInt_eq (n : Nat) : goInt n = .int .i64 (n : Int) := rfl

theorem below_setCells {B b : Nat} (hb : B ≤ b) : ∀ (vs : List Value) (o : Nat) (w : World), Below B w (w.setCells b o vs)
  | [], _, _ => Below.refl _ _
  | v :: vs, o, w => by
    show Below B w ((w.setCell ⟨b, o, none⟩ v).setCells b (o + 1) vs)
    exact ((Below.refl B w).setCell (p := ⟨b, o, none⟩) hb v).trans (below_setCells hb vs (o + 1) _)

/-- 'copy(zzc, lines)' behind 'make([]int, len(lines))' -/
theorem copy_run (w1 : World) (B g n cap : Nat) (x : Addr) (zs : List Int) (xs : List Value) (own : w1.ownsRow B 3 1 (.slice (some ⟨g, 0, none⟩) n n) n xs) (hz : zs.length = n)
    (hsrc : ∀ j, j < n → w1.cell? (x.add j) = some (.int .i64 (zs.getD j 0))) (hB : B ≤ g) :
    ∃ w2, (Builtin.copy_ #[37, 37] 3 #[.slice (some ⟨g, 0, none⟩) n n, .slice (some x) n cap]).run Try.prog w1 = .ok (.int .i64 (n : Int)) w2 ∧
      (∀ j, j < n → w2.cell? ⟨g, 0 + j, none⟩ = some (.int .i64 (zs.getD j 0))) ∧ Below B w1 w2 := by
  have hlen : (zs.map (Value.int .i64)).length = n := by rw [List.length_map, hz]
  have hsome : ∀ j, j < n → (w1.cell? ⟨g, j, none⟩).isSome = true := by
    intro j hj
    rw [own.cellAt j (by omega), List.getElem?_eq_getElem (by rw [own.1]; omega)]
    rfl
  have hget : ∀ j (hj : j < n), (zs.map (Value.int .i64))[j]? = some (.int .i64 (zs.getD j 0)) := by
    intro j hj
    simp [List.getD, List.getElem?_eq_getElem (show j < zs.length by omega)]
  have hr := run_copy_cells (P := Try.prog) w1 37 37 3 3 g 0 n n x n cap (zs.map (Value.int .i64)) Try.underlying37 (by kernel_rfl) (by rw [hlen]; exact (Nat.min_self n).symm)
    (by
      intro j v hj
      have hjn : j < n := by
        have := (List.getElem?_eq_some_iff.1 hj).1
        omega
      rw [hget j hjn] at hj
      rw [hsrc j hjn]
      exact hj)
    (by intro j hj; rw [Nat.zero_add]; exact hsome j (by omega)) (by intro j hj; rw [Nat.zero_add]; exact own.frozenAt j) (ints_oneCell _ _)
  rw [hlen] at hr
  refine ⟨_, hr, ?_, below_setCells hB _ _ _⟩
  intro j hj
  have h := World.cell?_setCells_in g (zs.map (Value.int .i64)) 0 w1 (by intro j hj; rw [Nat.zero_add]; exact hsome j (by omega)) j (by omega)
  rw [h, ← hget j hj, List.getElem?_eq_getElem]

/-- fieldLines at a stanza whose text is that of setLines -/
theorem tells_text (W : World) (sb fb n fcap : Nat) (first : Int) (zs : List Int) (hn : n ≤ 131072) (hz : zs.length = n) (hr : ∀ z ∈ zs, -9223372036854775808 ≤ z ∧ z ≤ 9223372036854775807)
    (hf0 : -9223372036854775808 ≤ first) (hf1 : first ≤ 9223372036854775807) (hsb : sb < W.heap.size) (hfb : fb < W.heap.size)
    (hst : W.cell? ⟨sb, 3, none⟩ = some (.string ⟨(text first zs).toArray⟩)) (hfl : W.cell? ⟨sb, 0, none⟩ = some (.slice (some ⟨fb, 0, none⟩) n fcap)) :
    Tells W sb n first (fun j => zs.getD j 0) := by
  by_cases h0 : n = 0
  · subst h0
    have hnil : zs = [] := List.eq_nil_of_length_eq_zero hz
    subst hnil
    have e : text first [] = head first 0 := by simp [text, enc]
    rw [e] at hst
    refine Calls.mono (fieldLines_straight sb first fb 0 fcap (fun _ => ByteArray.empty) [] W hn rfl ?_ hfb ?_ ?_ hf0 hf1 hsb hst hfl) ?_
    · intro k hk
      obtain rfl : k = 0 := by omega
      rw [lineAt_zero]; exact hf1
    · intro j hj; omega
    · intro j hj; omega
    · rintro e w' ⟨G, he, _, hb⟩
      exact ⟨G, he, fun j hj => by omega, hb⟩
  · exact fieldLines_listed sb first (some ⟨fb, 0, none⟩) n fcap zs W hn (by omega) hz hr hf0 hf1 hsb hst hfl

theorem ZZSetLines_facts (sb : Nat) (first : Int) (la : Option Addr) (n cap : Nat) (zs : List Int) (w : World) (old : ByteArray)
    (hn : n ≤ 131072) (hl : Lines w la n zs) (hsb : sb < w.heap.size)
    (hst : w.cell? ⟨sb, 3, none⟩ = some (.string old)) (hfr : w.frozen? ⟨sb, 3, none⟩ = false) :
    Calls Try.prog 24 #[.pointer (some ⟨sb, 0, none⟩), .int .i64 first, .slice la n cap, .bool true] w fun e w' =>
      e = .returned (.tuple #[]) ∧ w'.cell? ⟨sb, 3, none⟩ = some (.string ⟨(text first zs).toArray⟩) ∧ w'.cell? ⟨sb, 0, none⟩ = w.cell? ⟨sb, 0, none⟩ ∧ Below sb w w' := by
  refine (ZZSetLines_any sb first la n cap zs w old hn hl hsb hst hfr).mono ?_
  rintro e w' ⟨rfl, w1, hb, rfl⟩
  have h3 : w1.cell? ⟨sb, 3, none⟩ = some (.string old) := by rw [hb.cell (p := ⟨sb, 3, none⟩) hsb]; exact hst
  refine ⟨rfl, ?_, ?_, (hb.mono (Nat.le_of_lt hsb)).setCell (Nat.le_refl _) _⟩
  · exact World.cell?_setCell_same' w1 _ _ (by rw [h3]; rfl)
  · rw [World.cell?_setCell_other (h := by simp)]
    exact hb.cell (p := ⟨sb, 0, none⟩) hsb

set_option maxHeartbeats 1000000 in
theorem law_some_neg (first : Int) (x : Addr) (n cap : Nat) (zs : List Int) (i : Int) (w : World)
    (hn : n ≤ 131072) (hi : i < 0) (hz : zs.length = n) (hr : ∀ z ∈ zs, -9223372036854775808 ≤ z ∧ z ≤ 9223372036854775807)
    (hf0 : -9223372036854775808 ≤ first) (hf1 : first ≤ 9223372036854775807)
    (hsrc : ∀ j, j < n → w.cell? (x.add j) = some (.int .i64 (zs.getD j 0))) :
    Calls Try.prog 8 #[.int .i64 first, .slice (some x) n cap, .int .i64 i] w fun e w' => e = .returned (.bool true) ∧ Below w.heap.size w w' := by
  have hnil := fun w => run_neq_slice_nil_any (P := Try.prog) w 37 3 (some x) n cap 0 0 Try.underlying37
  obtain ⟨i0, hi0, hz0, hz1, hz2⟩ := info_parts info3
  obtain ⟨j0, hj0, hy0, hy1, hy2⟩ := info_parts info33
  have HZ := hide hz
  have HR := hide hr
  have HSRC := hide hsrc
  have HF0 := hide hf0
  have HF1 := hide hf1
  clear hz hr hsrc hf0 hf1
  go_enter Try.func8, Try.ntmps8
  go_wp2_with (first | (go_at_call 23; go_in) | (at_make; refine wpList_make_full _ rfl _ _ 37 rfl w.heap.size 3 i0 (.int .i64 0) 1 Try.underlying37 hi0 hz0 hz1 _ _ _ _ n rfl rfl rfl rfl (by rw [hz2]; omega) (by unfold maxLen; omega) (by simp) ?_))
  intro w1 own1 gr1
  obtain ⟨w2, hcopy, hc2, bel2⟩ := copy_run w1 w.heap.size w.heap.size n cap x zs _ own1 HZ.out (fun j hj => gr1.cell (HSRC.out j hj) (by simp)) (Nat.le_refl _)
  have bel1 : Below w.heap.size w w1 := (Below.refl _ _).grown gr1 (Nat.le_refl _) (fun k hk => by cases hk)
  have hG := (own1.lt w.heap.size rfl).2
  have hG2 : w.heap.size < w2.heap.size := Nat.lt_of_lt_of_le hG bel2.size
  have belA : Below w.heap.size w w2 := bel1.trans bel2
  have HC2 := hide hc2
  clear hc2 own1 gr1 bel1 bel2 hnil
  go_wp2_with (first | (go_at_call 20; go_in) | (at_make; refine wpList_make_full _ rfl _ _ 25 rfl w.heap.size 33 j0 (.agg #[.string ⟨#[]⟩, .string ⟨#[]⟩]) 2 Try.underlying25 hj0 hy0 hy1 _ _ _ _ n rfl rfl rfl rfl (by rw [hy2]; omega) (by unfold maxLen; omega) (by omega) ?_))
  intro w3 own3 gr3
  have belB : Below w2.heap.size w2 w3 := (Below.refl _ _).grown gr3 (Nat.le_refl _) (fun k hk => by cases hk)
  have hfb := (own3.lt w2.heap.size rfl).2
  clear own3 gr3
  go_wp2_with (go_at_call 20; go_in)
  refine (ZZSetLines_facts w3.heap.size first (some ⟨w.heap.size, 0, none⟩) n n zs _ ⟨#[]⟩ hn (.inr ⟨w.heap.size, 0, rfl, by simp; omega, HZ.out, ?_⟩) (by simp) (by simp) (by simp)).mono ?_
  · intro j hj
    rw [((Below.refl _ _).alloc (Nat.le_refl _) _).cell (p := ⟨w.heap.size, 0 + j, none⟩) (by show w.heap.size < w3.heap.size; omega), belB.cell (p := ⟨w.heap.size, 0 + j, none⟩) hG2]
    exact HC2.out j hj
  rintro e w5 ⟨rfl, hst5, hfl5, bel5⟩
  have hfl6 : w5.cell? ⟨w3.heap.size, 0, none⟩ = some (.slice (some ⟨w2.heap.size, 0, none⟩) n n) := by rw [hfl5]; simp
  have hsz5 : w3.heap.size < w5.heap.size := by have := bel5.size; simp at this; omega
  have TE : Hid (∀ W', Below w5.heap.size w5 W' → Tells W' w3.heap.size n first (fun j => zs.getD j 0)) := fun W' hb =>
    tells_text W' w3.heap.size w2.heap.size n n first zs hn HZ.out HR.out HF0.out HF1.out (by have := hb.size; omega) (by have := hb.size; omega)
      (by rw [hb.cell (p := ⟨w3.heap.size, 3, none⟩) hsz5]; exact hst5) (by rw [hb.cell (p := ⟨w3.heap.size, 0, none⟩) hsz5]; exact hfl6)
  have belW : Below w.heap.size w w5 := (belA.trans (belB.mono (by omega))).trans (((Below.refl _ w3).alloc (by omega) _).trans (bel5.mono (by omega)))
  have HC5 : Hid (∀ j, j < n → w5.cell? ⟨w.heap.size, j, none⟩ = some (.int .i64 (zs.getD j 0))) := fun j hj => by
    rw [bel5.cell (p := ⟨w.heap.size, j, none⟩) (by show w.heap.size < w3.heap.size; omega), ((Below.refl _ _).alloc (Nat.le_refl _) _).cell (p := ⟨w.heap.size, j, none⟩) (by show w.heap.size < w3.heap.size; omega), belB.cell (p := ⟨w.heap.size, j, none⟩) hG2]
    have h := HC2.out j hj
    rw [Nat.zero_add] at h
    exact h
  clear hst5 hfl5 hfl6 bel5 belA belB HC2 hcopy
  go_wp2_with fail
  refine (ZZ_neg w3.heap.size n first _ w5 (TE.out w5 (Below.refl _ _)) (-1) (by omega)).mono ?_
  rintro e w6 ⟨rfl, bel6⟩
  have hi' : i < (n : Int) := by omega
  go_wp2_with fail
  refine (ZZ_neg w3.heap.size n first _ w6 (TE.out w6 bel6) i hi).mono ?_
  rintro e w7 ⟨rfl, bel7⟩
  go_wp2
  go_ret
  exact ⟨rfl, belW.trans ((bel6.mono (by have := belW.size; omega)).trans (bel7.mono (by have := belW.size; have := bel6.size; omega)))⟩

set_option maxHeartbeats 1000000 in
theorem law_some_pos (first : Int) (x : Addr) (n cap : Nat) (zs : List Int) (k : Nat) (w : World)
    (hn : n ≤ 131072) (hk : k < n) (hz : zs.length = n) (hr : ∀ z ∈ zs, -9223372036854775808 ≤ z ∧ z ≤ 9223372036854775807)
    (hf0 : -9223372036854775808 ≤ first) (hf1 : first ≤ 9223372036854775807)
    (hsrc : ∀ j, j < n → w.cell? (x.add j) = some (.int .i64 (zs.getD j 0))) :
    Calls Try.prog 8 #[.int .i64 first, .slice (some x) n cap, .int .i64 k] w fun e w' => e = .returned (.bool true) ∧ Below w.heap.size w w' := by
  have hnil := fun w => run_neq_slice_nil_any (P := Try.prog) w 37 3 (some x) n cap 0 0 Try.underlying37
  obtain ⟨i0, hi0, hz0, hz1, hz2⟩ := info_parts info3
  obtain ⟨j0, hj0, hy0, hy1, hy2⟩ := info_parts info33
  have HZ := hide hz
  have HR := hide hr
  have HSRC := hide hsrc
  have HF0 := hide hf0
  have HF1 := hide hf1
  clear hz hr hsrc hf0 hf1
  go_enter Try.func8, Try.ntmps8
  go_wp2_with (first | (go_at_call 23; go_in) | (at_make; refine wpList_make_full _ rfl _ _ 37 rfl w.heap.size 3 i0 (.int .i64 0) 1 Try.underlying37 hi0 hz0 hz1 _ _ _ _ n rfl rfl rfl rfl (by rw [hz2]; omega) (by unfold maxLen; omega) (by simp) ?_))
  intro w1 own1 gr1
  obtain ⟨w2, hcopy, hc2, bel2⟩ := copy_run w1 w.heap.size w.heap.size n cap x zs _ own1 HZ.out (fun j hj => gr1.cell (HSRC.out j hj) (by simp)) (Nat.le_refl _)
  have bel1 : Below w.heap.size w w1 := (Below.refl _ _).grown gr1 (Nat.le_refl _) (fun k hk => by cases hk)
  have hG := (own1.lt w.heap.size rfl).2
  have hG2 : w.heap.size < w2.heap.size := Nat.lt_of_lt_of_le hG bel2.size
  have belA : Below w.heap.size w w2 := bel1.trans bel2
  have HC2 := hide hc2
  clear hc2 own1 gr1 bel1 bel2 hnil
  go_wp2_with (first | (go_at_call 20; go_in) | (at_make; refine wpList_make_full _ rfl _ _ 25 rfl w.heap.size 33 j0 (.agg #[.string ⟨#[]⟩, .string ⟨#[]⟩]) 2 Try.underlying25 hj0 hy0 hy1 _ _ _ _ n rfl rfl rfl rfl (by rw [hy2]; omega) (by unfold maxLen; omega) (by omega) ?_))
  intro w3 own3 gr3
  have belB : Below w2.heap.size w2 w3 := (Below.refl _ _).grown gr3 (Nat.le_refl _) (fun k hk => by cases hk)
  have hfb := (own3.lt w2.heap.size rfl).2
  clear own3 gr3
  go_wp2_with (go_at_call 20; go_in)
  refine (ZZSetLines_facts w3.heap.size first (some ⟨w.heap.size, 0, none⟩) n n zs _ ⟨#[]⟩ hn (.inr ⟨w.heap.size, 0, rfl, by simp; omega, HZ.out, ?_⟩) (by simp) (by simp) (by simp)).mono ?_
  · intro j hj
    rw [((Below.refl _ _).alloc (Nat.le_refl _) _).cell (p := ⟨w.heap.size, 0 + j, none⟩) (by show w.heap.size < w3.heap.size; omega), belB.cell (p := ⟨w.heap.size, 0 + j, none⟩) hG2]
    exact HC2.out j hj
  rintro e w5 ⟨rfl, hst5, hfl5, bel5⟩
  have hfl6 : w5.cell? ⟨w3.heap.size, 0, none⟩ = some (.slice (some ⟨w2.heap.size, 0, none⟩) n n) := by rw [hfl5]; simp
  have hsz5 : w3.heap.size < w5.heap.size := by have := bel5.size; simp at this; omega
  have TE : Hid (∀ W', Below w5.heap.size w5 W' → Tells W' w3.heap.size n first (fun j => zs.getD j 0)) := fun W' hb =>
    tells_text W' w3.heap.size w2.heap.size n n first zs hn HZ.out HR.out HF0.out HF1.out (by have := hb.size; omega) (by have := hb.size; omega)
      (by rw [hb.cell (p := ⟨w3.heap.size, 3, none⟩) hsz5]; exact hst5) (by rw [hb.cell (p := ⟨w3.heap.size, 0, none⟩) hsz5]; exact hfl6)
  have belW : Below w.heap.size w w5 := (belA.trans (belB.mono (by omega))).trans (((Below.refl _ w3).alloc (by omega) _).trans (bel5.mono (by omega)))
  have HC5 : Hid (∀ j, j < n → w5.cell? ⟨w.heap.size, j, none⟩ = some (.int .i64 (zs.getD j 0))) := fun j hj => by
    rw [bel5.cell (p := ⟨w.heap.size, j, none⟩) (by show w.heap.size < w3.heap.size; omega), ((Below.refl _ _).alloc (Nat.le_refl _) _).cell (p := ⟨w.heap.size, j, none⟩) (by show w.heap.size < w3.heap.size; omega), belB.cell (p := ⟨w.heap.size, j, none⟩) hG2]
    have h := HC2.out j hj
    rw [Nat.zero_add] at h
    exact h
  clear hst5 hfl5 hfl6 bel5 belA belB HC2 hcopy
  go_wp2_with fail
  refine (ZZ_neg w3.heap.size n first _ w5 (TE.out w5 (Below.refl _ _)) (-1) (by omega)).mono ?_
  rintro e w6 ⟨rfl, bel6⟩
  have hc6 : w6.cell? ⟨w.heap.size, k, none⟩ = some (.int .i64 (zs.getD k 0)) := by
    rw [bel6.cell (p := ⟨w.heap.size, k, none⟩) (by show w.heap.size < w5.heap.size; omega)]
    exact HC5.out k hk
  obtain ⟨z, hz⟩ : ∃ z, zs.getD k 0 = z := ⟨_, rfl⟩
  rw [hz] at hc6
  have HZ' := hide hz
  clear hz
  go_wp2_with fail
  refine (ZZ_pos w3.heap.size n first _ w6 (TE.out w6 bel6) k hk).mono ?_
  rintro e w7 ⟨rfl, bel7⟩
  simp only [HZ'.out]
  go_wp2
  go_ret
  exact ⟨by simp, belW.trans ((bel6.mono (by have := belW.size; omega)).trans (bel7.mono (by have := belW.size; have := bel6.size; omega)))⟩

set_option maxHeartbeats 1000000 in
theorem law_nil (first : Int) (i : Int) (w : World) (hi : i < 0)
    (hf0 : -9223372036854775808 ≤ first) (hf1 : first ≤ 9223372036854775807) :
    Calls Try.prog 8 #[.int .i64 first, .slice none 0 0, .int .i64 i] w fun e w' => e = .returned (.bool true) ∧ Below w.heap.size w w' := by
  have hnil := fun w => run_neq_slice_nil_any (P := Try.prog) w 37 3 none 0 0 0 0 Try.underlying37
  obtain ⟨j0, hj0, hy0, hy1, hy2⟩ := info_parts info33
  have HF0 := hide hf0
  have HF1 := hide hf1
  clear hf0 hf1
  go_enter Try.func8, Try.ntmps8
  go_wp2_with (first | (go_at_call 23; go_in) | (go_at_call 20; go_in) | (at_make; refine wpList_make_full _ rfl _ _ 25 rfl w.heap.size 33 j0 (.agg #[.string ⟨#[]⟩, .string ⟨#[]⟩]) 2 Try.underlying25 hj0 hy0 hy1 _ _ _ _ 0 rfl rfl rfl rfl (by omega) (by unfold maxLen; omega) (by omega) ?_))
  intro w3 own3 gr3
  have belB : Below w.heap.size w w3 := (Below.refl _ _).grown gr3 (Nat.le_refl _) (fun k hk => by cases hk)
  have hfb := (own3.lt w.heap.size rfl).2
  clear own3 gr3 hnil
  go_wp2_with (go_at_call 20; go_in)
  refine (ZZSetLines_facts w3.heap.size first none 0 0 [] _ ⟨#[]⟩ (by omega) (.inl ⟨rfl, rfl, rfl⟩) (by simp) (by simp) (by simp)).mono ?_
  rintro e w5 ⟨rfl, hst5, hfl5, bel5⟩
  have hfl6 : w5.cell? ⟨w3.heap.size, 0, none⟩ = some (.slice (some ⟨w.heap.size, 0, none⟩) 0 0) := by rw [hfl5]; simp
  have hsz5 : w3.heap.size < w5.heap.size := by have := bel5.size; simp at this; omega
  have TE : Hid (∀ W', Below w5.heap.size w5 W' → Tells W' w3.heap.size 0 first (fun j => ([] : List Int).getD j 0)) := fun W' hb =>
    tells_text W' w3.heap.size w.heap.size 0 0 first [] (by omega) rfl (by simp) HF0.out HF1.out (by have := hb.size; omega) (by have := hb.size; omega)
      (by rw [hb.cell (p := ⟨w3.heap.size, 3, none⟩) hsz5]; exact hst5) (by rw [hb.cell (p := ⟨w3.heap.size, 0, none⟩) hsz5]; exact hfl6)
  have belW : Below w.heap.size w w5 := belB.trans (((Below.refl _ w3).alloc (by omega) _).trans (bel5.mono (by omega)))
  clear hst5 hfl5 hfl6 bel5 belB
  go_wp2_with fail
  refine (ZZ_neg w3.heap.size 0 first _ w5 (TE.out w5 (Below.refl _ _)) (-1) (by omega)).mono ?_
  rintro e w6 ⟨rfl, bel6⟩
  go_wp2_with fail
  refine (ZZ_neg w3.heap.size 0 first _ w6 (TE.out w6 bel6) i hi).mono ?_
  rintro e w7 ⟨rfl, bel7⟩
  go_wp2
  go_ret
  exact ⟨rfl, belW.trans ((bel6.mono (by have := belW.size; omega)).trans (bel7.mono (by have := belW.size; have := bel6.size; omega)))⟩

set_option maxHeartbeats 400000 in
theorem law_huge (first : Int) (a : Option Addr) (n cap : Nat) (i : Int) (w : World) (hm : n ≤ maxLen) (h : 1048576 < n) :
    Calls Try.prog 8 #[.int .i64 first, .slice a n cap, .int .i64 i] w fun e w' => e = .returned (.bool true) ∧ Below w.heap.size w w' := by
  unfold maxLen at hm
  have h1 : (1048576 : Int) < (n : Int) := by omega
  go_enter Try.func8, Try.ntmps8
  go_wp2
  go_ret
  exact ⟨rfl, Below.refl _ _⟩

set_option maxHeartbeats 400000 in
theorem law_big (first : Int) (a : Option Addr) (n cap : Nat) (i : Int) (w : World) (h0 : n ≤ 1048576) (h : 131072 < n) :
    Calls Try.prog 8 #[.int .i64 first, .slice a n cap, .int .i64 i] w fun e w' => e = .returned (.bool true) ∧ Below w.heap.size w w' := by
  go_enter Try.func8, Try.ntmps8
  go_wp2
  go_ret
  exact ⟨rfl, Below.refl _ _⟩

set_option maxHeartbeats 400000 in
theorem law_past (first : Int) (a : Option Addr) (n cap : Nat) (i : Int) (w : World) (h0 : n ≤ 131072) (h : (n : Int) ≤ i) :
    Calls Try.prog 8 #[.int .i64 first, .slice a n cap, .int .i64 i] w fun e w' => e = .returned (.bool true) ∧ Below w.heap.size w w' := by
  go_enter Try.func8, Try.ntmps8
  go_wp2
  go_ret
  exact ⟨rfl, Below.refl _ _⟩

theorem law (first : Int) (a : Option Addr) (n cap : Nat) (zs : List Int) (i : Int) (w : World)
    (hf0 : -9223372036854775808 ≤ first) (hf1 : first ≤ 9223372036854775807)
    (hrow : (a = none ∧ n = 0 ∧ cap = 0 ∧ zs = []) ∨
      ∃ x, a = some x ∧ n ≤ cap ∧ cap ≤ maxLen ∧ zs.length = cap ∧ (∀ i, i < zs.length → w.cell? (x.add i) = some (.int .i64 (zs.getD i 0))) ∧ ∀ z ∈ zs, -9223372036854775808 ≤ z ∧ z ≤ 9223372036854775807) :
    Calls Try.prog 8 #[.int .i64 first, .slice a n cap, .int .i64 i] w fun e w' => e = .returned (.bool true) ∧ Below w.heap.size w w' := by
  have hm : n ≤ maxLen := by
    rcases hrow with ⟨_, h, _⟩ | ⟨_, _, h1, h2, _⟩
    · rw [h]; exact Nat.zero_le _
    · exact Nat.le_trans h1 h2
  by_cases h1 : n ≤ 1048576
  · by_cases h2 : n ≤ 131072
    · by_cases h3 : (n : Int) ≤ i
      · exact law_past first a n cap i w h2 h3
      · rcases hrow with ⟨rfl, rfl, rfl, rfl⟩ | ⟨x, rfl, hnc, _, hzl, hcell, hwf⟩
        · exact law_nil first i w (by omega) hf0 hf1
        · have hz : (zs.take n).length = n := by rw [List.length_take]; omega
          have hr : ∀ z ∈ zs.take n, -9223372036854775808 ≤ z ∧ z ≤ 9223372036854775807 := fun z hz => hwf z (List.mem_of_mem_take hz)
          have hs : ∀ j, j < n → w.cell? (x.add j) = some (.int .i64 ((zs.take n).getD j 0)) := by
            intro j hj
            rw [hcell j (by omega)]
            simp [List.getD, hj]
          by_cases hi : i < 0
          · exact law_some_neg first x n cap (zs.take n) i w h2 hi hz hr hf0 hf1 hs
          · obtain ⟨k, rfl⟩ := Int.eq_ofNat_of_zero_le (show 0 ≤ i by omega)
            exact law_some_pos first x n cap (zs.take n) k w h2 (by omega) hz hr hf0 hf1 hs
    · exact law_big first a n cap i w h1 (by omega)
  · exact law_huge first a n cap i w hm (by omega)
end Go.Proofs.Qxb6001745a.Round
