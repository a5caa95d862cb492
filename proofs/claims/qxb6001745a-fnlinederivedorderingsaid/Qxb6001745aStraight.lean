import Derived.Test.Qxb6001745aField
namespace Go.Proofs.Qxb6001745a.Straight
open Go.RowKit Go.Proofs Go.Proofs.Qxb6001745a.Var Go.Proofs.Qxb6001745a.Set Go.Proofs.Qxb6001745a.Field

/-- the line feeds in the first k values -/
def cnt (vs : List ByteArray) (k : Nat) : Nat := ((vs.take k).map fun v => Lib.countByte v.data.toList 10).sum
/-- the line on which field k begins, where the lines are straight -/
def lineAt (first : Int) (vs : List ByteArray) (k : Nat) : Int := first + (k : Int) + (cnt vs k : Int)
theorem lineAt_zero (first : Int) (vs : List ByteArray) : lineAt first vs 0 = first := by simp [lineAt, cnt]
theorem lineAt_succ (first : Int) (vs : List ByteArray) (k : Nat) (h : k < vs.length) :
    lineAt first vs (k + 1) = lineAt first vs k + (1 + (Lib.countByte (vs.getD k ByteArray.empty).data.toList 10 : Int)) := by
  unfold lineAt cnt
  rw [List.take_succ_eq_append_getElem h, List.map_append, List.sum_append]
  simp [List.getD, List.getElem?_eq_getElem h]
  omega

theorem one_new (w : World) (b : Nat) (x : Value) (hb : w.heap.size = b) : ∀ j u, [x][j]? = some u → (w.alloc (.cells #[x] 3)).cell? ((⟨b, 0, none⟩ : Addr).add j) = some u := by
  intro j u hj
  subst hb
  match j, hj with
  | 0, hj => simp at hj; subst hj; simp [Addr.add]

def lvs (first : Int) (vs : List ByteArray) (k : Nat) : List Value := (List.range k).map fun j => Value.int .i64 (lineAt first vs j)
theorem lvs_zero (first : Int) (vs : List ByteArray) : lvs first vs 0 = [] := rfl
theorem lvs_succ (first : Int) (vs : List ByteArray) (k : Nat) : lvs first vs k ++ [Value.int .i64 (lineAt first vs k)] = lvs first vs (k + 1) := by
  unfold lvs
  rw [List.range_succ, List.map_append]
  rfl
theorem lvs_get (first : Int) (vs : List ByteArray) (n j : Nat) (hj : j < n) : (lvs first vs n)[j]? = some (Value.int .i64 (lineAt first vs j)) := by
  unfold lvs
  simp [hj]

set_option maxHeartbeats 2000000 in
theorem fieldLines_straight (sb : Nat) (first : Int) (fb n fcap : Nat) (nm : Nat → ByteArray) (vs : List ByteArray) (w : World)
    (hn : n ≤ 131072) (hz : vs.length = n) (hov : ∀ k, k ≤ n → lineAt first vs k ≤ 9223372036854775807) (hfb : fb < w.heap.size)
    (hcn : ∀ j, j < n → Lib.countByte (vs.getD j ByteArray.empty).data.toList 10 ≤ 1048576)
    (hfc : ∀ j, j < n → w.cell? ⟨fb, j * 2, none⟩ = some (.string (nm j)) ∧ w.cell? ⟨fb, j * 2 + 1, none⟩ = some (.string (vs.getD j ByteArray.empty)))
    (hf0 : -9223372036854775808 ≤ first) (hf1 : first ≤ 9223372036854775807) (hsb : sb < w.heap.size)
    (hst : w.cell? ⟨sb, 3, none⟩ = some (.string ⟨(head first n).toArray⟩)) (hfl : w.cell? ⟨sb, 0, none⟩ = some (.slice (some ⟨fb, 0, none⟩) n fcap)) :
    Calls Try.prog 37 #[.pointer (some ⟨sb, 0, none⟩)] w fun e w' => ∃ G, e = .returned (.tuple #[.int .i64 first, .slice (some ⟨G, 0, none⟩) n n, .bool true]) ∧
      (∀ j, j < n → w'.cell? ⟨G, j, none⟩ = some (.int .i64 (lineAt first vs j))) ∧ Below w.heap.size w w' := by
  obtain ⟨a, ha⟩ : ∃ a, (Lib.uvarint (u64n first)).length = a := ⟨_, rfl⟩
  obtain ⟨b, hb⟩ : ∃ b, (Lib.uvarint n).length = b := ⟨_, rfl⟩
  have ht : (head first n).length = a + b := by rw [← ha, ← hb]; simp [head]
  have ha1 : 1 ≤ a := by rw [← ha]; exact Lib.uvarint_pos _
  have ha2 : a ≤ 10 := by rw [← ha]; exact Lib.uvarint_length64 (u64n_lt first)
  have hb1 : 1 ≤ b := by rw [← hb]; exact Lib.uvarint_pos _
  have hb2 : b ≤ 10 := by rw [← hb]; exact Lib.uvarint_length64 (by omega)
  obtain ⟨i0, hi, hz0, hz1, hz2⟩ := info_parts info3
  have han : ¬ a = 0 := by omega
  have hbn : ¬ b = 0 := by omega
  obtain ⟨c, O, hc, hrun, hcells⟩ := bytes_of w (head first n) (a + b) ht
  have hwb := wrap_back first hf0 hf1
  have HZ := hide hz
  have HOV := hide hov
  have HFC := hide hfc
  have HA := hide ha
  have HB := hide hb
  have HT := hide ht
  have HC := hide (hcells (w.alloc O) (by show (w.heap.push O)[w.heap.size]? = _; simp))
  have HE := hide (show head first n = Lib.uvarint (u64n first) ++ (Lib.uvarint n ++ []) from by simp [head])
  have HF0 := hide hf0
  have HCN := hide hcn
  clear hcn hz hov hfc hcells hf0 hf1 ha hb ht
  by_cases hcab : c - a = b
  all_goals
    go_enter Try.func37, Try.ntmps37
    go_wp2_with fail
    refine (Uvarint_at w.heap.size 0 (a + b) c (u64n first) a (Lib.uvarint n ++ []) _ (u64n_lt first) (by rw [← HE.out]; exact HT.out) HA.out (by exact shift (pre := []) HE.out rfl HC.out)).mono ?_
    rintro e w' ⟨rfl, rfl⟩
    go_wp2_with fail
    go_quiet (fail)
    go_wp2_with fail
    refine (Uvarint_at w.heap.size a b _ n b [] _ (by unfold u64max; omega) (by rw [List.length_append, HB.out]; rfl) HB.out (by exact shift HE.out HA.out HC.out)).mono ?_
    rintro e w' ⟨rfl, rfl⟩
    go_wp2_with (at_make; refine wpList_make_own _ rfl _ _ 37 rfl w.heap.size 3 i0 (.int .i64 0) 1 Try.underlying37 hi hz0 hz1 _ _ _ n rfl rfl rfl (by rw [hz2]; omega) (by unfold maxLen; omega) (by simp) ?_)
    intro w3 own3 gr3
    have bel3 : Below w.heap.size w w3 := (below_drewN ((Below.refl _ _).alloc (Nat.le_refl _) O) _).grown gr3 (by simp) (fun k hk => by cases hk)
    have hfl3 : w3.cell? ⟨sb, 0, none⟩ = some (.slice (some ⟨fb, 0, none⟩) n fcap) := by rw [bel3.cell (p := ⟨sb, 0, none⟩) hsb]; exact hfl
    clear gr3
    go_wp2_with fail
    have hl0 := lineAt_zero first vs
    go_loopw [3, 8, 63] (fun v3 v8 vi wr => ∃ k : Nat, k ≤ n ∧ vi = .int .i64 k ∧ v3 = .slice (some ⟨w.heap.size + 1, 0, none⟩) k n ∧ v8 = .int .i64 (lineAt first vs k) ∧
        wr.ownsRow w.heap.size 3 1 (.slice (some ⟨w.heap.size + 1, 0, none⟩) k n) k (lvs first vs k) ∧ Below w.heap.size w wr)
      (fun _ _ vi _ => n - (intOf vi).toNat)
    case atStart => exact ⟨0, Nat.zero_le _, rfl, rfl, by rw [hl0], own3, bel3⟩
    case round =>
      obtain ⟨k, hk, rfl, rfl, rfl, own, belr⟩ := hrel
      clear own3 bel3 hl0
      by_cases hlt : k < n
      · obtain ⟨nk, hnk⟩ : ∃ x, nm k = x := ⟨_, rfl⟩
        obtain ⟨v, hv⟩ : ∃ x, vs.getD k ByteArray.empty = x := ⟨_, rfl⟩
        obtain ⟨C, hC⟩ : ∃ x, Lib.countByte v.data.toList 10 = x := ⟨_, rfl⟩
        obtain ⟨L, hL⟩ : ∃ x, lineAt first vs k = x := ⟨_, rfl⟩
        have hkz : k < vs.length := by rw [HZ.out]; exact hlt
        have hc1 : wr.cell? ⟨fb, k * 2, none⟩ = some (.string nk) := by rw [belr.cell (p := ⟨fb, k * 2, none⟩) hfb, ← hnk]; exact (HFC.out k hlt).1
        have hc2 : wr.cell? ⟨fb, k * 2 + 1, none⟩ = some (.string v) := by rw [belr.cell (p := ⟨fb, k * 2 + 1, none⟩) hfb, ← hv]; exact (HFC.out k hlt).2
        have hsu := lineAt_succ first vs k hkz
        rw [hv, hC, hL] at hsu
        have hov1 := HOV.out (k + 1) hlt
        rw [hsu] at hov1
        have hlo : -9223372036854775808 ≤ L := by rw [← hL]; unfold lineAt; have := HF0.out; omega
        have HCT := hide (fun w => Try.strings_Count_one v 10 w)
        rw [hC] at HCT
        rw [hL]
        have HL := hide hL
        have HS := hide hsu
        have HLV := hide (lvs_succ first vs k)
        have hhi : C ≤ 1048576 := by rw [← hC, ← hv]; exact HCN.out k hlt
        clear hL hsu hC hv hnk
        go_wp2_with (at_builtin; refine wpList_append_fits _ rfl _ _ 37 rfl w.heap.size 3 i0 1 Try.underlying37 hi hz1 (w.heap.size + 1) k n _ rfl ((own.alloc _).alloc _) ⟨_, 0, none⟩ 1 1 [Value.int .i64 L] rfl rfl (one_new _ _ _ (by simp)) (by intro u hu; simp at hu; subst hu; rfl) (by omega) ?_)
        intro w4 own4 gr4
        rw [← HL.out, HLV.out] at own4
        have hsz := belr.size
        have bel4 : Below w.heap.size w w4 := ((belr.alloc (by omega) _).alloc (by simp; omega) _).grown gr4 (by simp; omega) (fun q hq => by cases hq; omega)
        have hG := (own.lt (w.heap.size + 1) rfl).2
        have hf1 : w4.cell? ⟨wr.heap.size, 1, none⟩ = some (.string v) := gr4.cell (a := ⟨wr.heap.size, 1, none⟩) (by simp) (by simp; omega)
        go_wp2_with (go_at_call 40; refine (HCT.out _).mono ?_; rintro e w' ⟨rfl, rfl⟩)
        exact ⟨⟨k + 1, by omega, by go_num, rfl, by rw [HS.out], own4, bel4⟩, by simp [intOf]; omega⟩
      · have hkn : k = n := by omega
        subst hkn
        go_wp2
        go_ret3
        refine ⟨w.heap.size + 1, rfl, ?_, belr⟩
        intro j hj
        have h := own.cells rfl j _ (lvs_get first vs k j hj)
        rw [Addr.add_lit, Nat.zero_add] at h
        exact h
end Go.Proofs.Qxb6001745a.Straight
