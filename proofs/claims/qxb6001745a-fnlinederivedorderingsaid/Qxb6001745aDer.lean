import Derived.Test.Qxb6001745aSums
import Derived.Test.Qxb6001745aApp
import Derived.Test.Qxb6001745aRound
namespace Go.Proofs.Qxb6001745a.Der
open Go.RowKit Go.Proofs Go.Proofs.Qxb6001745a.Var Go.Proofs.Qxb6001745a.Set Go.Proofs.Qxb6001745a.Field Go.Proofs.Qxb6001745a.Straight Go.Proofs.Qxb6001745a.Line Go.Proofs.Qxb6001745a.Sums Go.Proofs.Qxb6001745a.App
open Go.Proofs.Qxb6001745a.Round (info33)

def nameF : ByteArray := ⟨#[70]⟩

/-- the row of fields at block g is there and may be written -/
def Room (w : World) (g n : Nat) : Prop := ∀ j, j < n * 2 → (w.cell? ⟨g, j, none⟩).isSome = true ∧ w.frozen? ⟨g, j, none⟩ = false
/-- its first k fields are laid -/
def Filled (w : World) (g k : Nat) (ss : List ByteArray) : Prop := ∀ j, j < k → w.cell? ⟨g, j * 2, none⟩ = some (.string nameF) ∧ w.cell? ⟨g, j * 2 + 1, none⟩ = some (.string (ss.getD j ByteArray.empty))

theorem own_head2 {w : World} {B : Nat} {v : Value} {first : Int} {n : Nat}
    (h : w.ownsRow B 5 1 v ((Lib.uvarint (u64n first)).length + (Lib.uvarint n).length) (Lib.byteCells (Lib.uvarint (u64n first)) ++ Lib.byteCells (Lib.uvarint n))) :
    w.ownsRow B 5 1 v (head first n).length (Lib.byteCells (head first n)) := by
  unfold head
  rw [List.length_append, ← bytes_app]
  exact h
theorem head_pos (first : Int) (n : Nat) : 0 < (head first n).length := by
  unfold head
  have := Lib.uvarint_pos (u64n first)
  rw [List.length_append]
  omega

theorem cnt_le (ss : List ByteArray) (k : Nat) : cnt ss k ≤ tot ss k := by
  unfold cnt tot
  induction ss.take k with
  | nil => simp
  | cons a l ih =>
    simp only [List.map_cons, List.sum_cons]
    have h : Lib.countByte a.data.toList 10 ≤ a.size := by
      refine Nat.le_trans (count_le _) ?_
      rw [Array.length_toList]
      exact Nat.le_refl _
    omega
theorem tot_le (ss : List ByteArray) (n k : Nat) (hz : ss.length = n) : tot ss k ≤ tot ss n := by
  unfold tot
  rw [← hz, List.take_length]
  conv => rhs; rw [← List.take_append_drop k ss, List.map_append, List.sum_append]
  exact Nat.le_add_right _ _
theorem size_le (ss : List ByteArray) (n k : Nat) (hz : ss.length = n) (hk : k < n) : (ss.getD k ByteArray.empty).size ≤ tot ss n := by
  have h1 := tot_succ ss k (by omega)
  have h2 := tot_le ss n (k + 1) hz
  omega
theorem count_size (s : ByteArray) : Lib.countByte s.data.toList 10 ≤ s.size := by
  refine Nat.le_trans (count_le _) ?_
  rw [Array.length_toList]
  exact Nat.le_refl _
theorem cnt_succ (ss : List ByteArray) (k : Nat) (h : k < ss.length) : cnt ss (k + 1) = cnt ss k + Lib.countByte (ss.getD k ByteArray.empty).data.toList 10 := by
  unfold cnt
  rw [List.take_succ_eq_append_getElem h, List.map_append, List.sum_append]
  simp [List.getD, List.getElem?_eq_getElem h]

/-- fieldLines at a stanza of straight lines -/
theorem tells_straight (W : World) (sb fb n : Nat) (first : Int) (ss : List ByteArray) (hn : n ≤ 65536) (hz : ss.length = n) (ht : tot ss n ≤ 1048576)
    (hf0 : -9223372036854775808 ≤ first) (hf1 : first ≤ 9223372036850581503) (hsb : sb < W.heap.size) (hfb : fb < W.heap.size)
    (hfc : Filled W fb n ss) (hst : W.cell? ⟨sb, 3, none⟩ = some (.string ⟨(head first n).toArray⟩)) (hfl : W.cell? ⟨sb, 0, none⟩ = some (.slice (some ⟨fb, 0, none⟩) n n)) :
    Tells W sb n first (lineAt first ss) := by
  refine fieldLines_straight sb first fb n n (fun _ => nameF) ss W (by omega) hz ?_ hfb ?_ hfc hf0 (by omega) hsb hst hfl
  · intro k hk
    have h1 := cnt_le ss k
    have h2 := tot_le ss n k hz
    unfold lineAt
    omega
  · intro j hj
    have h1 := count_size (ss.getD j ByteArray.empty)
    have h2 := size_le ss n j hz hj
    omega

theorem ret_true {a : Bool} (h : a = true) : Ending.returned (.bool a) = .returned (.bool true) := by rw [h]

theorem addr_ne {g x y : Nat} (h : x ≠ y) : (⟨g, x, none⟩ : Addr) ≠ ⟨g, y, none⟩ := by
  intro e
  apply h
  exact congrArg Addr.off e

theorem set_some {w : World} {p q : Addr} {x : Value} (h : (w.cell? q).isSome = true) : ((w.setCell p x).cell? q).isSome = true := by
  obtain ⟨v, hv⟩ := Option.isSome_iff_exists.1 h
  obtain ⟨v', hv'⟩ := cell?_setCell_some (p := p) (x := x) hv
  rw [hv']; rfl

theorem room_step {w : World} {g n : Nat} (h : Room w g n) (p q : Addr) (x y : Value) : Room ((w.setCell p x).setCell q y) g n := fun j hj =>
  ⟨set_some (set_some (h j hj).1), by rw [World.frozen?_setCell, World.frozen?_setCell]; exact (h j hj).2⟩

theorem filled_step {w : World} {g n k : Nat} {ss : List ByteArray} {s : ByteArray} (hr : Room w g n) (hf : Filled w g k ss) (hk : k < n) (hs : ss.getD k ByteArray.empty = s) :
    Filled ((w.setCell ⟨g, k * 2, none⟩ (.string ⟨#[70]⟩)).setCell ⟨g, k * 2 + 1, none⟩ (.string s)) g (k + 1) ss := by
  intro j hj
  by_cases hjk : j = k
  · subst hjk
    refine ⟨?_, ?_⟩
    · rw [World.cell?_setCell_other (h := by simp), World.cell?_setCell_same' _ _ _ (hr (j * 2) (by omega)).1]
      rfl
    · rw [World.cell?_setCell_same' _ _ _ (set_some (hr (j * 2 + 1) (by omega)).1), hs]
  · have hlt : j < k := by omega
    refine ⟨?_, ?_⟩
    · rw [World.cell?_setCell_other (h := addr_ne (by omega)), World.cell?_setCell_other (h := addr_ne (by omega))]
      exact (hf j hlt).1
    · rw [World.cell?_setCell_other (h := addr_ne (by omega)), World.cell?_setCell_other (h := addr_ne (by omega))]
      exact (hf j hlt).2

set_option maxHeartbeats 400000 in
theorem SetText_any (sb : Nat) (s : ByteArray) (w : World) (old : ByteArray) (hst : w.cell? ⟨sb, 3, none⟩ = some (.string old)) (hfr : w.frozen? ⟨sb, 3, none⟩ = false) :
    Calls Try.prog 29 #[.pointer (some ⟨sb, 0, none⟩), .string s] w fun e w' => e = .returned (.tuple #[]) ∧ w' = w.setCell ⟨sb, 3, none⟩ (.string s) := by
  go_enter Try.func29, Try.ntmps29
  go_wp2
  go_end0
  exact ⟨rfl, rfl⟩

theorem SetText_facts (sb : Nat) (s : ByteArray) (w : World) (old : ByteArray) (hst : w.cell? ⟨sb, 3, none⟩ = some (.string old)) (hfr : w.frozen? ⟨sb, 3, none⟩ = false) :
    Calls Try.prog 29 #[.pointer (some ⟨sb, 0, none⟩), .string s] w fun e w' => e = .returned (.tuple #[]) ∧
      w'.cell? ⟨sb, 3, none⟩ = some (.string s) ∧ w'.cell? ⟨sb, 0, none⟩ = w.cell? ⟨sb, 0, none⟩ ∧ Below sb w w' := by
  refine (SetText_any sb s w old hst hfr).mono ?_
  rintro e w' ⟨rfl, rfl⟩
  refine ⟨rfl, World.cell?_setCell_same' w _ _ (by rw [hst]; rfl), ?_, (Below.refl _ _).setCell (p := ⟨sb, 3, none⟩) (Nat.le_refl _) _⟩
  rw [World.cell?_setCell_other (h := addr_ne (by omega))]

set_option maxHeartbeats 1000000 in
theorem main (first : Int) (b o n cap : Nat) (ss : List ByteArray) (i : Int) (w : World)
    (h1 : 1 ≤ n) (hn : n ≤ 65536) (hs : Strs w b o n ss) (hm : ∀ s ∈ ss, s.size ≤ maxLen)
    (hf0 : -9223372036854775808 ≤ first) (hf1 : first ≤ 9223372036850581503) :
    Calls Try.prog 10 #[.int .i64 first, .slice (some ⟨b, o, none⟩) n cap, .int .i64 i] w fun e w' => e = .returned (.bool true) ∧ Below w.heap.size w w' := by
  obtain ⟨j0, hj0, hy0, hy1, hy2⟩ := info_parts info33
  have HS := hide hs
  have HM := hide hm
  have hb := hs.2.1
  have hn0 : ((n : Int) == 0) = false := by rw [beq_eq_false_iff_ne]; omega
  obtain ⟨m, hm1⟩ : ∃ m : Nat, n = m + 1 := ⟨n - 1, by omega⟩
  have hnm : (n : Int) - 1 = (m : Int) := by omega
  have hmn : m < n := by omega
  have HM1 := hide hm1
  clear hs hm hm1
  go_enter Try.func10, Try.ntmps10
  go_wp2_with fail
  refine (zzBytes_any first i b o n cap ss w (by omega) HS.out HM.out).mono ?_
  rintro e w' ⟨h | ⟨h, ht⟩, hw⟩
  · rw [h, hw]
    go_wp2
    go_ret
    exact ⟨rfl, Below.refl _ _⟩
  · rw [h, hw]
    clear h hw
    have ht' : tot ss n ≤ 1048576 := by omega
    go_wp2_with fail
    refine (stringsBytes_any b o n cap ss w hn HS.out ht').mono ?_
    rintro e w2 ⟨⟨t, h⟩, hw⟩
    rw [h, hw]
    clear h hw
    by_cases htt : 1048576 < t
    · go_wp2
      go_ret
      exact ⟨rfl, Below.refl _ _⟩
    · go_wp2_with (at_make; refine wpList_make_full _ rfl _ _ 25 rfl w.heap.size 33 j0 (.agg #[.string ⟨#[]⟩, .string ⟨#[]⟩]) 2 Try.underlying25 hj0 hy0 hy1 _ _ _ _ n rfl rfl rfl rfl (by rw [hy2]; omega) (by unfold maxLen; omega) (by omega) ?_)
      intro w3 own3 gr3
      have bel3 : Below w.heap.size w w3 := (Below.refl _ _).grown gr3 (Nat.le_refl _) (fun k hk => by cases hk)
      have hsz3 := (own3.lt w.heap.size rfl).2
      have HFR : Hid (∀ j, j < n * 2 → (w3.cell? ⟨w.heap.size, j, none⟩).isSome = true ∧ w3.frozen? ⟨w.heap.size, j, none⟩ = false) := fun j hj =>
        ⟨by rw [own3.cellAt j hj, List.getElem?_eq_getElem (by rw [own3.1]; exact hj)]; rfl, own3.frozenAt j⟩
      clear own3 gr3
      go_wp2_with fail
      go_loopw [9] (fun vi wr => ∃ k : Nat, k ≤ n ∧ vi = .int .i64 k ∧ Room wr w.heap.size n ∧ Filled wr w.heap.size k ss ∧ Below w.heap.size w wr ∧ w.heap.size < wr.heap.size) (fun vi _ => n - (intOf vi).toNat)
      case atStart => exact ⟨0, Nat.zero_le _, rfl, HFR.out, fun j hj => absurd hj (Nat.not_lt_zero _), bel3, hsz3⟩
      case round =>
        obtain ⟨k, hk, rfl, hroom, hfill, belr, hszr⟩ := hrel
        clear bel3 hsz3 HFR
        by_cases hlt : k < n
        · obtain ⟨s, hsk⟩ : ∃ s, ss.getD k ByteArray.empty = s := ⟨_, rfl⟩
          have hck : wr.cell? ⟨b, o + k, none⟩ = some (.string s) := by rw [belr.cell (p := ⟨b, o + k, none⟩) hb, ← hsk]; exact HS.out.2.2 k hlt
          obtain ⟨x0, hx0⟩ := Option.isSome_iff_exists.1 (hroom (k * 2) (by omega)).1
          obtain ⟨x1, hx1⟩ := Option.isSome_iff_exists.1 (hroom (k * 2 + 1) (by omega)).1
          have hg0 := (hroom (k * 2) (by omega)).2
          have hg1 := (hroom (k * 2 + 1) (by omega)).2
          have HSK := hide hsk
          have HRO := hide hroom
          have HFI := hide hfill
          clear hsk hroom hfill
          go_wp2_with fail
          exact ⟨⟨k + 1, by omega, by go_num, room_step HRO.out _ _ _ _, filled_step HRO.out HFI.out hlt HSK.out, (belr.setCell (Nat.le_refl _) _).setCell (Nat.le_refl _) _, by simp [World.setCell]; exact hszr⟩, by simp [intOf]; omega⟩
        · have hkn : n = k := by omega
          subst hkn
          have HFI := hide hfill
          have hfu := wrap_u64 first
          have hl1 := Lib.uvarint_length64 (u64n_lt first)
          have hl2 := Lib.uvarint_length64 (x := n) (by omega)
          clear hroom hfill
          go_wp2_with fail
          refine (appendUvarint_any wr.heap.size 0 (u64n first) (u64n_lt first) (.slice none 0 0) [] wr (World.ownsRow_nil _ _ _ _) (Nat.le_refl _) (by omega)).mono ?_
          rintro e w4 ⟨v1, rfl, own1, bel1⟩
          simp only [List.nil_append, Nat.zero_add] at own1
          go_wp2_with fail
          refine (appendUvarint_any wr.heap.size _ n (by omega) v1 _ w4 own1 bel1.size (by omega)).mono ?_
          rintro e w5 ⟨v2, rfl, own2, bel2⟩
          replace own2 := own_head2 own2
          have belT : Below wr.heap.size wr w5 := bel1.trans bel2
          obtain ⟨g2, c2, rfl⟩ := own_form own2 (head_pos first n)
          have hcv := fun O => conv_bytes (own2.alloc O)
          clear own1 bel1 bel2 own2
          go_wp2_with (go_at_call 20; go_in)
          refine (SetText_facts w5.heap.size _ _ ⟨#[]⟩ (by simp) (by simp)).mono ?_
          rintro e w6 ⟨rfl, hst6, hfl6, bel6⟩
          have hfl7 : w6.cell? ⟨w5.heap.size, 0, none⟩ = some (.slice (some ⟨w.heap.size, 0, none⟩) n n) := by rw [hfl6]; simp
          have hsz6 : w5.heap.size < w6.heap.size := by have := bel6.size; simp at this; omega
          have hszT := belT.size
          have hfil6 : Filled w6 w.heap.size n ss := by
            intro j hj
            rw [bel6.cell (p := ⟨w.heap.size, j * 2, none⟩) (by show w.heap.size < w5.heap.size; omega), bel6.cell (p := ⟨w.heap.size, j * 2 + 1, none⟩) (by show w.heap.size < w5.heap.size; omega),
              ((Below.refl _ _).alloc (Nat.le_refl _) _).cell (p := ⟨w.heap.size, j * 2, none⟩) (by show w.heap.size < w5.heap.size; omega), ((Below.refl _ _).alloc (Nat.le_refl _) _).cell (p := ⟨w.heap.size, j * 2 + 1, none⟩) (by show w.heap.size < w5.heap.size; omega),
              belT.cell (p := ⟨w.heap.size, j * 2, none⟩) hszr, belT.cell (p := ⟨w.heap.size, j * 2 + 1, none⟩) hszr]
            exact HFI.out j hj
          have hszW : w.heap.size < w6.heap.size := by omega
          have TE : Hid (∀ W', Below w6.heap.size w6 W' → Tells W' w5.heap.size n first (lineAt first ss)) := fun W' hb' =>
            tells_straight W' w5.heap.size w.heap.size n first ss hn HS.out.1 ht' hf0 hf1 (by have := hb'.size; omega) (by have := hb'.size; omega)
              (fun j hj => by
                rw [hb'.cell (p := ⟨w.heap.size, j * 2, none⟩) hszW, hb'.cell (p := ⟨w.heap.size, j * 2 + 1, none⟩) hszW]
                exact hfil6 j hj)
              (by rw [hb'.cell (p := ⟨w5.heap.size, 3, none⟩) hsz6]; exact hst6) (by rw [hb'.cell (p := ⟨w5.heap.size, 0, none⟩) hsz6]; exact hfl7)
          have belW : Below w.heap.size w w6 := (belr.trans (belT.mono (by omega))).trans (((Below.refl _ w5).alloc (by omega) _).trans (bel6.mono (by omega)))
          clear hst6 hfl6 hfl7 bel6 belT hfil6 HFI belr
          go_wp2_with fail
          refine (ZZ_neg w5.heap.size n first _ w6 (TE.out w6 (Below.refl _ _)) (-1) (by omega)).mono ?_
          rintro e w7 ⟨rfl, bel7⟩
          have hZ0 := ZZ_pos w5.heap.size n first (lineAt first ss) w7 (TE.out w7 bel7) 0 (by omega)
          rw [lineAt_zero] at hZ0
          have HZ0 := hide hZ0
          have HLE : Hid (∀ k, lineAt first ss k = first + (k : Int) + (cnt ss k : Int)) := fun k => rfl
          clear hZ0
          go_wp2_with fail
          refine HZ0.out.mono ?_
          rintro e w8 ⟨rfl, bel8⟩
          have bel68 : Below w6.heap.size w6 w8 := bel7.trans (bel8.mono bel7.size)
          clear bel7 bel8 HZ0
          by_cases hi0 : 0 ≤ i
          · by_cases hi1 : i < (m : Int)
            · obtain ⟨q, rfl⟩ := Int.eq_ofNat_of_zero_le hi0
              obtain ⟨L0, hL0⟩ : ∃ L, lineAt first ss q = L := ⟨_, rfl⟩
              obtain ⟨L1, hL1⟩ : ∃ L, lineAt first ss (q + 1) = L := ⟨_, rfl⟩
              have hLL : L0 < L1 := by rw [← hL0, ← hL1, lineAt_succ first ss q (by rw [HS.out.1]; omega)]; omega
              have hZa := ZZ_pos w5.heap.size n first (lineAt first ss) w8 (TE.out w8 bel68) q (by omega)
              have hZb : ∀ W', Below w6.heap.size w6 W' → Calls Try.prog 25 #[.pointer (some ⟨w5.heap.size, 0, none⟩), .int .i64 ((q : Int) + 1)] W' fun e w' => e = .returned (.int .i64 L1) ∧ Below W'.heap.size W' w' := by
                intro W' hW'
                have h := ZZ_pos w5.heap.size n first (lineAt first ss) W' (TE.out W' hW') (q + 1) (by omega)
                rw [hL1] at h
                exact h
              rw [hL0] at hZa
              have HZa := hide hZa
              have HZb := hide hZb
              clear hZa hZb hL0 hL1
              go_wp2_with fail
              refine HZa.out.mono ?_
              rintro e w9 ⟨rfl, bel9⟩
              have bel69 : Below w6.heap.size w6 w9 := bel68.trans (bel9.mono bel68.size)
              go_wp2_with fail
              refine (HZb.out w9 bel69).mono ?_
              rintro e w10 ⟨rfl, bel10⟩
              have bel610 : Below w6.heap.size w6 w10 := bel69.trans (bel10.mono bel69.size)
              clear bel69 bel10 bel9 bel68 HZa HZb
              have HB := hide bel610
              clear bel610
              go_wp2_with fail
              go_loop [12, 13] (fun vb vi => ∃ k : Nat, k ≤ m ∧ vi = .int .i64 k ∧ vb = .int .i64 ((cnt ss k : Nat) : Int)) (fun _ vi => m - (intOf vi).toNat)
              case atStart => exact ⟨0, Nat.zero_le _, rfl, rfl⟩
              case round =>
                obtain ⟨k, hk, rfl, rfl⟩ := hrel
                have hck1 := Nat.le_trans (cnt_le ss k) (Nat.le_trans (tot_le ss n k HS.out.1) ht')
                by_cases hlt : k < m
                · obtain ⟨s, hsk⟩ : ∃ s, ss.getD k ByteArray.empty = s := ⟨_, rfl⟩
                  have hcs := cnt_succ ss k (by rw [HS.out.1]; omega)
                  have hss := size_le ss n k HS.out.1 (by omega)
                  have hcell : w10.cell? ⟨b, o + k, none⟩ = some (.string s) := by
                    rw [HB.out.cell (p := ⟨b, o + k, none⟩) (by show b < w6.heap.size; omega), belW.cell (p := ⟨b, o + k, none⟩) hb, ← hsk]
                    exact HS.out.2.2 k (by omega)
                  rw [hsk] at hcs hss
                  obtain ⟨C, hC⟩ : ∃ C, Lib.countByte s.data.toList 10 = C := ⟨_, rfl⟩
                  obtain ⟨D, hD⟩ : ∃ D, cnt ss k = D := ⟨_, rfl⟩
                  have hCs := count_size s
                  have hCL := countLineFeeds_any s w10 (by omega)
                  rw [hC] at hcs hCs hCL
                  rw [hD] at hcs hck1
                  rw [hD]
                  have HCS := hide hcs
                  have HCL := hide hCL
                  clear hcs hCL hC hD hsk
                  go_wp2_with (go_at_call 30; refine HCL.out.mono ?_; rintro e w' ⟨rfl, rfl⟩)
                  go_round
                  case rel => exact ⟨k + 1, by omega, by go_num, by rw [HCS.out]; go_num⟩
                  case measure => simp [intOf]; omega
                · have hkm : m = k := by omega
                  subst hkm
                  have hLe := HLE.out m
                  obtain ⟨D, hD⟩ : ∃ D, cnt ss m = D := ⟨_, rfl⟩
                  obtain ⟨L, hL⟩ : ∃ L, lineAt first ss m = L := ⟨_, rfl⟩
                  have hZ := ZZ_pos w5.heap.size n first (lineAt first ss) w10 (TE.out w10 HB.out) m hmn
                  rw [hL] at hLe hZ
                  rw [hD] at hLe hck1
                  rw [hD]
                  have HZ1 := hide hZ
                  have HLe := hide hLe
                  clear hD hL hZ hLe
                  go_wp2_with (go_at_call 25; refine HZ1.out.mono ?_; rintro e w' ⟨rfl, belz⟩)
                  go_ret
                  refine ⟨ret_true (by rw [HLe.out]; first | rfl | simp), belW.trans ((HB.out.mono (by omega)).trans (belz.mono (by have := HB.out.size; omega)))⟩
            · have hi1' : decide (i < (m : Int)) = false := by simpa using hi1
              have HB := hide bel68
              clear bel68
              go_wp2_with fail
              go_loop [12, 13] (fun vb vi => ∃ k : Nat, k ≤ m ∧ vi = .int .i64 k ∧ vb = .int .i64 ((cnt ss k : Nat) : Int)) (fun _ vi => m - (intOf vi).toNat)
              case atStart => exact ⟨0, Nat.zero_le _, rfl, rfl⟩
              case round =>
                obtain ⟨k, hk, rfl, rfl⟩ := hrel
                have hck1 := Nat.le_trans (cnt_le ss k) (Nat.le_trans (tot_le ss n k HS.out.1) ht')
                by_cases hlt : k < m
                · obtain ⟨s, hsk⟩ : ∃ s, ss.getD k ByteArray.empty = s := ⟨_, rfl⟩
                  have hcs := cnt_succ ss k (by rw [HS.out.1]; omega)
                  have hss := size_le ss n k HS.out.1 (by omega)
                  have hcell : w8.cell? ⟨b, o + k, none⟩ = some (.string s) := by
                    rw [HB.out.cell (p := ⟨b, o + k, none⟩) (by show b < w6.heap.size; omega), belW.cell (p := ⟨b, o + k, none⟩) hb, ← hsk]
                    exact HS.out.2.2 k (by omega)
                  rw [hsk] at hcs hss
                  obtain ⟨C, hC⟩ : ∃ C, Lib.countByte s.data.toList 10 = C := ⟨_, rfl⟩
                  obtain ⟨D, hD⟩ : ∃ D, cnt ss k = D := ⟨_, rfl⟩
                  have hCs := count_size s
                  have hCL := countLineFeeds_any s w8 (by omega)
                  rw [hC] at hcs hCs hCL
                  rw [hD] at hcs hck1
                  rw [hD]
                  have HCS := hide hcs
                  have HCL := hide hCL
                  clear hcs hCL hC hD hsk
                  go_wp2_with (go_at_call 30; refine HCL.out.mono ?_; rintro e w' ⟨rfl, rfl⟩)
                  go_round
                  case rel => exact ⟨k + 1, by omega, by go_num, by rw [HCS.out]; go_num⟩
                  case measure => simp [intOf]; omega
                · have hkm : m = k := by omega
                  subst hkm
                  have hLe := HLE.out m
                  obtain ⟨D, hD⟩ : ∃ D, cnt ss m = D := ⟨_, rfl⟩
                  obtain ⟨L, hL⟩ : ∃ L, lineAt first ss m = L := ⟨_, rfl⟩
                  have hZ := ZZ_pos w5.heap.size n first (lineAt first ss) w8 (TE.out w8 HB.out) m hmn
                  rw [hL] at hLe hZ
                  rw [hD] at hLe hck1
                  rw [hD]
                  have HZ1 := hide hZ
                  have HLe := hide hLe
                  clear hD hL hZ hLe
                  go_wp2_with (go_at_call 25; refine HZ1.out.mono ?_; rintro e w' ⟨rfl, belz⟩)
                  go_ret
                  refine ⟨ret_true (by rw [HLe.out]; first | rfl | simp), belW.trans ((HB.out.mono (by omega)).trans (belz.mono (by have := HB.out.size; omega)))⟩
          · have hi0' : decide (0 ≤ i) = false := by simpa using hi0
            have HB := hide bel68
            clear bel68
            go_wp2_with fail
            go_loop [12, 13] (fun vb vi => ∃ k : Nat, k ≤ m ∧ vi = .int .i64 k ∧ vb = .int .i64 ((cnt ss k : Nat) : Int)) (fun _ vi => m - (intOf vi).toNat)
            case atStart => exact ⟨0, Nat.zero_le _, rfl, rfl⟩
            case round =>
              obtain ⟨k, hk, rfl, rfl⟩ := hrel
              have hck1 := Nat.le_trans (cnt_le ss k) (Nat.le_trans (tot_le ss n k HS.out.1) ht')
              by_cases hlt : k < m
              · obtain ⟨s, hsk⟩ : ∃ s, ss.getD k ByteArray.empty = s := ⟨_, rfl⟩
                have hcs := cnt_succ ss k (by rw [HS.out.1]; omega)
                have hss := size_le ss n k HS.out.1 (by omega)
                have hcell : w8.cell? ⟨b, o + k, none⟩ = some (.string s) := by
                  rw [HB.out.cell (p := ⟨b, o + k, none⟩) (by show b < w6.heap.size; omega), belW.cell (p := ⟨b, o + k, none⟩) hb, ← hsk]
                  exact HS.out.2.2 k (by omega)
                rw [hsk] at hcs hss
                obtain ⟨C, hC⟩ : ∃ C, Lib.countByte s.data.toList 10 = C := ⟨_, rfl⟩
                obtain ⟨D, hD⟩ : ∃ D, cnt ss k = D := ⟨_, rfl⟩
                have hCs := count_size s
                have hCL := countLineFeeds_any s w8 (by omega)
                rw [hC] at hcs hCs hCL
                rw [hD] at hcs hck1
                rw [hD]
                have HCS := hide hcs
                have HCL := hide hCL
                clear hcs hCL hC hD hsk
                go_wp2_with (go_at_call 30; refine HCL.out.mono ?_; rintro e w' ⟨rfl, rfl⟩)
                go_round
                case rel => exact ⟨k + 1, by omega, by go_num, by rw [HCS.out]; go_num⟩
                case measure => simp [intOf]; omega
              · have hkm : m = k := by omega
                subst hkm
                have hLe := HLE.out m
                obtain ⟨D, hD⟩ : ∃ D, cnt ss m = D := ⟨_, rfl⟩
                obtain ⟨L, hL⟩ : ∃ L, lineAt first ss m = L := ⟨_, rfl⟩
                have hZ := ZZ_pos w5.heap.size n first (lineAt first ss) w8 (TE.out w8 HB.out) m hmn
                rw [hL] at hLe hZ
                rw [hD] at hLe hck1
                rw [hD]
                have HZ1 := hide hZ
                have HLe := hide hLe
                clear hD hL hZ hLe
                go_wp2_with (go_at_call 25; refine HZ1.out.mono ?_; rintro e w' ⟨rfl, belz⟩)
                go_ret
                refine ⟨ret_true (by rw [HLe.out]; first | rfl | simp), belW.trans ((HB.out.mono (by omega)).trans (belz.mono (by have := HB.out.size; omega)))⟩
end Go.Proofs.Qxb6001745a.Der
