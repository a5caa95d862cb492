import Derived.Test.Qxb6001745aSet
namespace Go.Proofs.Qxb6001745a.Field
open Go.RowKit Go.Proofs Go.Proofs.Qxb6001745a.Var Go.Proofs.Qxb6001745a.Set

theorem Uvarint_at (g o m c x a : Nat) (rest : List UInt8) (w : World) (hx : x < u64max) (hm : (Lib.uvarint x ++ rest).length = m) (ha : (Lib.uvarint x).length = a)
    (hcell : ∀ j (hj : j < (Lib.uvarint x ++ rest).length), w.cell? ⟨g, o + j, none⟩ = some (.int .u8 ((Lib.uvarint x ++ rest)[j]).toNat)) :
    Calls Try.prog 39 #[.slice (some ⟨g, o, none⟩) m c] w fun e w' => e = .returned (.tuple #[.int .u64 x, .int .i64 (a : Nat)]) ∧ w' = w := by
  have h := Try.binary_Uvarint g o m c _ w hm hcell
  rw [dec_uvarint x rest hx, ha] at h
  exact h

/-- '[]byte(s)': a new row with the bytes at its head -/
theorem bytes_of (w : World) (l : List UInt8) (t : Nat) (ht : l.length = t) : ∃ (c : Nat) (O : Obj), t ≤ c ∧
    (convert 9 42 (.string ⟨l.toArray⟩)).run Try.prog w = .ok (.slice (some ⟨w.heap.size, 0, none⟩) t c) (w.drew.alloc O) ∧
    ∀ w1 : World, w1.heap[w.heap.size]? = some O → ∀ j (hj : j < l.length), w1.cell? ⟨w.heap.size, j, none⟩ = some (.int .u8 (l[j].toNat : Int)) := by
  have hr := run_bytes_of_string (P := Try.prog) w 9 42 5 ⟨l.toArray⟩ Try.underlying9 Try.underlying42 Try.underlying5
  have hsz : (⟨l.toArray⟩ : ByteArray).size = t := ht
  rw [hsz] at hr
  refine ⟨_, _, ?_, hr, ?_⟩
  · exact grownCap_ge _ _ _ _
  · intro w1 h1 j hj
    rw [cell_of_row w1 w.heap.size j _ _ _ h1]
    rw [bytesRow, Array.getElem?_append_left (by simpa using hj)]
    simp [hj]

theorem enc_pos (zs : List Int) (h : 1 ≤ zs.length) : 1 ≤ (enc zs).length := by
  cases zs with
  | nil => simp at h
  | cons z zs =>
    rw [enc_cons, List.length_append]
    have := Lib.uvarint_pos (u64n z)
    omega
theorem text_split (first : Int) (zs : List Int) (n : Nat) (h : zs.length = n) : text first zs = Lib.uvarint (u64n first) ++ (Lib.uvarint n ++ enc zs) := by
  subst h
  simp [text, head]
theorem getElem_eq {α : Type} {l l' : List α} (h : l = l') {j : Nat} (hj : j < l.length) (hj' : j < l'.length) : l[j] = l'[j] := by
  subst h; rfl

theorem shift {w1 : World} {g off : Nat} {T pre l : List UInt8} (hT : T = pre ++ l) (ho : pre.length = off)
    (hc : ∀ j (hj : j < T.length), w1.cell? ⟨g, j, none⟩ = some (.int .u8 (T[j].toNat : Int))) :
    ∀ j (hj : j < l.length), w1.cell? ⟨g, off + j, none⟩ = some (.int .u8 (l[j].toNat : Int)) := by
  intro j hj
  subst hT ho
  rw [hc (pre.length + j) (by simp; omega)]
  simp
def lenOf : Value → Nat | .slice _ n _ => n | _ => 0

theorem info3 : (Try.prog.info? 3).map (fun i => (i.zero, i.size, i.bytes)) = some (some (.int .i64 0), 1, 8) := by kernel_rfl

theorem enc_take_succ (zs : List Int) (k : Nat) (h : k < zs.length) : enc (zs.take (k + 1)) = enc (zs.take k) ++ Lib.uvarint (u64n (zs.getD k 0)) := by
  rw [List.take_succ_eq_append_getElem h, enc_append, enc_cons, enc_nil, List.append_nil]
  simp [List.getD, List.getElem?_eq_getElem h]
theorem enc_drop (zs : List Int) (k : Nat) (h : k < zs.length) : enc (zs.drop k) = Lib.uvarint (u64n (zs.getD k 0)) ++ enc (zs.drop (k + 1)) := by
  rw [List.drop_eq_getElem_cons h, enc_cons]
  simp [List.getD, List.getElem?_eq_getElem h]
theorem text_at (first : Int) (zs : List Int) (n k : Nat) (h : zs.length = n) : text first zs = tx first n zs k ++ enc (zs.drop k) := by
  subst h
  unfold text tx
  rw [List.append_assoc, ← enc_append, List.take_append_drop]
def ivs (zs : List Int) (k : Nat) : List Value := (zs.take k).map (Value.int .i64)
theorem ivs_zero (zs : List Int) : ivs zs 0 = [] := rfl
theorem ivs_succ (zs : List Int) (k : Nat) (h : k < zs.length) : ivs zs k ++ [Value.int .i64 (zs.getD k 0)] = ivs zs (k + 1) := by
  unfold ivs
  rw [List.take_succ_eq_append_getElem h, List.map_append]
  simp [List.getD, List.getElem?_eq_getElem h]
theorem ivs_get (zs : List Int) (n j : Nat) (h : zs.length = n) (hj : j < n) : (ivs zs n)[j]? = some (Value.int .i64 (zs.getD j 0)) := by
  unfold ivs
  subst h
  rw [List.take_length]
  simp [List.getD, List.getElem?_eq_getElem hj]

set_option maxHeartbeats 1000000 in
theorem fieldLines_listed (sb : Nat) (first : Int) (fa : Option Addr) (n fcap : Nat) (zs : List Int) (w : World)
    (hn : n ≤ 131072) (h1 : 1 ≤ n) (hz : zs.length = n) (hr : ∀ z ∈ zs, -9223372036854775808 ≤ z ∧ z ≤ 9223372036854775807)
    (hf0 : -9223372036854775808 ≤ first) (hf1 : first ≤ 9223372036854775807) (hsb : sb < w.heap.size)
    (hst : w.cell? ⟨sb, 3, none⟩ = some (.string ⟨(text first zs).toArray⟩)) (hfl : w.cell? ⟨sb, 0, none⟩ = some (.slice fa n fcap)) :
    Calls Try.prog 37 #[.pointer (some ⟨sb, 0, none⟩)] w fun e w' => ∃ G, e = .returned (.tuple #[.int .i64 first, .slice (some ⟨G, 0, none⟩) n n, .bool true]) ∧
      (∀ j, j < n → w'.cell? ⟨G, j, none⟩ = some (.int .i64 (zs.getD j 0))) ∧ Below w.heap.size w w' := by
  obtain ⟨a, ha⟩ : ∃ a, (Lib.uvarint (u64n first)).length = a := ⟨_, rfl⟩
  obtain ⟨b, hb⟩ : ∃ b, (Lib.uvarint n).length = b := ⟨_, rfl⟩
  obtain ⟨m, hm⟩ : ∃ m, (enc zs).length = m := ⟨_, rfl⟩
  have ht : (text first zs).length = a + b + m := by rw [← ha, ← hb, ← hm, ← hz]; simp [text, head]; omega
  have ha1 : 1 ≤ a := by rw [← ha]; exact Lib.uvarint_pos _
  have ha2 : a ≤ 10 := by rw [← ha]; exact Lib.uvarint_length64 (u64n_lt first)
  have hb1 : 1 ≤ b := by rw [← hb]; exact Lib.uvarint_pos _
  have hb2 : b ≤ 10 := by rw [← hb]; exact Lib.uvarint_length64 (by omega)
  have hm1 : 1 ≤ m := by rw [← hm]; exact enc_pos zs (by omega)
  have hm2 : m ≤ 10 * n := by rw [← hm, ← hz]; exact enc_length zs
  obtain ⟨i0, hi, hz0, hz1, hz2⟩ := info_parts info3
  have hne : (((a + b + m - a - b : Nat) : Int) == 0) = false := by rw [beq_eq_false_iff_ne]; omega
  have han : ¬ a = 0 := by omega
  have hbn : ¬ b = 0 := by omega
  obtain ⟨c, O, hc, hrun, hcells⟩ := bytes_of w (text first zs) (a + b + m) ht
  have hwb := wrap_back first hf0 hf1
  have HZ := hide hz
  have HR := hide hr
  have HA := hide ha
  have HB := hide hb
  have HM := hide hm
  have HT := hide ht
  have HC := hide (hcells (w.alloc O) (by show (w.heap.push O)[w.heap.size]? = _; simp))
  have HE := hide (text_split first zs n hz)
  clear hz hr hcells hf0 hf1 ha hb hm ht
  go_enter Try.func37, Try.ntmps37
  go_wp2_with fail
  refine (Uvarint_at w.heap.size 0 (a + b + m) c (u64n first) a (Lib.uvarint n ++ enc zs) _ (u64n_lt first) (by rw [← HE.out]; exact HT.out) HA.out (by exact shift (pre := []) HE.out rfl HC.out)).mono ?_
  rintro e w' ⟨rfl, rfl⟩
  go_wp2_with fail
  go_quiet (fail)
  go_wp2_with fail
  refine (Uvarint_at w.heap.size a (a + b + m - a) (c - a) n b (enc zs) _ (by unfold u64max; omega) (by rw [List.length_append, HB.out, HM.out]; omega) HB.out (by exact shift HE.out HA.out HC.out)).mono ?_
  rintro e w' ⟨rfl, rfl⟩
  go_wp2_with (at_make; refine wpList_make_own _ rfl _ _ 37 rfl w.heap.size 3 i0 (.int .i64 0) 1 Try.underlying37 hi hz0 hz1 _ _ _ n rfl rfl rfl ?b2 ?b3 ?b4 ?_)
  case b2 => rw [hz2]; omega
  case b3 => unfold maxLen; omega
  case b4 => simp
  intro w3 own3 gr3
  have bel3 : Below w.heap.size w w3 := (below_drewN ((Below.refl _ _).alloc (Nat.le_refl _) O) _).grown gr3 (by simp) (fun k hk => by cases hk)
  have HC3 : Hid (∀ j (hj : j < (text first zs).length), w3.cell? ⟨w.heap.size, j, none⟩ = some (.int .u8 ((text first zs)[j].toNat : Int))) :=
    fun j hj => gr3.cell (a := ⟨w.heap.size, j, none⟩) (HC.out j hj) (by simp)
  clear gr3
  go_wp2_with fail
  go_loopw [2, 3, 5] (fun v2 v3 v5 wr => ∃ (k : Nat) (ao : Option Addr) (r cc : Nat), k ≤ n ∧ v2 = .int .i64 first ∧ v3 = .slice (some ⟨w.heap.size + 1, 0, none⟩) k n ∧ v5 = .slice ao r cc ∧
      r = (enc (zs.drop k)).length ∧ (k < n → ao = some ⟨w.heap.size, (tx first n zs k).length, none⟩ ∧ r ≤ cc) ∧
      wr.ownsRow w.heap.size 3 1 (.slice (some ⟨w.heap.size + 1, 0, none⟩) k n) k (ivs zs k) ∧
      (∀ j (hj : j < (text first zs).length), wr.cell? ⟨w.heap.size, j, none⟩ = some (.int .u8 ((text first zs)[j].toNat : Int))) ∧ Below w.heap.size w wr)
    (fun _ v3 _ _ => n - lenOf v3)
  case atStart =>
    refine ⟨0, _, _, _, Nat.zero_le _, rfl, rfl, rfl, ?_, ?_, own3, HC3.out, bel3⟩
    · rw [List.drop_zero, HM.out]; omega
    · intro _
      refine ⟨?_, by omega⟩
      have e : (tx first n zs 0).length = a + b := by simp [tx, head, enc, HA.out, HB.out]
      rw [e]
  case round =>
    obtain ⟨k, ao, r, cc, hk, rfl, rfl, rfl, hr, hao, own, hcl, belr⟩ := hrel
    clear own3 bel3 HC3
    by_cases hlt : k < n
    · obtain ⟨rfl, hcc⟩ := hao hlt
      obtain ⟨z, hzk⟩ : ∃ z, zs.getD k 0 = z := ⟨_, rfl⟩
      obtain ⟨d, hd⟩ : ∃ d, (Lib.uvarint (u64n z)).length = d := ⟨_, rfl⟩
      obtain ⟨r', hr'⟩ : ∃ r', (enc (zs.drop (k + 1))).length = r' := ⟨_, rfl⟩
      have hkz : k < zs.length := by rw [HZ.out]; exact hlt
      have hsp := enc_drop zs k hkz
      have hrr : r = d + r' := by rw [hr, hsp, List.length_append, hzk, hd, hr']
      have hd1 : 1 ≤ d := by rw [← hd]; exact Lib.uvarint_pos _
      have hd2 : d ≤ 10 := by rw [← hd]; exact Lib.uvarint_length64 (u64n_lt z)
      have hdn : ¬ d = 0 := by omega
      have hr2 : r ≤ 10 * n := by rw [hr, ← HZ.out]; exact Nat.le_trans (enc_length _) (by simp; omega)
      have hzr : -9223372036854775808 ≤ z ∧ z ≤ 9223372036854775807 := by
        rw [← hzk]
        apply HR.out
        simp [List.getD, List.getElem?_eq_getElem hkz]
      have hwz := wrap_back z hzr.1 hzr.2
      have HT1 := hide (text_at first zs n k HZ.out)
      have HT2 := hide (tx_succ first n zs k hkz)
      have HI := hide (ivs_succ zs k hkz)
      have HCL := hide hcl
      rw [hzk] at hsp
      have HSP := hide hsp
      have HD := hide hd
      have HZK := hide hzk
      have HR' := hide hr'
      clear hzr hao hcl hsp hd hzk hr' hr
      subst hrr
      have hdr : ((d + r' : Nat) : Int) > 0 := by omega
      go_wp2_with fail
      refine (Uvarint_at w.heap.size _ (d + r') cc (u64n z) d (enc (zs.drop (k + 1))) _ (u64n_lt z) (by rw [List.length_append, HD.out, HR'.out]) HD.out (by exact shift (by rw [HT1.out, HSP.out]) rfl HCL.out)).mono ?_
      rintro e w' ⟨rfl, rfl⟩
      go_wp2_with (at_builtin; refine wpList_append_fits _ rfl _ _ 37 rfl w.heap.size 3 i0 1 Try.underlying37 hi hz1 (w.heap.size + 1) k n _ rfl (own.alloc _) ⟨_, 0, none⟩ 1 1 [Value.int .i64 z] rfl rfl ?c1 ?c2 (by omega) ?_)
      case c1 =>
        intro j u hj
        match j, hj with
        | 0, hj => simp at hj; subst hj; simp [Addr.add]
      case c2 => intro u hu; simp at hu; subst hu; rfl
      intro w4 own4 gr4
      rw [← HZK.out, HI.out] at own4
      have bel4 : Below w.heap.size w w4 := (belr.alloc (by have := belr.size; omega) _).grown gr4 (by have := belr.size; simp; omega) (fun q hq => by cases hq; omega)
      have HCL4 : Hid (∀ j (hj : j < (text first zs).length), w4.cell? ⟨w.heap.size, j, none⟩ = some (.int .u8 ((text first zs)[j].toNat : Int))) :=
        fun j hj => gr4.cell (a := ⟨w.heap.size, j, none⟩) (by rw [((Below.refl _ _).alloc (Nat.le_refl _) _).cell (p := ⟨w.heap.size, j, none⟩) (own.lt (w.heap.size + 1) rfl |>.2 |> Nat.lt_of_succ_lt)]; exact HCL.out j hj) (by simp)
      have hlast : k + 1 < n → 1 ≤ r' := fun h => by rw [← HR'.out]; exact enc_pos _ (by simp [HZ.out]; omega)
      by_cases hcd : cc = d
      · have hnl : ¬ k + 1 < n := fun h => by have := hlast h; omega
        clear hlast
        go_wp2
        exact ⟨⟨k + 1, _, _, _, by omega, rfl, rfl, rfl, HR'.out.symm, fun h => absurd h hnl, own4, HCL4.out, bel4⟩, by simp [lenOf]; omega⟩
      · clear hlast
        go_wp2
        refine ⟨⟨k + 1, _, _, _, by omega, rfl, rfl, rfl, HR'.out.symm, fun h => ⟨?_, by omega⟩, own4, HCL4.out, bel4⟩, by simp [lenOf]; omega⟩
        rw [HT2.out, HZK.out, List.length_append, HD.out]
    · have hkn : k = n := by omega
      subst hkn
      have hr0 : r = 0 := by rw [hr, List.drop_eq_nil_of_le (by rw [HZ.out]; exact Nat.le_refl _)]; rfl
      clear hr hao
      subst hr0
      go_wp2
      go_ret3
      refine ⟨w.heap.size + 1, rfl, ?_, belr⟩
      intro j hj
      have h := own.cells rfl j _ (ivs_get zs k j HZ.out hj)
      rw [Addr.add_lit, Nat.zero_add] at h
      exact h
end Go.Proofs.Qxb6001745a.Field
