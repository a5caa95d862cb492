import Derived.Test.Qxb6001745aRows
import Derived.Test.Qxb6001745aShelf
import Derived.Test.Qxb6001745aVar
import Derived.WalkKit
import Derived.WalkSpells
import Derived.WalkLawsBesides
import Derived.Laws.IdiomStrings
import Derived.Deep.QuietTactic
import Derived.BigQuiet
namespace Go.Proofs.Qxb6001745a.Set
open Go.RowKit Go.Proofs Go.Proofs.Qxb6001745a.Var

theorem hide {p : Prop} (h : p) : Hid p := h

/-- the text behind k rounds -/
def tx (first : Int) (n : Nat) (zs : List Int) (k : Nat) : List UInt8 := head first n ++ enc (zs.take k)
theorem tx_length (first : Int) (n : Nat) (zs : List Int) (k : Nat) (h : n < 1000000000) : (tx first n zs k).length ≤ 20 + 10 * k := by
  unfold tx
  rw [List.length_append]
  have h1 := head_length first n h
  have h2 := enc_length (zs.take k)
  have h3 : (zs.take k).length ≤ k := List.length_take_le _ _
  omega
theorem tx_pos (first : Int) (n : Nat) (zs : List Int) (k : Nat) : 0 < (tx first n zs k).length := by
  unfold tx head
  have := Lib.uvarint_pos (u64n first)
  simp only [List.length_append]
  omega
theorem tx_succ (first : Int) (n : Nat) (zs : List Int) (k : Nat) (h : k < zs.length) : tx first n zs (k + 1) = tx first n zs k ++ Lib.uvarint (u64n (zs.getD k 0)) := by
  unfold tx
  rw [List.take_succ_eq_append_getElem h, enc_append, List.append_assoc, enc_cons, enc_nil, List.append_nil]
  simp [List.getD, List.getElem?_eq_getElem h]
theorem tx_all (first : Int) (zs : List Int) (n : Nat) (h : zs.length = n) : tx first n zs n = text first zs := by
  unfold tx text
  rw [← h, List.take_length]

theorem bytes_app (a b : List UInt8) : Lib.byteCells a ++ Lib.byteCells b = Lib.byteCells (a ++ b) := by simp [Lib.byteCells]

theorem own_head {w : World} {B : Nat} {v : Value} {first : Int} {n : Nat} {zs : List Int}
    (h : w.ownsRow B 5 1 v ((Lib.uvarint (u64n first)).length + (Lib.uvarint n).length) (Lib.byteCells (Lib.uvarint (u64n first)) ++ Lib.byteCells (Lib.uvarint n))) :
    w.ownsRow B 5 1 v (tx first n zs 0).length (Lib.byteCells (tx first n zs 0)) := by
  have e : tx first n zs 0 = Lib.uvarint (u64n first) ++ Lib.uvarint n := by simp [tx, head, enc]
  rw [e, List.length_append, ← bytes_app]
  exact h
theorem own_next {w : World} {B : Nat} {v : Value} {a b : List UInt8} (h : w.ownsRow B 5 1 v (a.length + b.length) (Lib.byteCells a ++ Lib.byteCells b)) (l : List UInt8) (hl : l = a ++ b) :
    w.ownsRow B 5 1 v l.length (Lib.byteCells l) := by
  subst hl
  rw [List.length_append, ← bytes_app]
  exact h
theorem own_form {w : World} {B e n : Nat} {v : Value} {xs : List Value} (h : w.ownsRow B e 1 v n xs) (hn : 0 < n) : ∃ g c, v = .slice (some ⟨g, 0, none⟩) n c := by
  rcases h.2 with ⟨_, h0⟩ | ⟨g, c, _, hv, _⟩
  · omega
  · exact ⟨g, c, hv⟩
theorem own_bytes {w : World} {B g n c : Nat} {l : List UInt8} (h : w.ownsRow B 5 1 (.slice (some ⟨g, 0, none⟩) n c) n (Lib.byteCells l)) :
    ∀ j (hj : j < l.length), w.cell? ((⟨g, 0, none⟩ : Addr).add j) = some (.int .u8 (l[j].toNat : Int)) := by
  intro j hj
  exact h.cells rfl j _ (by simp [Lib.byteCells, List.getElem?_eq_getElem hj])
theorem conv_bytes {w : World} {B g c : Nat} {l : List UInt8} (h : w.ownsRow B 5 1 (.slice (some ⟨g, 0, none⟩) l.length c) l.length (Lib.byteCells l)) :
    (convert 42 9 (.slice (some ⟨g, 0, none⟩) l.length c)).run Try.prog w = .ok (.string ⟨l.toArray⟩) w :=
  run_convert_bytes_back w 42 9 5 ⟨g, 0, none⟩ c l Try.underlying42 Try.underlying5 Try.underlying9 (own_bytes h)

set_option maxHeartbeats 1000000 in
theorem setLines_some (sb : Nat) (first : Int) (b o n cap : Nat) (zs : List Int) (w : World) (old : ByteArray)
    (hn : n ≤ 131072) (hz : zs.length = n) (hsb : sb < w.heap.size) (hb : b < w.heap.size)
    (hcell : ∀ j, j < n → w.cell? ⟨b, o + j, none⟩ = some (.int .i64 (zs.getD j 0)))
    (hst : w.cell? ⟨sb, 3, none⟩ = some (.string old)) (hfr : w.frozen? ⟨sb, 3, none⟩ = false) :
    Calls Try.prog 33 #[.pointer (some ⟨sb, 0, none⟩), .int .i64 first, .slice (some ⟨b, o, none⟩) n cap, .bool true] w fun e w' =>
      e = .returned (.tuple #[]) ∧ ∃ w1, Below w.heap.size w w1 ∧ w' = w1.setCell ⟨sb, 3, none⟩ (.string ⟨(text first zs).toArray⟩) := by
  have hf := wrap_u64 first
  have hl1 := Lib.uvarint_length64 (u64n_lt first)
  have hl2 := Lib.uvarint_length64 (x := n) (by omega)
  have hp1 := Lib.uvarint_pos (u64n first)
  have HZ := hide hz
  have HC := hide hcell
  have HS := hide hst
  have HF := hide hfr
  clear hz hcell hst hfr
  go_enter Try.func33, Try.ntmps33
  go_wp2_with fail
  refine (Try.binary_AppendUvarint w.heap.size 0 (u64n first) (u64n_lt first) (.slice none 0 0) [] w (World.ownsRow_nil _ _ _ _) (Nat.le_refl _) (by omega)).mono ?_
  rintro e w1 ⟨v1, rfl, own1, bel1⟩
  simp only [List.nil_append, Nat.zero_add] at own1
  go_wp2_with fail
  refine (Try.binary_AppendUvarint w.heap.size _ n (by omega) v1 _ w1 own1 bel1.size (by omega)).mono ?_
  rintro e w2 ⟨v2, rfl, own2, bel2⟩
  replace own2 := own_head (zs := zs) own2
  have bel : Below w.heap.size w w2 := bel1.trans bel2
  clear bel1 bel2 own1
  have hlen : ∀ k, (tx first n zs k).length ≤ 20 + 10 * k := fun k => tx_length first n zs k (by omega)
  have hpos : ∀ k, 0 < (tx first n zs k).length := fun k => tx_pos first n zs k
  obtain ⟨g2, c2, rfl⟩ := own_form own2 (hpos 0)
  have HL := hide hlen
  have HP := hide hpos
  clear hlen hpos
  go_wp2_with fail
  go_loopw [8, 26] (fun vt vi wr => ∃ k g c : Nat, k ≤ n ∧ vi = .int .i64 k ∧ vt = .slice (some ⟨g, 0, none⟩) (tx first n zs k).length c ∧ wr.ownsRow w.heap.size 5 1 (.slice (some ⟨g, 0, none⟩) (tx first n zs k).length c) (tx first n zs k).length (Lib.byteCells (tx first n zs k)) ∧ Below w.heap.size w wr)
    (fun _ vi _ => n - (intOf vi).toNat)
  case atStart => exact ⟨0, g2, c2, Nat.zero_le _, rfl, rfl, own2, bel⟩
  case round =>
    obtain ⟨k, g, c, hk, rfl, rfl, own, belr⟩ := hrel
    clear own2 bel
    by_cases hlt : k < n
    · obtain ⟨z, hzk, hzc⟩ : ∃ z, zs.getD k 0 = z ∧ wr.cell? ⟨b, o + k, none⟩ = some (.int .i64 z) := ⟨_, rfl, by rw [belr.cell (p := ⟨b, o + k, none⟩) hb]; exact HC.out k hlt⟩
      have HZK := hide hzk
      clear hzk
      have hfz := wrap_u64 z
      have hL := HL.out k
      have H1 := hide (tx_succ first n zs k (by rw [HZ.out]; exact hlt))
      go_wp2_with fail
      refine (Try.binary_AppendUvarint w.heap.size _ (u64n z) (u64n_lt z) _ _ wr own belr.size (by omega)).mono ?_
      rintro e w3 ⟨v3, rfl, own3, bel3⟩
      replace own3 := own_next own3 (tx first n zs (k + 1)) (by rw [H1.out, HZK.out])
      obtain ⟨g3, c3, rfl⟩ := own_form own3 (HP.out (k + 1))
      go_wp2
      go_roundw
      case rel => exact ⟨k + 1, g3, c3, by omega, by go_num, rfl, own3, belr.trans bel3⟩
      case measure => simp [intOf]; omega
    · have hkn : k = n := by omega
      subst hkn
      have hcv := conv_bytes own
      have hs1 : wr.cell? ⟨sb, 3, none⟩ = some (.string old) := by rw [belr.cell (p := ⟨sb, 3, none⟩) hsb]; exact HS.out
      have hs2 : wr.frozen? ⟨sb, 3, none⟩ = false := by rw [belr.frozen (p := ⟨sb, 3, none⟩) hsb]; exact HF.out
      go_wp2
      go_end0
      refine ⟨rfl, wr, belr, ?_⟩
      rw [tx_all first zs k HZ.out]

set_option maxHeartbeats 1000000 in
theorem setLines_nil (sb : Nat) (first : Int) (cap : Nat) (w : World) (old : ByteArray)
    (hsb : sb < w.heap.size)
    (hst : w.cell? ⟨sb, 3, none⟩ = some (.string old)) (hfr : w.frozen? ⟨sb, 3, none⟩ = false) :
    Calls Try.prog 33 #[.pointer (some ⟨sb, 0, none⟩), .int .i64 first, .slice none 0 cap, .bool true] w fun e w' =>
      e = .returned (.tuple #[]) ∧ ∃ w1, Below w.heap.size w w1 ∧ w' = w1.setCell ⟨sb, 3, none⟩ (.string ⟨(text first []).toArray⟩) := by
  have hf := wrap_u64 first
  have hl1 := Lib.uvarint_length64 (u64n_lt first)
  have hl2 := Lib.uvarint_length64 (x := 0) (by omega)
  have hp1 := Lib.uvarint_pos (u64n first)
  have HS := hide hst
  have HF := hide hfr
  clear hst hfr
  go_enter Try.func33, Try.ntmps33
  go_wp2_with fail
  refine (Try.binary_AppendUvarint w.heap.size 0 (u64n first) (u64n_lt first) (.slice none 0 0) [] w (World.ownsRow_nil _ _ _ _) (Nat.le_refl _) (by omega)).mono ?_
  rintro e w1 ⟨v1, rfl, own1, bel1⟩
  simp only [List.nil_append, Nat.zero_add] at own1
  go_wp2_with fail
  refine (Try.binary_AppendUvarint w.heap.size _ 0 (by omega) v1 _ w1 own1 bel1.size (by omega)).mono ?_
  rintro e w2 ⟨v2, rfl, own2, bel2⟩
  replace own2 := own_head (zs := []) own2
  have bel : Below w.heap.size w w2 := bel1.trans bel2
  clear bel1 bel2 own1
  obtain ⟨g2, c2, rfl⟩ := own_form own2 (tx_pos first 0 [] 0)
  go_wp2_with fail
  refine wp_loop_rounds 1 ?_
  rw [rounds_succ]
  have hcv := conv_bytes own2
  have hs1 : w2.cell? ⟨sb, 3, none⟩ = some (.string old) := by rw [bel.cell (p := ⟨sb, 3, none⟩) hsb]; exact HS.out
  have hs2 : w2.frozen? ⟨sb, 3, none⟩ = false := by rw [bel.frozen (p := ⟨sb, 3, none⟩) hsb]; exact HF.out
  go_wp2
  go_end0
  exact ⟨rfl, w2, bel, by rw [tx_all first [] 0 rfl]⟩

/-- what the caller knows of the slice of lines -/
def Lines (w : World) (la : Option Addr) (n : Nat) (zs : List Int) : Prop :=
  (la = none ∧ n = 0 ∧ zs = []) ∨ ∃ b o, la = some ⟨b, o, none⟩ ∧ b < w.heap.size ∧ zs.length = n ∧ ∀ j, j < n → w.cell? ⟨b, o + j, none⟩ = some (.int .i64 (zs.getD j 0))

theorem setLines_any (sb : Nat) (first : Int) (la : Option Addr) (n cap : Nat) (zs : List Int) (w : World) (old : ByteArray)
    (hn : n ≤ 131072) (hl : Lines w la n zs) (hsb : sb < w.heap.size)
    (hst : w.cell? ⟨sb, 3, none⟩ = some (.string old)) (hfr : w.frozen? ⟨sb, 3, none⟩ = false) :
    Calls Try.prog 33 #[.pointer (some ⟨sb, 0, none⟩), .int .i64 first, .slice la n cap, .bool true] w fun e w' =>
      e = .returned (.tuple #[]) ∧ ∃ w1, Below w.heap.size w w1 ∧ w' = w1.setCell ⟨sb, 3, none⟩ (.string ⟨(text first zs).toArray⟩) := by
  rcases hl with ⟨rfl, rfl, rfl⟩ | ⟨b, o, rfl, hb, hz, hc⟩
  · exact setLines_nil sb first cap w old hsb hst hfr
  · exact setLines_some sb first b o n cap zs w old hn hz hsb hb hc hst hfr

set_option maxHeartbeats 400000 in
theorem ZZSetLines_any (sb : Nat) (first : Int) (la : Option Addr) (n cap : Nat) (zs : List Int) (w : World) (old : ByteArray)
    (hn : n ≤ 131072) (hl : Lines w la n zs) (hsb : sb < w.heap.size)
    (hst : w.cell? ⟨sb, 3, none⟩ = some (.string old)) (hfr : w.frozen? ⟨sb, 3, none⟩ = false) :
    Calls Try.prog 24 #[.pointer (some ⟨sb, 0, none⟩), .int .i64 first, .slice la n cap, .bool true] w fun e w' =>
      e = .returned (.tuple #[]) ∧ ∃ w1, Below w.heap.size w w1 ∧ w' = w1.setCell ⟨sb, 3, none⟩ (.string ⟨(text first zs).toArray⟩) := by
  have H := hide (setLines_any sb first la n cap zs w old hn hl hsb hst hfr)
  clear hst hfr hl
  go_enter Try.func24, Try.ntmps24
  go_wp2_with (go_at_call 33; refine H.out.mono ?_; rintro e w' ⟨rfl, w1, hb, rfl⟩)
  go_end0
  exact ⟨rfl, w1, hb, rfl⟩
end Go.Proofs.Qxb6001745a.Set
