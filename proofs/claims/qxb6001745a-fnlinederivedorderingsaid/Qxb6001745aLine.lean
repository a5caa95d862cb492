import Derived.Test.Qxb6001745aStraight
namespace Go.Proofs.Qxb6001745a.Line
open Go.RowKit Go.Proofs Go.Proofs.Qxb6001745a.Var Go.Proofs.Qxb6001745a.Set Go.Proofs.Qxb6001745a.Field Go.Proofs.Qxb6001745a.Straight

/-- what fieldLines answers in w at the stanza sb -/
def Tells (w : World) (sb n : Nat) (first : Int) (ln : Nat → Int) : Prop :=
  Calls Try.prog 37 #[.pointer (some ⟨sb, 0, none⟩)] w fun e w' => ∃ G, e = .returned (.tuple #[.int .i64 first, .slice (some ⟨G, 0, none⟩) n n, .bool true]) ∧
      (∀ j, j < n → w'.cell? ⟨G, j, none⟩ = some (.int .i64 (ln j))) ∧ Below w.heap.size w w'

set_option maxHeartbeats 400000 in
theorem line_neg (sb n : Nat) (first : Int) (ln : Nat → Int) (w : World) (h : Tells w sb n first ln) (i : Int) (hi : i < 0) :
    Calls Try.prog 34 #[.pointer (some ⟨sb, 0, none⟩), .int .i64 i] w fun e w' => e = .returned (.int .i64 first) ∧ Below w.heap.size w w' := by
  go_enter Try.func34, Try.ntmps34
  go_wp2_with (go_at_call 37; refine Calls.mono h ?_; rintro e w' ⟨G, rfl, hc, hb⟩; clear hc)
  go_ret
  exact ⟨rfl, hb⟩

set_option maxHeartbeats 400000 in
theorem line_pos (sb n : Nat) (first : Int) (ln : Nat → Int) (w : World) (h : Tells w sb n first ln) (k : Nat) (hk : k < n) :
    Calls Try.prog 34 #[.pointer (some ⟨sb, 0, none⟩), .int .i64 k] w fun e w' => e = .returned (.int .i64 (ln k)) ∧ Below w.heap.size w w' := by
  go_enter Try.func34, Try.ntmps34
  go_wp2_with (go_at_call 37; refine Calls.mono h ?_; rintro e w' ⟨G, rfl, hc, hb⟩; replace hc := hc k hk)
  go_ret
  exact ⟨rfl, hb⟩

set_option maxHeartbeats 400000 in
theorem ZZ_neg (sb n : Nat) (first : Int) (ln : Nat → Int) (w : World) (h : Tells w sb n first ln) (i : Int) (hi : i < 0) :
    Calls Try.prog 25 #[.pointer (some ⟨sb, 0, none⟩), .int .i64 i] w fun e w' => e = .returned (.int .i64 first) ∧ Below w.heap.size w w' := by
  go_enter Try.func25, Try.ntmps25
  go_wp2_with (go_at_call 34; refine (line_neg sb n first ln _ h i hi).mono ?_; rintro e w' ⟨rfl, hb⟩)
  go_ret
  exact ⟨rfl, hb⟩

set_option maxHeartbeats 400000 in
theorem ZZ_pos (sb n : Nat) (first : Int) (ln : Nat → Int) (w : World) (h : Tells w sb n first ln) (k : Nat) (hk : k < n) :
    Calls Try.prog 25 #[.pointer (some ⟨sb, 0, none⟩), .int .i64 k] w fun e w' => e = .returned (.int .i64 (ln k)) ∧ Below w.heap.size w w' := by
  go_enter Try.func25, Try.ntmps25
  go_wp2_with (go_at_call 34; refine (line_pos sb n first ln _ h k hk).mono ?_; rintro e w' ⟨rfl, hb⟩)
  go_ret
  exact ⟨rfl, hb⟩
end Go.Proofs.Qxb6001745a.Line
