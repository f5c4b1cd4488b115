/-
  THE WALKS of the leaves.
-/
import Derived.Test.Qxb6618844aCells
import Derived.RegionTactic
import Derived.Deep.QuietTactic
import Derived.BigQuiet
set_option linter.unusedSimpArgs false
set_option linter.unusedVariables false
namespace Go.Proofs.Qxb6618844a
open Go.RowKit

def endsZ (k : Int) : Bool := k == 2 || k == 3

set_option maxHeartbeats 400000 in
theorem ends_any (k : Int) (w : World) : Calls Try.prog 12 #[.int .i64 k] w fun e w' => e = .returned (.bool (endsZ k)) ∧ w' = w := by
  go_enter Try.func12, Try.ntmps12
  go_wp2
  all_goals
    go_ret
    refine ⟨?_, rfl⟩
    simp [endsZ, *]

set_option maxHeartbeats 400000 in
theorem len_any (a : Option Addr) (n c : Nat) (w : World) : Calls Try.prog 42 #[.slice a n c] w fun e w' => e = .returned (.int .i64 n) ∧ w' = w := by
  go_enter Try.func42, Try.ntmps42
  go_wp2
  go_ret
  exact ⟨rfl, rfl⟩

set_option maxHeartbeats 400000 in
theorem zzOp_any (o : OpV) (w : World) : Calls Try.prog 11 #[o.val] w fun e w' => e = .returned o.val ∧ Below w.heap.size w w' := by
  unfold OpV.val
  go_enter Try.func11, Try.ntmps11
  go_wp2
  exact bodyPost_ret (v := .agg #[.int .i64 o.kind, .string o.txn, .int .i64 o.site, .bool o.sg, .slice o.ia o.il o.ic]) (by simp [results, Try.results11, go_sem]) rfl ⟨rfl, ((Below.refl _ _).alloc (Nat.le_refl _) _).alloc (by simp) _⟩

set_option maxHeartbeats 400000 in
theorem op_any (b n c k : Nat) (os : List OpV) (o : OpV) (t : TypeId) (w : World) (hb : Block w b (rowO os) t) (ho : os[k]? = some o) (hk : k < n) (hn : n ≤ 1048577) :
    Calls Try.prog 43 #[.slice (some ⟨b, 0, none⟩) n c, .int .i64 k] w fun e w' => e = .returned (.tuple #[.int .i64 o.kind, .string o.txn, .int .i64 o.il]) ∧ ∃ q, w' = w.drewN q := by
  obtain ⟨c0, c1, c2, c3, c4⟩ := hb.op k o ho
  have hk' : (k : Int) < (n : Int) := by omega
  clear hb ho c2 c3
  go_enter Try.func43, Try.ntmps43
  go_wp2
  go_quiet (fail)
  go_wp2
  go_ret3
  exact ⟨rfl, _, rfl⟩

end Go.Proofs.Qxb6618844a
