/-
  THE WALK of '(encoding/binary.bigEndian).Uint16' (function 11).
-/
import Derived.Test.YbulkcqdgRows
import Derived.WalkKit
import Derived.ProofKit
import Derived.WalkLawsBesides
import Derived.BigQuiet
import Derived.Deep.QuietTactic
import Derived.Deep.OwnRows
import Derived.OpenShut
namespace Go.Proofs.Ybulkcqdg
open Go.RowKit Go.Deep

theorem or_bytes (c0 c1 : Int) (h0 : 0 ≤ c0 ∧ c0 ≤ 255) (h1 : 0 ≤ c1 ∧ c1 ≤ 255) : bits .or .u16 c1 (c0 * 256) = c0 * 256 + c1 := by
  rw [u16_or c1 (c0 * 256) (by omega) (by omega) (by omega) (by omega)]
  obtain ⟨a, rfl⟩ : ∃ a : Nat, c0 = (a : Int) := ⟨c0.toNat, by omega⟩
  obtain ⟨b, rfl⟩ : ∃ b : Nat, c1 = (b : Int) := ⟨c1.toNat, by omega⟩
  have e : ((a : Int) * 256).toNat = 2 ^ 8 * a := by omega
  rw [e, Int.toNat_natCast, Nat.or_comm, ← Nat.two_pow_add_eq_or_of_lt (by omega) a]
  omega

theorem ret_int {k : IntKind} {a b : Int} (h : a = b) : Ending.returned (.int k a) = .returned (.int k b) := by rw [h]

theorem be_any (b off n cap : Nat) (c0 c1 : Int) (w : World) (hn : 2 ≤ n) (h0 : 0 ≤ c0 ∧ c0 ≤ 255) (h1 : 0 ≤ c1 ∧ c1 ≤ 255) (hb : b < w.heap.size) (hc0 : w.cell? ⟨b, off, none⟩ = some (.int .u8 c0)) (hc1 : w.cell? ⟨b, off + 1, none⟩ = some (.int .u8 c1)) :
    Calls Yba.prog 11 #[.agg #[], .slice (some ⟨b, off, none⟩) n cap] w fun e w' => e = .returned (.int .u16 (c0 * 256 + c1)) ∧ ∃ k, w' = (w.alloc (.cells #[] 52)).drewN k := by
  have hn1 : (1 : Int) < (n : Int) := by omega
  have hn0 : (0 : Int) < (n : Int) := by omega
  have d0 : (w.alloc (.cells #[] 52)).cell? ⟨b, off, none⟩ = some (.int .u8 c0) := (World.cell?_alloc_past _ _ _ hb).trans hc0
  have d1 : (w.alloc (.cells #[] 52)).cell? ⟨b, off + 1, none⟩ = some (.int .u8 c1) := (World.cell?_alloc_past _ _ _ hb).trans hc1
  go_enter Yba.func11, Yba.ntmps11
  go_wp2
  go_quiet (fail)
  go_wp2
  go_ret
  exact ⟨ret_int (or_bytes c0 c1 h0 h1), _, rfl⟩
end Go.Proofs.Ybulkcqdg
