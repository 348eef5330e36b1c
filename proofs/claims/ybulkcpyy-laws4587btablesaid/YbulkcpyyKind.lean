/-
  THE WALKS of 'Kind' (function 5) and of 'zzs4587bmodel' (function 6): both answer 'kindOf' of the first byte.
-/
import Derived.Test.YbulkcpyyRows
import Derived.WalkKit
import Derived.ProofKit
import Derived.WalkLawsBesides
namespace Go.Proofs.Ybulkcpyy
open Go.RowKit

/-- The kind that a first byte names. -/
def kindOf (c : Int) : ByteArray :=
  if c = 123 then ⟨#[111, 98, 106, 101, 99, 116]⟩ else if c = 91 then ⟨#[97, 114, 114, 97, 121]⟩ else if c = 34 then ⟨#[115, 116, 114, 105, 110, 103]⟩
  else if c = 116 then ⟨#[98, 111, 111, 108]⟩ else if c = 102 then ⟨#[98, 111, 111, 108]⟩ else if c = 110 then ⟨#[110, 117, 108, 108]⟩ else ⟨#[110, 117, 109, 98, 101, 114]⟩

theorem kind_empty (a : Option Addr) (c : Nat) (w : World) :
    Calls Yba.prog 5 #[.slice a 0 c] w fun e w' => e = .returned (.string ⟨#[]⟩) ∧ w' = w := by
  go_enter Yba.func5, Yba.ntmps5
  go_wp2
  go_ret
  exact ⟨rfl, rfl⟩

theorem model_empty (a : Option Addr) (c : Nat) (w : World) :
    Calls Yba.prog 6 #[.slice a 0 c] w fun e w' => e = .returned (.string ⟨#[]⟩) ∧ w' = w := by
  go_enter Yba.func6, Yba.ntmps6
  go_wp2
  go_ret
  exact ⟨rfl, rfl⟩

theorem kind_ways (c : Int) (P : ByteArray → Prop) (h1 : (c == 123) = true → P ⟨#[111, 98, 106, 101, 99, 116]⟩)
    (h2 : (c == 123) = false → (c == 91) = true → P ⟨#[97, 114, 114, 97, 121]⟩)
    (h3 : (c == 123) = false → (c == 91) = false → (c == 34) = true → P ⟨#[115, 116, 114, 105, 110, 103]⟩)
    (h4 : (c == 123) = false → (c == 91) = false → (c == 34) = false → (c == 116) = true → P ⟨#[98, 111, 111, 108]⟩)
    (h5 : (c == 123) = false → (c == 91) = false → (c == 34) = false → (c == 116) = false → (c == 102) = true → P ⟨#[98, 111, 111, 108]⟩)
    (h6 : (c == 123) = false → (c == 91) = false → (c == 34) = false → (c == 116) = false → (c == 102) = false → (c == 110) = true → P ⟨#[110, 117, 108, 108]⟩)
    (h7 : (c == 123) = false → (c == 91) = false → (c == 34) = false → (c == 116) = false → (c == 102) = false → (c == 110) = false → P ⟨#[110, 117, 109, 98, 101, 114]⟩) : P (kindOf c) := by
  unfold kindOf
  split
  · exact h1 (by simp [*])
  · split
    · exact h2 (by simp [*]) (by simp [*])
    · split
      · exact h3 (by simp [*]) (by simp [*]) (by simp [*])
      · split
        · exact h4 (by simp [*]) (by simp [*]) (by simp [*]) (by simp [*])
        · split
          · exact h5 (by simp [*]) (by simp [*]) (by simp [*]) (by simp [*]) (by simp [*])
          · split
            · exact h6 (by simp [*]) (by simp [*]) (by simp [*]) (by simp [*]) (by simp [*]) (by simp [*])
            · exact h7 (by simp [*]) (by simp [*]) (by simp [*]) (by simp [*]) (by simp [*]) (by simp [*])

theorem kind_any (b off n cap : Nat) (c : Int) (w : World) (hn : 1 ≤ n) (hc : w.cell? ⟨b, off, none⟩ = some (.int .u8 c)) :
    Calls Yba.prog 5 #[.slice (some ⟨b, off, none⟩) n cap] w fun e w' => e = .returned (.string (kindOf c)) ∧ w' = w := by
  have hn0 : ((n : Int) == 0) = false := beq_eq_false_iff_ne.2 (by omega)
  have hn1 : (0 : Int) < (n : Int) := by omega
  refine kind_ways c (fun s => Calls Yba.prog 5 #[.slice (some ⟨b, off, none⟩) n cap] w fun e w' => e = .returned (.string s) ∧ w' = w) ?_ ?_ ?_ ?_ ?_ ?_ ?_
  all_goals
    intros
    go_enter Yba.func5, Yba.ntmps5
    go_wp2
    go_ret
    exact ⟨rfl, rfl⟩

theorem model_any (b off n cap : Nat) (c : Int) (w : World) (hn : 1 ≤ n) (hc : w.cell? ⟨b, off, none⟩ = some (.int .u8 c)) :
    Calls Yba.prog 6 #[.slice (some ⟨b, off, none⟩) n cap] w fun e w' => e = .returned (.string (kindOf c)) ∧ w' = w := by
  have hn0 : ((n : Int) == 0) = false := beq_eq_false_iff_ne.2 (by omega)
  have hn1 : (0 : Int) < (n : Int) := by omega
  refine kind_ways c (fun s => Calls Yba.prog 6 #[.slice (some ⟨b, off, none⟩) n cap] w fun e w' => e = .returned (.string s) ∧ w' = w) ?_ ?_ ?_ ?_ ?_ ?_ ?_
  all_goals
    intros
    go_enter Yba.func6, Yba.ntmps6
    go_wp2
    go_ret
    exact ⟨rfl, rfl⟩
end Go.Proofs.Ybulkcpyy
