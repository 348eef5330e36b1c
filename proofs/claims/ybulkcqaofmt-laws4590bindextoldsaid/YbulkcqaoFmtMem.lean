/-
  MEMORY, WITHOUT A WALK: families of slices of one cell an element that share no row; a cell of an owned row written; what parts two blocks.
-/
import Derived.Test.YbulkcqaoFmtSpr
import Derived.Below
namespace Go.Proofs.YbulkcqaoFmt
open Go.RowKit Go.Deep

theorem grown_setCell (w : World) (a : Addr) (u : Value) : w.grownBy (w.setCell a u) (some a.block) :=
  ⟨rfl, rfl, rfl, by simp, fun k _ hk => Below.heap_setCell w a u k (fun e => hk (by rw [e]))⟩

/-- A row's block bears the element's type. -/
theorem owns_tag {w : World} {base : Nat} {e : TypeId} {size : Nat} {v : Value} {n : Nat} {xs : List Value} (h : w.ownsRow base e size v n xs) {g : Nat} (hg : v.ownBlock = some g) :
    ∃ cur, w.heap[g]? = some (.cells cur e (0, 0)) ∧ base ≤ g := by
  rcases h.2 with ⟨rfl, _⟩ | ⟨g', cap, cur, rfl, hb, hgg, _⟩
  · simp [Value.ownBlock] at hg
  · simp [Value.ownBlock] at hg
    subst hg
    exact ⟨cur, hgg, hb⟩

/-- A block of another element type is none of the row's. -/
theorem owns_far {w : World} {base : Nat} {e e' : TypeId} {size : Nat} {v : Value} {n : Nat} {xs : List Value} (h : w.ownsRow base e size v n xs) {g : Nat} {c : Array Value} {fr : Nat × Nat}
    (hg : w.heap[g]? = some (.cells c e' fr)) (hne : e ≠ e') : v.ownBlock ≠ some g := fun hv => by
  obtain ⟨cur, h1, _⟩ := owns_tag h hv
  rw [hg] at h1
  injection h1 with h1
  injection h1 with _ h2
  exact hne h2.symm

theorem owns_far_map {w : World} {base : Nat} {e : TypeId} {size : Nat} {v : Value} {n : Nat} {xs : List Value} (h : w.ownsRow base e size v n xs) {g : Nat} {es : Array MapEntry} {cl : Nat}
    (hg : w.heap[g]? = some (.map es cl)) : v.ownBlock ≠ some g := fun hv => by
  obtain ⟨cur, h1, _⟩ := owns_tag h hv
  rw [hg] at h1
  cases h1

/-- Two rows of different element types do not meet. -/
theorem owns_apart {w : World} {base base' : Nat} {e e' : TypeId} {size size' : Nat} {v v' : Value} {n n' : Nat} {xs xs' : List Value} (h : w.ownsRow base e size v n xs) (h' : w.ownsRow base' e' size' v' n' xs') (hne : e ≠ e') :
    v.ownBlock = none ∨ v.ownBlock ≠ v'.ownBlock := by
  cases hv : v.ownBlock with
  | none => exact .inl rfl
  | some g =>
    refine .inr fun h1 => ?_
    obtain ⟨cur, h2, _⟩ := owns_tag h' h1.symm
    exact owns_far h h2 hne hv

/-- A cell of an owned row is written. -/
theorem owns_set {w : World} {base : Nat} {e : TypeId} {size : Nat} {g n cap : Nat} {xs : List Value} (h : w.ownsRow base e size (.slice (some ⟨g, 0, none⟩) n cap) n xs) (i : Nat) (u : Value) :
    (w.setCell ⟨g, i, none⟩ u).ownsRow base e size (.slice (some ⟨g, 0, none⟩) n cap) n (xs.set i u) := by
  refine ⟨by rw [List.length_set]; exact h.1, ?_⟩
  rcases h.2 with ⟨h1, _⟩ | ⟨g', cap', cur, h1, hb, hgg, h2, h3, h4, h5⟩
  · cases h1
  · injection h1 with h1 _ h6
    injection h1 with h1
    injection h1 with h1
    subst h1
    subst h6
    refine .inr ⟨g, cap, cur.setIfInBounds i u, rfl, hb, heap_setCell_same w g i cur e u hgg, h2, h3, by simpa using h4, ?_⟩
    rw [← h5]
    simp [List.take_set]

/-- SLICES OF ONE CELL AN ELEMENT, no two of which lie in one row. -/
structure Fam (w : World) (base : Nat) (e : TypeId) (vs : List Value) (xss : List (List Value)) : Prop where
  len : vs.length = xss.length
  own : ∀ (j : Nat) (v : Value) (xs : List Value), vs[j]? = some v → xss[j]? = some xs → w.ownsRow base e 1 v xs.length xs
  apart : ∀ (i j : Nat) (v v' : Value) (g : Nat), vs[i]? = some v → vs[j]? = some v' → v.ownBlock = some g → v'.ownBlock = some g → i = j

theorem Fam.kept {w w' : World} {base : Nat} {e : TypeId} {vs : List Value} {xss : List (List Value)} (h : Fam w base e vs xss) {row : Option Nat} (hg : w.grownBy w' row)
    (hne : ∀ (j : Nat) (v : Value) (xs : List Value), vs[j]? = some v → xss[j]? = some xs → v.ownBlock = none ∨ v.ownBlock ≠ row) : Fam w' base e vs xss :=
  ⟨h.len, fun j v xs hv hx => (h.own j v xs hv hx).kept hg (hne j v xs hv hx), h.apart⟩

theorem Fam.at {w : World} {base : Nat} {e : TypeId} {vs : List Value} {xss : List (List Value)} (h : Fam w base e vs xss) {j : Nat} {xs : List Value} (hx : xss[j]? = some xs) : ∃ v, vs[j]? = some v ∧ w.ownsRow base e 1 v xs.length xs := by
  have hj : j < vs.length := by rw [h.len]; exact (List.getElem?_eq_some_iff.1 hx).1
  exact ⟨vs[j], List.getElem?_eq_getElem hj, h.own j _ xs (List.getElem?_eq_getElem hj) hx⟩

/-- A block of another type is written, or a new one made. -/
theorem Fam.far {w w' : World} {base : Nat} {e e' : TypeId} {vs : List Value} {xss : List (List Value)} (h : Fam w base e vs xss) {g : Nat} {c : Array Value} {fr : Nat × Nat} (hgb : w.heap[g]? = some (.cells c e' fr)) (hne : e ≠ e')
    (hg : w.grownBy w' (some g)) : Fam w' base e vs xss :=
  h.kept hg fun j v xs hv hx => .inr (owns_far (h.own j v xs hv hx) hgb hne)

theorem Fam.far_map {w w' : World} {base : Nat} {e : TypeId} {vs : List Value} {xss : List (List Value)} (h : Fam w base e vs xss) {g : Nat} {es : Array MapEntry} {cl : Nat} (hgb : w.heap[g]? = some (.map es cl))
    (hg : w.grownBy w' (some g)) : Fam w' base e vs xss :=
  h.kept hg fun j v xs hv hx => .inr (owns_far_map (h.own j v xs hv hx) hgb)

theorem Fam.new {w w' : World} {base : Nat} {e : TypeId} {vs : List Value} {xss : List (List Value)} (h : Fam w base e vs xss) (hg : w.grownBy w' none) : Fam w' base e vs xss :=
  h.kept hg fun _ v _ _ _ => by cases v.ownBlock <;> simp

/-- Beside a row of another type that was appended to. -/
theorem Fam.beside {w w' : World} {base base' : Nat} {e e' : TypeId} {vs : List Value} {xss : List (List Value)} (h : Fam w base e vs xss) {size n : Nat} {v : Value} {xs : List Value} (ho : w.ownsRow base' e' size v n xs) (hne : e ≠ e')
    (hg : w.grownBy w' v.ownBlock) : Fam w' base e vs xss :=
  h.kept hg fun j v' xs' hv hx => owns_apart (h.own j v' xs' hv hx) ho hne

/-- One of them is appended to. -/
theorem Fam.append {w w' : World} {base : Nat} {e : TypeId} {vs : List Value} {xss : List (List Value)} (h : Fam w base e vs xss) {j : Nat} {v v' : Value} {xs : List Value} (x : Value) (hv : vs[j]? = some v) (hx : xss[j]? = some xs)
    (hg : w.grownBy w' v.ownBlock) (hown : w'.ownsRow base e 1 v' (xs.length + 1) (xs ++ [x])) (hat : v.ownBlock = v'.ownBlock ∨ v'.ownBlock = some w.heap.size) : Fam w' base e (vs.set j v') (xss.set j (xs ++ [x])) := by
  have hj : j < vs.length := (List.getElem?_eq_some_iff.1 hv).1
  have hlt : ∀ (i : Nat) (u : Value) (g : Nat), vs[i]? = some u → u.ownBlock = some g → g < w.heap.size := fun i u g hu hgu => by
    have hi : i < xss.length := by rw [← h.len]; exact (List.getElem?_eq_some_iff.1 hu).1
    exact ((h.own i u _ hu (List.getElem?_eq_getElem hi)).lt g hgu).2
  -- a fellow's row is not the new slice's
  have hfar : ∀ (i : Nat) (u : Value) (g : Nat), i ≠ j → vs[i]? = some u → u.ownBlock = some g → v'.ownBlock ≠ some g := fun i u g hij hu hgu hv' => by
    rcases hat with h1 | h1
    · exact hij (h.apart i j u v g hu hv hgu (h1.trans hv'))
    · rw [h1] at hv'
      have := hlt i u g hu hgu
      simp at hv'
      omega
  refine ⟨by simp [h.len], fun i u ys hu hy => ?_, fun i i' u u' g hu hu' hgu hgu' => ?_⟩
  · by_cases hij : i = j
    · subst hij
      rw [List.getElem?_set_self hj] at hu
      rw [List.getElem?_set_self (by rw [← h.len]; exact hj)] at hy
      cases hu; cases hy
      simpa using hown
    · rw [List.getElem?_set_ne (Ne.symm hij)] at hu hy
      refine (h.own i u ys hu hy).kept hg ?_
      cases hub : u.ownBlock with
      | none => exact .inl rfl
      | some g => exact .inr fun h1 => hij (h.apart i j u v g hu hv hub h1.symm)
  · by_cases hij : i = j
    · subst hij
      by_cases hij' : i' = i
      · exact hij'.symm
      · rw [List.getElem?_set_self hj] at hu
        rw [List.getElem?_set_ne (Ne.symm hij')] at hu'
        cases hu
        exact absurd hgu (hfar i' u' g hij' hu' hgu')
    · rw [List.getElem?_set_ne (Ne.symm hij)] at hu
      by_cases hij' : i' = j
      · subst hij'
        rw [List.getElem?_set_self hj] at hu'
        cases hu'
        exact absurd hgu' (hfar i u g hij hu hgu)
      · rw [List.getElem?_set_ne (Ne.symm hij')] at hu'
        exact h.apart i i' u u' g hu hu' hgu hgu'

/-- A nil slice more. -/
theorem Fam.snoc {w : World} {base : Nat} {e : TypeId} {vs : List Value} {xss : List (List Value)} (h : Fam w base e vs xss) : Fam w base e (vs ++ [.slice none 0 0]) (xss ++ [[]]) := by
  refine ⟨by simp [h.len], fun j v xs hv hx => ?_, fun i j v v' g hv hv' hg hg' => ?_⟩
  · rw [List.getElem?_append] at hv hx
    rw [← h.len] at hx
    split at hv
    · rename_i hlt
      rw [if_pos hlt] at hx
      exact h.own j v xs hv hx
    · rename_i hlt
      rw [if_neg hlt] at hx
      have h1 := List.mem_of_getElem? hv
      have h2 := List.mem_of_getElem? hx
      simp at h1 h2
      subst h1; subst h2
      exact World.ownsRow_nil _ _ _ _
  · have key : ∀ (i : Nat) (v : Value) (g : Nat), (vs ++ [Value.slice none 0 0])[i]? = some v → v.ownBlock = some g → vs[i]? = some v := fun i v g hv hg => by
      rw [List.getElem?_append] at hv
      split at hv
      · exact hv
      · have h1 := List.mem_of_getElem? hv
        simp at h1
        subst h1
        simp [Value.ownBlock] at hg
    exact h.apart i j v v' g (key i v g hv hg) (key j v' g hv' hg') hg hg'

end Go.Proofs.YbulkcqaoFmt
