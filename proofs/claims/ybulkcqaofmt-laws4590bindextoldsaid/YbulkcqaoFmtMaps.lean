/-
  THE TWO MAPS of 'indexMessages', WITHOUT A WALK: 'messages' (a name's pointer) and 'last' (a channel's event).
-/
import Derived.Test.YbulkcqaoFmtPlain
import Derived.Maps.OwnSet
import Derived.DeepKeys5
namespace Go.Proofs.YbulkcqaoFmt
open Go.RowKit Go.Deep Go.Maps Go.WideMaps

theorem Ybaf.laidOut : laidOutB Ybaf.prog = true := by kernel_rfl
theorem law9 : Keyed Ybaf.prog 9 := string_keyed Ybaf.underlying9
theorem row65 : (65 : TypeId) < Ybaf.prog.types.size := of_decide_eq_true (by kernel_rfl)
theorem wide65 : (match Ybaf.prog.underlying 65 with | some (.array _ _) | some (.struct _) => true | _ => false) = true := by kernel_rfl
set_option maxRecDepth 100000 in
theorem law65 : Keyed Ybaf.prog 65 := Keyed.of_law (deep_law_laid Ybaf.laidOut (m := 3) (by omega) row65 (by kernel_rfl) wide65)
theorem zero44 (w : World) : (zeroValue 44).run Ybaf.prog w = .ok (.pointer none) w := by kernel_rfl
def zeroEv : Value := .agg #[.string ByteArray.empty, .int .i64 0, .string ByteArray.empty, .string ByteArray.empty, .int .i64 0]
theorem zero35 (w : World) : (zeroValue 35).run Ybaf.prog w = .ok zeroEv w := by kernel_rfl

/-- How a pointer reads: its block. -/
def ptrElem : Value → Option (DataW Unit × List MemPlace)
  | .pointer none => some (.nil, [])
  | .pointer (some ⟨b, 0, none⟩) => some (.lit (.int .i64 b), [])
  | _ => none
theorem ptrElem_inv {v : Value} {b : Nat} {ps : List MemPlace} (h : ptrElem v = some (.lit (.int .i64 (b : Int)), ps)) : v = .pointer (some ⟨b, 0, none⟩) := by
  unfold ptrElem at h
  split at h
  · simp at h
  · simp at h
    obtain ⟨h, _⟩ := h
    have : (‹Nat› : Nat) = b := by exact_mod_cast h
    rw [this]
  · cases h

/-- How an event reads. -/
def evElem : Value → Option (DataW Unit × List MemPlace)
  | .agg cs => match cs.toList with
    | [.string a, .int .i64 x, .string b, .string c, .int .i64 l] => some (.agg [.lit (.string a.data.toList), .lit (.int .i64 x), .lit (.string b.data.toList), .lit (.string c.data.toList), .lit (.int .i64 l)], [])
    | _ => none
  | _ => none

/-- An event as a value. -/
def evV (e : Ev) : Value := .agg (evC e).toArray
def evD (e : Ev) : DataW Unit := .agg [.lit (.string (proc e.p).data.toList), .lit (.int .i64 e.kind), .lit (.string (msg e).data.toList), .lit (.string (⟨#[120]⟩ : ByteArray).data.toList), .lit (.int .i64 e.line)]
theorem evElem_mk (e : Ev) : evElem (evV e) = some (evD e, []) := by simp [evElem, evV, evC, evD]
theorem bytes_ext {a b : ByteArray} (h : a.data.toList = b.data.toList) : a = b := by
  apply ByteArray.ext
  exact Array.toList_inj.1 h
theorem evElem_inv {v : Value} {e : Ev} {ps : List MemPlace} (h : evElem v = some (evD e, ps)) : v = evV e := by
  unfold evElem at h
  split at h
  · rename_i cs
    split at h
    · rename_i a x b c l hcs
      simp only [evD, Option.some.injEq, Prod.mk.injEq, DataW.agg.injEq, List.cons.injEq, DataW.lit.injEq, Lit.string.injEq, Lit.int.injEq, and_true, true_and] at h
      obtain ⟨⟨h1, h2, h3, h4, h5⟩, _⟩ := h
      have e1 := bytes_ext h1
      have e3 := bytes_ext h3
      have e4 := bytes_ext (a := c) (b := ⟨#[120]⟩) h4
      subst e1; subst e3; subst e4; subst h2; subst h5
      unfold evV
      congr 1
      apply Array.toList_inj.1
      rw [hcs]
      rfl
    · cases h
  · cases h

/-! ### names, channels -/
def nameL (j : Nat) : Lit := .string (name j).data.toList
theorem digs_short : ∀ (n k : Nat), k < 10 ^ n → (digs k).length ≤ n
  | 0, k, h => by
    have : k = 0 := by simpa using h
    subst this
    rw [digs_zero]; simp
  | n + 1, k, h => by
    by_cases hk : k = 0
    · subst hk; rw [digs_zero]; simp
    · rw [digs_pos hk]
      have := digs_short n (k / 10) (by rw [Nat.pow_succ] at h; omega)
      simp; omega
theorem name_size (j : Nat) (h : j ≤ 1024) : (name j).size ≤ maxLen := by
  unfold name maxLen
  split
  · decide
  · have := digs_short 4 j (by omega)
    simp [ByteArray.size]; omega
theorem key_name (j : Nat) (h : j ≤ 1024) : keyOf Ybaf.prog 9 (.string (name j)) = some (nameL j) := by
  simp [keyOf, Ybaf.underlying9, mapKey, nameL, name_size j h]
theorem nameL_ne {i j : Nat} (h : i ≠ j) : nameL i ≠ nameL j := fun e => h (name_inj i j (bytes_ext (by simpa [nameL] using e)))

def chV (a b : Nat) : Value := .agg #[.string (proc a), .string (proc b)]
def chL (a b : Nat) : Lit := .string (keyBytes [.string (proc a).data.toList, .string (proc b).data.toList])
theorem key_ch : ∀ a b, a < 3 → b < 3 → keyOf Ybaf.prog 65 (chV a b) = some (chL a b)
  | 0, 0, _, _ => by kernel_rfl
  | 0, 1, _, _ => by kernel_rfl
  | 0, 2, _, _ => by kernel_rfl
  | 1, 0, _, _ => by kernel_rfl
  | 1, 1, _, _ => by kernel_rfl
  | 1, 2, _, _ => by kernel_rfl
  | 2, 0, _, _ => by kernel_rfl
  | 2, 1, _, _ => by kernel_rfl
  | 2, 2, _, _ => by kernel_rfl
  | _ + 3, _, h, _ => by omega
  | 0, _ + 3, _, h => by omega
  | 1, _ + 3, _, h => by omega
  | 2, _ + 3, _, h => by omega
theorem key65 {v : Value} {l : Lit} (h : keyOf Ybaf.prog 65 v = some l) : WideAt.IsKeyLit l := law65.key h
theorem inj65 {u v : Value} {l : Lit} (h : keyOf Ybaf.prog 65 u = some l) (h' : keyOf Ybaf.prog 65 v = some l) : u = v := law65.inj h h'
theorem keyl65 (a b : Nat) (ha : a < 3) (hb : b < 3) : WideAt.IsKeyLit (chL a b) := by
  have h := key_ch a b ha hb
  exact key65 h
theorem chL_ne {a b a' b' : Nat} (ha : a < 3) (hb : b < 3) (ha' : a' < 3) (hb' : b' < 3) (h : ¬ (a = a' ∧ b = b')) : chL a b ≠ chL a' b' := fun e => by
  have h1 := key_ch a b ha hb
  have h2 := key_ch a' b' ha' hb'
  rw [← e] at h2
  have := inj65 h1 h2
  simp [chV] at this
  exact h ⟨proc_inj a a' ha ha' this.1, proc_inj b b' hb hb' this.2⟩

/-! ### 'messages' -/
/-- Block M is the map that gives name j the pointer to block bs[j]. -/
def PMap (w : World) (M c : Nat) (bs : List Nat) : Prop :=
  ∃ D, w.ownsMap (H := Unit) Ybaf.prog 9 ptrElem M c D ∧ size D = bs.length ∧ (∀ j, j ≤ 1024 → has D (nameL j) = decide (j < bs.length)) ∧ ∀ (j b : Nat), bs[j]? = some b → ∀ z, D.atKey (nameL j) z = .lit (.int .i64 b)

theorem PMap.made (w : World) : PMap (w.alloc (.map #[] 0)) w.heap.size 0 [] :=
  ⟨.map [], World.ownsMap_made _ _ _ _, rfl, fun j _ => by simp [Maps.has], fun j b h => by simp at h⟩
theorem PMap.kept {w w' : World} {M c : Nat} {bs : List Nat} (h : PMap w M c bs) {row : Option Nat} (hg : w.grownBy w' row) (hne : some M ≠ row) : PMap w' M c bs := by
  obtain ⟨D, h1, h2⟩ := h
  exact ⟨D, h1.kept hg hne, h2⟩
theorem PMap.mono {w : World} {M c c' : Nat} {bs : List Nat} (h : PMap w M c bs) (hc : c ≤ c') : PMap w M c' bs := by
  obtain ⟨D, h1, h2⟩ := h
  exact ⟨D, h1.mono hc, h2⟩
theorem PMap.block {w : World} {M c : Nat} {bs : List Nat} (h : PMap w M c bs) : ∃ es cl, w.heap[M]? = some (.map es cl) := by
  obtain ⟨D, ⟨es, cl, h1, _⟩, _⟩ := h
  exact ⟨es, cl, h1⟩
theorem PMap.look {w : World} {M c : Nat} {bs : List Nat} (h : PMap w M c bs) {j b : Nat} (hj : j ≤ 1024) (hb : bs[j]? = some b) :
    (Instr.lookup 38 (.map (some M)) (.string (name j)) false).run Ybaf.prog w = .ok (.pointer (some ⟨b, 0, none⟩)) w := by
  obtain ⟨D, h1, _, _, h4⟩ := h
  obtain ⟨v, ps, hr, hv⟩ := h1.lookup law9 Ybaf.underlying38 (zero44 w) (zd := .nil) (zp := []) rfl (key_name j hj)
  rw [h4 j b hb] at hv
  rw [hr, ptrElem_inv hv]
theorem PMap.len {w : World} {M c : Nat} {bs : List Nat} (h : PMap w M c bs) (ty : TypeId) : (Builtin.len_ #[38] ty #[.map (some M)]).run Ybaf.prog w = .ok (.int .i64 bs.length) w := by
  obtain ⟨D, h1, h2, _⟩ := h
  rw [h1.len Ybaf.underlying38 ty, h2]
theorem PMap.store {w : World} {M c : Nat} {bs : List Nat} (h : PMap w M c bs) (hc : c < maxLen) (hl : bs.length ≤ 1024) (b : Nat) :
    ∃ w', (Instr.mapUpdate 38 (.map (some M)) (.string (name bs.length)) (.pointer (some ⟨b, 0, none⟩))).run Ybaf.prog w = .ok () w' ∧ PMap w' M (c + 1) (bs ++ [b]) ∧ w.grownBy w' (some M) := by
  obtain ⟨D, h1, h2, h3, h4⟩ := h
  have hk := key_name bs.length hl
  obtain ⟨w', hr, ho, hg⟩ := h1.update law9 Ybaf.underlying38 hc hk (val := .pointer (some ⟨b, 0, none⟩)) (d := .lit (.int .i64 b)) (ps := []) rfl
  have hD := h1.isMap
  refine ⟨w', hr, ⟨_, ho, ?_, fun j hj => ?_, fun j b' hj z => ?_⟩, hg⟩
  · rw [size_put (h1.tidy law9), h3 _ hl, h2]
    simp
  · by_cases hjl : j = bs.length
    · subst hjl
      rw [has_put_same hD (law9.key hk)]
      simp
    · rw [has_put_other (nameL_ne hjl), h3 j hj]
      simp
      omega
  · rw [List.getElem?_append] at hj
    split at hj
    · rename_i hlt
      rw [atKey_put_other (nameL_ne (by omega))]
      exact h4 j b' hj z
    · rename_i hlt
      have e1 := List.mem_of_getElem? hj
      have e2 := (List.getElem?_eq_some_iff.1 hj).1
      simp at e1 e2
      subst e1
      have : j = bs.length := by omega
      subst this
      exact atKey_put_same hD (law9.key hk) _ _

/-! ### 'last' -/
/-- The event that the map holds of a channel: a receipt by b of message k. -/
def chE (b k : Nat) (l : Int) : Ev := ⟨b, 2, k, l⟩

def LMap (w : World) (L c : Nat) (last : Nat → Nat → Option Nat) : Prop :=
  ∃ D, w.ownsMap (H := Unit) Ybaf.prog 65 evElem L c D ∧ ∀ a b, a < 3 → b < 3 → has D (chL a b) = (last a b).isSome ∧ ∀ k, last a b = some k → ∃ l : Int, ∀ z, D.atKey (chL a b) z = evD (chE b k l)

theorem LMap.made (w : World) : LMap (w.alloc (.map #[] 0)) w.heap.size 0 (fun _ _ => none) :=
  ⟨.map [], World.ownsMap_made _ _ _ _, fun a b _ _ => ⟨rfl, fun k h => by cases h⟩⟩
theorem LMap.kept {w w' : World} {L c : Nat} {last : Nat → Nat → Option Nat} (h : LMap w L c last) {row : Option Nat} (hg : w.grownBy w' row) (hne : some L ≠ row) : LMap w' L c last := by
  obtain ⟨D, h1, h2⟩ := h
  exact ⟨D, h1.kept hg hne, h2⟩
theorem LMap.mono {w : World} {L c c' : Nat} {last : Nat → Nat → Option Nat} (h : LMap w L c last) (hc : c ≤ c') : LMap w L c' last := by
  obtain ⟨D, h1, h2⟩ := h
  exact ⟨D, h1.mono hc, h2⟩
theorem LMap.block {w : World} {L c : Nat} {last : Nat → Nat → Option Nat} (h : LMap w L c last) : ∃ es cl, w.heap[L]? = some (.map es cl) := by
  obtain ⟨D, ⟨es, cl, h1, _⟩, _⟩ := h
  exact ⟨es, cl, h1⟩
set_option maxRecDepth 100000 in
theorem LMap.look {w : World} {L c : Nat} {last : Nat → Nat → Option Nat} (h : LMap w L c last) {a b : Nat} (ha : a < 3) (hb : b < 3) :
    (last a b = none ∧ (Instr.lookup 63 (.map (some L)) (chV a b) true).run Ybaf.prog w = .ok (.tuple #[zeroEv, .bool false]) w) ∨
    ∃ k l, last a b = some k ∧ (Instr.lookup 63 (.map (some L)) (chV a b) true).run Ybaf.prog w = .ok (.tuple #[evV (chE b k l), .bool true]) w := by
  obtain ⟨D, h1, h2⟩ := h
  obtain ⟨h3, h4⟩ := h2 a b ha hb
  obtain ⟨v, ps, hr, hv⟩ := h1.look_ok law65 Ybaf.underlying63 (zero35 w) (zd := .agg [.lit (.string []), .lit (.int .i64 0), .lit (.string []), .lit (.string []), .lit (.int .i64 0)]) (zp := []) rfl (key_ch a b ha hb)
  rw [h3] at hr
  cases hl : last a b with
  | none =>
    left
    refine ⟨rfl, ?_⟩
    rw [hl] at h3 hr
    obtain ⟨v', ps', hr', hv'⟩ := h1.lookup law65 Ybaf.underlying63 (zero35 w) (zd := .agg [.lit (.string []), .lit (.int .i64 0), .lit (.string []), .lit (.string []), .lit (.int .i64 0)]) (zp := []) rfl (key_ch a b ha hb)
    rw [atKey_of_not_has h3] at hv
    rw [hr]
    have : v = zeroEv := by
      unfold evElem at hv
      split at hv
      · rename_i cs
        split at hv
        · rename_i a x b c l hcs
          simp only [Option.some.injEq, Prod.mk.injEq, DataW.agg.injEq, List.cons.injEq, DataW.lit.injEq, Lit.string.injEq, Lit.int.injEq, and_true, true_and] at hv
          obtain ⟨⟨e1, e2, e3, e4, e5⟩, _⟩ := hv
          have e1 := bytes_ext (a := a) (b := ByteArray.empty) (e1.trans rfl)
          have e3 := bytes_ext (a := b) (b := ByteArray.empty) (e3.trans rfl)
          have e4 := bytes_ext (a := c) (b := ByteArray.empty) (e4.trans rfl)
          subst e1; subst e3; subst e4; subst e2; subst e5
          unfold zeroEv
          congr 1
          apply Array.toList_inj.1
          rw [hcs]
        · cases hv
      · cases hv
    rw [this]
    rfl
  | some k =>
    right
    obtain ⟨l, hat⟩ := h4 k hl
    refine ⟨k, l, rfl, ?_⟩
    rw [hat] at hv
    rw [hr, hl, evElem_inv hv]
    rfl
theorem LMap.store {w : World} {L c : Nat} {last : Nat → Nat → Option Nat} (h : LMap w L c last) (hc : c < maxLen) {a b : Nat} (ha : a < 3) (hb : b < 3) (k : Nat) (l : Int) :
    ∃ w', (Instr.mapUpdate 63 (.map (some L)) (chV a b) (evV (chE b k l))).run Ybaf.prog w = .ok () w' ∧ LMap w' L (c + 1) (fun x y => if x = a ∧ y = b then some k else last x y) ∧ w.grownBy w' (some L) := by
  obtain ⟨D, h1, h2⟩ := h
  have hk := key_ch a b ha hb
  obtain ⟨w', hr, ho, hg⟩ := h1.update law65 Ybaf.underlying63 hc hk (evElem_mk (chE b k l))
  have hD := h1.isMap
  have hkl := keyl65 a b ha hb
  refine ⟨w', hr, ⟨_, ho, fun x y hx hy => ?_⟩, hg⟩
  by_cases hxy : x = a ∧ y = b
  · obtain ⟨rfl, rfl⟩ := hxy
    refine ⟨by rw [has_put_same hD hkl]; simp, fun k' hk' => ⟨l, fun z => ?_⟩⟩
    simp at hk'
    subst hk'
    exact atKey_put_same hD hkl _ _
  · have hne := chL_ne hx hy ha hb hxy
    obtain ⟨h3, h4⟩ := h2 x y hx hy
    refine ⟨by rw [has_put_other hne, h3]; simp [hxy], fun k' hk' => ?_⟩
    simp only [if_neg hxy] at hk'
    obtain ⟨l', hat⟩ := h4 k' hk'
    exact ⟨l', fun z => by rw [atKey_put_other hne]; exact hat z⟩

end Go.Proofs.YbulkcqaoFmt
