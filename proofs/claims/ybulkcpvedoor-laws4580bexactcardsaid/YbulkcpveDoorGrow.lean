/-
  TWO SMALL LAWS: a string's bytes appended to a slice that has no room: the old array stays as it was; what comes back lies in a new block.
-/
import Derived.Lib.AppendStr
import Derived.ArgAppend
namespace Go.Proofs.YbulkcpveDoor
open Go.Lib

theorem run_append_grows_string {P : Program} (w : World) (t u ty e : TypeId) (i : TypeInfo) (ht : P.underlying t = some (.slice e)) (hu : P.underlying u = some .string) (hi : P.info? e = some i) (hz : i.zero = some (.int .u8 0))
    (hsize : i.size = 1) (hby : i.bytes = 1) (b : Addr) (n cap : Nat) (olds : List Value) (hlo : olds.length = n) (holds : ∀ j v, olds[j]? = some v → w.cell? (b.add j) = some v) (s : ByteArray)
    (hfull : cap < n + s.size) (h63 : n + s.size ≤ maxLen) (hbytes : n + s.size ≤ 140737488355328) :
    ∃ v' w', (Builtin.append_ #[t, u] ty #[.slice (some b) n cap, .string s]).run P w = .ok v' w' ∧ w'.ownsRow w.heap.size e 1 v' (n + s.size) (olds ++ strCells s) ∧ w.grownBy w' none := by
  have hsmall : n + s.size ≤ 9223372036854775807 := by simp only [maxLen] at h63; omega
  have hlen : (olds ++ strCells s).length = (n + s.size) * 1 := by rw [List.length_append, hlo, strCells_length, Nat.mul_one]
  have hge := grownCap_ge w (n + s.size) cap e
  have hcm : grownCap w (n + s.size) cap e ≤ maxLen := grownCap_le_maxLen w (n + s.size) cap e h63
  have hr := run_append_grow_string (P := P) w t u ty e i (.int .u8 0) ht hu hi hz b n cap olds (by rw [hsize]; simpa using hlo) holds s hfull (by omega) (by rw [hby]; exact growslice_fits (by omega) (by omega))
  refine ⟨_, _, hr, ⟨hlen, .inr ⟨w.heap.size, _, _, rfl, Nat.le_refl _, heap_alloc_new w.drew _, hge, hcm, ?_, ?_⟩⟩, ⟨rfl, rfl, rfl, by simp, fun k hk _ => heap_alloc_old w.drew _ k hk⟩⟩
  · have hz1 : (Value.int IntKind.u8 0).cells.size = 1 := rfl
    simp only [Array.size_append, List.size_toArray, size_zeroCells, hz1, hlo, strCells_length]
    omega
  · simp only [Array.toList_append, List.append_assoc]
    rw [← List.append_assoc, ← hlen]
    exact List.take_left

theorem wpList_append_grows_string {P : Program} (w : World) {ops : Array Oper} {rest : List Oper} {o : Oper} {a : Act} {Q : Exit → Act → World → Prop} (hgd : o.guard = none) (sl x : Operand) (t u : TypeId)
    (ho : o.op = .call { callee := .builtin .append, args := #[sl, x], argTypes := #[t, u] })
    (e : TypeId) (i : TypeInfo) (ht : P.underlying t = some (.slice e)) (hu : P.underlying u = some .string) (hi : P.info? e = some i) (hz : i.zero = some (.int .u8 0)) (hsize : i.size = 1) (hby : i.bytes = 1)
    (b : Addr) (n cap : Nat) (olds : List Value) (hs : a.eval sl = .slice (some b) n cap) (hlo : olds.length = n) (holds : ∀ j v, olds[j]? = some v → w.cell? (b.add j) = some v) (s : ByteArray) (hx : a.eval x = .string s)
    (hfull : cap < n + s.size) (h63 : n + s.size ≤ maxLen) (hbytes : n + s.size ≤ 140737488355328)
    (h : ∀ v' w', w'.ownsRow w.heap.size e 1 v' (n + s.size) (olds ++ strCells s) → w.grownBy w' none → wpList P ops Q rest (a.put o.dst v') w') : wpList P ops Q (o :: rest) a w := by
  refine wpList_plain hgd fun K hK => ?_
  obtain ⟨v', w', hr, h2, h3⟩ := run_append_grows_string (P := P) w t u o.type e i ht hu hi hz hsize hby b n cap olds hlo holds s hfull h63 hbytes
  unfold Oper.wp execOp
  simp only [ho, resolve, invoke, builtin, Sem.run_bind, Sem.run_pure, Result.andThen_ok, List.map_toArray, List.map_cons, List.map_nil, hs, hx, hr]
  exact hK _ _ (h v' w' h2 h3)

end Go.Proofs.YbulkcpveDoor
