/-
  fmt.Sprintf (function 15, a stop) AT THE ONE FORMAT of 'indexMessages': whatever the tape answers, a string comes back; one draw.
-/
import Derived.Test.YbulkcqaoFmtProc
import Derived.Stop.CallBack
import Derived.Stop.FmtLaws
import Derived.Stop.IfaceNil
import GoSem.ClaimData
namespace Go.Proofs.YbulkcqaoFmt
open Go.RowKit Go.Deep Go.Extern.Stop Go.Stop Go.Extern

def fmtS : ByteArray := ⟨([114, 101, 99, 101, 105, 118, 101, 115, 32, 37, 113, 32, 97, 102, 116, 101, 114, 32, 37, 113, 32, 40, 108, 105, 110, 101, 32, 37, 100, 41, 44, 32, 119, 104, 105, 99, 104, 32, 37, 113, 32, 115, 101, 110, 116, 32, 108, 97, 116].append [101, 114, 58, 32, 97, 32, 115, 110, 97, 112, 115, 104, 111, 116, 39, 115, 32, 99, 104, 97, 110, 110, 101, 108, 115, 32, 97, 114, 101, 32, 102, 105, 114, 115, 116, 32, 105, 110, 44, 32, 102, 105, 114, 115, 116, 32, 111, 117, 116]).toArray⟩

theorem Ybaf.call15 (args : Array Value) (w : World) : (callFunc 15 args).run Ybaf.prog w = ((FmtStop.sprintf #[9, 108] #[9] args).run Ybaf.prog w).andThen fun v w' => .ok (.value v) w' :=
  run_callFunc_extern Ybaf.func15 (by kernel_rfl) (by kernel_rfl) (by kernel_rfl) (by kernel_rfl) args w
theorem Ybaf.guard (nm : String) (w : World) : (FmtStop.guard nm).run Ybaf.prog w = .ok () w := by kernel_rfl
theorem Ybaf.fmt0 : FmtStop.printed? fmtS 4 = some [(0, 113, false), (1, 113, false), (2, 100, false), (3, 113, false)] := by kernel_rfl
def Ybaf.shape3 : List UInt8 := [5, 3, 0, 0, 0, 0, 0, 0, 0, 105, 110, 116]
def Ybaf.shape9 : List UInt8 := [12, 6, 0, 0, 0, 0, 0, 0, 0, 115, 116, 114, 105, 110, 103]
theorem Ybaf.op3_100 (nm : String) (x : Int) (w : World) : (FmtStop.operand nm false 100 false (.iface 3 (.int .i64 x))).run Ybaf.prog w = .ok (Ybaf.shape3, Go.Extern.Stop.digits 8 (x % 2 ^ 64).toNat) w := by kernel_rfl
theorem Ybaf.op9_113 (nm : String) (x : ByteArray) (w : World) : (FmtStop.operand nm false 113 false (.iface 9 (.string x))).run Ybaf.prog w = .ok (Ybaf.shape9, FmtStop.pack x.data.toList) w := by kernel_rfl

theorem sprintf_run (w : World) (B : Nat) (s1 s2 s3 : ByteArray) (n : Int) (tg : TypeId) (fr : Nat × Nat) (hb : w.heap[B]? = some (.cells #[.iface 9 (.string s1), .iface 9 (.string s2), .iface 3 (.int .i64 n), .iface 9 (.string s3)] tg fr)) :
    ∃ s : ByteArray, (callFunc 15 #[.string fmtS, .slice (some ⟨B, 0, none⟩) 4 4]).run Ybaf.prog w = .ok (.value (.string s)) w.drew := by
  have hc := World.news_of_block hb
  have hl := run_loadCells_list (P := Ybaf.prog) w ⟨B, 0, none⟩ [.iface 9 (.string s1), .iface 9 (.string s2), .iface 3 (.int .i64 n), .iface 9 (.string s3)] hc
  rw [Ybaf.call15, FmtStop.sprintf_lit]
  simp only [List.length_cons, List.length_nil, Nat.zero_add, Nat.reduceAdd] at hl
  simp [FmtStop.cells, Ybaf.guard, hl, Ybaf.fmt0, FmtStop.readAll, Ybaf.op9_113, Ybaf.op3_100, FmtStop.text, FmtStop.str, Question.forced]

/-- AT A STEP OF A REGION THAT DRAWS ITS ORDER. -/
theorem step_sprintf {ops : Array Oper} {o : Oper} {a : Act} {w : World} {K : Act → World → Prop} {Q : Exit → Act → World → Prop} {E : Prop} (hgd : o.guard = none) (x : Operand)
    (ho : o.op = .call { callee := .value (.func 15), args := #[.const (.string fmtS), x], argTypes := #[9, 108] })
    (B : Nat) (s1 s2 s3 : ByteArray) (n : Int) (tg : TypeId) (fr : Nat × Nat) (hx : a.eval x = .slice (some ⟨B, 0, none⟩) 4 4)
    (hb : w.heap[B]? = some (.cells #[.iface 9 (.string s1), .iface 9 (.string s2), .iface 3 (.int .i64 n), .iface 9 (.string s3)] tg fr))
    (h : ∀ s : ByteArray, K (a.put o.dst (.string s)) w.drew) :
    if Region.wanted o (yielded ops a.tmps) = true then Oper.wp Ybaf.prog o a w K Q else E := by
  have hw : Region.wanted o (yielded ops a.tmps) = true := by simp [Region.wanted, hgd]
  rw [if_pos hw]
  obtain ⟨s, hr⟩ := sprintf_run w B s1 s2 s3 n tg fr hb
  have e1 : a.eval (.func 15) = .func (.func 15) #[] #[] := rfl
  have e2 : a.eval (.const (.string fmtS)) = .string fmtS := rfl
  unfold Oper.wp execOp
  simp only [ho, resolve, invoke, Sem.run_bind, Sem.run_pure, Result.andThen_ok, List.map_toArray, List.map_cons, List.map_nil, hx, e1, e2, Deferred.ofValue]
  simp only [Array.empty_append, Array.append_empty, hr]
  exact h s

end Go.Proofs.YbulkcqaoFmt
