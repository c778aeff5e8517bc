/-
  THE STEPPING FRAME, part 10: functions with several results, or with a result in memory. Own work.
-/
import Derived.Test.Qxb6001707aFwI
import Derived.OwnWalk
namespace Go.Fw
def bpR (P : Program) (fn : Func) (N : Nat) (R : Value → World → Prop) : Exit → (Nat → Value) → World → Prop
  | .normal, f, w | .ret, f, w => ∃ v, (results fn (ofF N f).tmps).run P w = .ok v w ∧ R v w
  | _, _, _ => False
theorem enterR {P : Program} {k : Nat} {fn : Func} {c : Code} {args : List Value} {w : World} {R : Value → World → Prop} {N : Nat} (hf : P.funcs[k]? = some fn) (hb : fn.body = some c) (hN : fn.ntmps = N)
    (hle : decide (args.length ≤ N) = true) (h : Cw P N c (bpR P fn N R) (argF args) w) : Calls P k args.toArray w fun e w' => ∃ v, e = .returned v ∧ R v w' := by
  refine calls_of_wp hf hb ?_
  rw [hN, act_args args N (of_decide_eq_true hle)]
  refine wp_mono h ?_
  rintro e a w' ⟨g, rfl, hk⟩
  cases e <;> first | (obtain ⟨v, hr, hR⟩ := hk; exact ⟨rfl, _, hr, _, rfl, hR⟩) | exact hk.elim
theorem res3 {P : Program} {fn : Func} {a b c N : Nat} {f : Nat → Value} {w : World} (h : fn.results = #[.tmp a, .tmp b, .tmp c]) (ha : decide (a < N) = true) (hb : decide (b < N) = true) (hc : decide (c < N) = true) :
    (results fn (ofF N f).tmps).run P w = .ok (.tuple #[f a, f b, f c]) w := by
  rw [results_tmp3 h]
  have h1 := ofF_get N f a (of_decide_eq_true ha)
  have h2 := ofF_get N f b (of_decide_eq_true hb)
  have h3 := ofF_get N f c (of_decide_eq_true hc)
  simp [h1, h2, h3]
section
variable {P : Program} {ops : Array Oper} {K : (Nat → Value) → World → Prop} {rest : List Oper} {f : Nat → Value} {w : World} {d : Nat} {dst : Option Tmp} {ty : TypeId} {pos : String} {af : Array Edge} {gu : Option (Nat × Bool)}
theorem r_extract {x : Operand} {i : Nat} {vs : Array Value} {v : Value} (hx : ev f x = .tuple vs) (hv : vs[i]? = some v) : (execOp (ev f) ⟨dst, .extract x i, ty, pos, af, gu⟩).run P w = .ok (.value v) w := by
  simp [execOp, hx, Instr.extract, hv]
theorem s_extract {x : Operand} {i : Nat} {vs : Array Value} {v : Value} (hx : ev f x = .tuple vs) (hv : vs[i]? = some v) (h : Fl P ops K rest (upd f d v) w) : Fl P ops K (⟨some d, .extract x i, ty, pos, af, none⟩ :: rest) f w := Fl_val rfl (r_extract hx hv) h
theorem r_neqB {x y : Operand} {t t' : TypeId} {a b : Bool} (ht : P.underlying t = some .bool) (hx : ev f x = .bool a) (hy : ev f y = .bool b) : (execOp (ev f) ⟨dst, .binOp .neq t x y t', ty, pos, af, gu⟩).run P w = .ok (.value (.bool (a != b))) w := by
  have key : ∀ (dep : Nat) (w : World), (Op.equalIn (dep + 1) t (.bool a) (.bool b)).run P w = .ok (a == b) w := by
    intro dep w
    simp [Op.equalIn, run_underlying ht]
  refine r_bin hx hy (fun _ => by simp [eqGuard]) (fun w => ?_)
  simp only [binOp]
  simp [Op.equal, Op.maxDepth, key 9999, bne]
theorem r_eqlB {x y : Operand} {t t' : TypeId} {a b : Bool} (ht : P.underlying t = some .bool) (hx : ev f x = .bool a) (hy : ev f y = .bool b) : (execOp (ev f) ⟨dst, .binOp .eql t x y t', ty, pos, af, gu⟩).run P w = .ok (.value (.bool (a == b))) w := by
  have key : ∀ (dep : Nat) (w : World), (Op.equalIn (dep + 1) t (.bool a) (.bool b)).run P w = .ok (a == b) w := by
    intro dep w
    simp [Op.equalIn, run_underlying ht]
  refine r_bin hx hy (fun _ => by simp [eqGuard]) (fun w => ?_)
  simp only [binOp]
  simp [Op.equal, Op.maxDepth, key 9999]
end
end Go.Fw
