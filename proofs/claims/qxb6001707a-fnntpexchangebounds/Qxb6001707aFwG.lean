/-
  THE STEPPING FRAME, part 7: frames forgotten, ways that meet, tests with a known answer, calls with many arguments, strings, pointers, structs. Own work.
-/
import Derived.Test.Qxb6001707aMem
import Derived.LaidEql
import Derived.Laws.StructEq
import Derived.Deep.MidRow
import Derived.ArgAppend
namespace Go.Fw
/-- Forget all of the frame but these. -/
theorem Cw_fr {P : Program} {N : Nat} {Q : Exit → (Nat → Value) → World → Prop} {f : Nat → Value} {w : World} {c : Code} (L : List (Nat × Value)) (hk : known f L) (h : ∀ g, Cw P N c Q (sets L g) w) : Cw P N c Q f w := by
  obtain ⟨g, hg⟩ := sets_ex L hk
  rw [hg]
  exact h g
/-- Both ways meet, the world may change. -/
theorem Cw_meet {P : Program} {N : Nat} {c : Code} {K : (Nat → Value) → World → Prop} {Q : Exit → (Nat → Value) → World → Prop} {f : Nat → Value} {w : World} (M : (Nat → Value) → World → Prop) (h : Cw P N c (thn M (fun _ _ _ => False)) f w) (hk : ∀ f w, M f w → K f w) : Cw P N c (thn K Q) f w := by
  refine Cw_mono h ?_
  intro e f' w' hh
  cases e with
  | normal => exact hk _ _ hh
  | _ => exact hh.elim
theorem Cw_meetN {P : Program} {N : Nat} {c : Code} {Q : Exit → (Nat → Value) → World → Prop} {f : Nat → Value} {w : World} (M : (Nat → Value) → World → Prop) (h : Cw P N c (thn M (fun _ _ _ => False)) f w) (hk : ∀ f w, M f w → Q .normal f w) : Cw P N c Q f w := by
  refine Cw_mono h ?_
  intro e f' w' hh
  cases e with
  | normal => exact hk _ _ hh
  | _ => exact hh.elim
theorem ex_ne {Q : Exit → (Nat → Value) → World → Prop} {f : Nat → Value} {w : World} {id j : Nat} (hj : Nat.beq j id = false) (h : Q (.exit j) f w) : inB id Q (.exit j) f w := by
  simp only [inB, hj]
  exact h
section
variable {P : Program} {ops : Array Oper} {K : (Nat → Value) → World → Prop} {rest : List Oper} {f : Nat → Value} {w : World} {d : Nat} {dst : Option Tmp} {ty : TypeId} {pos : String} {af : Array Edge} {gu : Option (Nat × Bool)}
theorem r_eqlT {x y : Operand} {t t' : TypeId} {k : IntKind} {a b : Int} (hx : ev f x = .int k a) (hy : ev f y = .int k b) (h : a = b) : (execOp (ev f) ⟨dst, .binOp .eql t x y t', ty, pos, af, gu⟩).run P w = .ok (.value (.bool true)) w := by
  rw [r_eql hx hy, decide_eq_true h]
theorem r_eqlF {x y : Operand} {t t' : TypeId} {k : IntKind} {a b : Int} (hx : ev f x = .int k a) (hy : ev f y = .int k b) (h : a ≠ b) : (execOp (ev f) ⟨dst, .binOp .eql t x y t', ty, pos, af, gu⟩).run P w = .ok (.value (.bool false)) w := by
  rw [r_eql hx hy, decide_eq_false h]
theorem r_neqT {x y : Operand} {t t' : TypeId} {k : IntKind} {a b : Int} (hx : ev f x = .int k a) (hy : ev f y = .int k b) (h : a ≠ b) : (execOp (ev f) ⟨dst, .binOp .neq t x y t', ty, pos, af, gu⟩).run P w = .ok (.value (.bool true)) w := by
  rw [r_neq hx hy, decide_eq_true h]
theorem r_neqF {x y : Operand} {t t' : TypeId} {k : IntKind} {a b : Int} (hx : ev f x = .int k a) (hy : ev f y = .int k b) (h : a = b) : (execOp (ev f) ⟨dst, .binOp .neq t x y t', ty, pos, af, gu⟩).run P w = .ok (.value (.bool false)) w := by
  rw [r_neq hx hy, decide_eq_false (fun hn => hn h)]
theorem r_lssT {x y : Operand} {t t' : TypeId} {k : IntKind} {a b : Int} (hx : ev f x = .int k a) (hy : ev f y = .int k b) (h : a < b) : (execOp (ev f) ⟨dst, .binOp .lss t x y t', ty, pos, af, gu⟩).run P w = .ok (.value (.bool true)) w := by
  rw [r_lss hx hy, decide_eq_true h]
theorem r_lssF {x y : Operand} {t t' : TypeId} {k : IntKind} {a b : Int} (hx : ev f x = .int k a) (hy : ev f y = .int k b) (h : ¬ a < b) : (execOp (ev f) ⟨dst, .binOp .lss t x y t', ty, pos, af, gu⟩).run P w = .ok (.value (.bool false)) w := by
  rw [r_lss hx hy, decide_eq_false h]
theorem r_gtrT {x y : Operand} {t t' : TypeId} {k : IntKind} {a b : Int} (hx : ev f x = .int k a) (hy : ev f y = .int k b) (h : b < a) : (execOp (ev f) ⟨dst, .binOp .gtr t x y t', ty, pos, af, gu⟩).run P w = .ok (.value (.bool true)) w := by
  rw [r_gtr hx hy, decide_eq_true h]
theorem r_gtrF {x y : Operand} {t t' : TypeId} {k : IntKind} {a b : Int} (hx : ev f x = .int k a) (hy : ev f y = .int k b) (h : ¬ b < a) : (execOp (ev f) ⟨dst, .binOp .gtr t x y t', ty, pos, af, gu⟩).run P w = .ok (.value (.bool false)) w := by
  rw [r_gtr hx hy, decide_eq_false h]
/-- A call, the arguments as a list. -/
theorem s_cv {g : Nat} {xs : List Operand} {vs : List Value} {ats : Array TypeId} {R : Value → World → Prop} (hok : cOk P g = true) (hv : xs.map (ev f) = vs) (hc : Calls P g vs.toArray w fun e w' => ∃ v, e = .returned v ∧ R v w') (h : ∀ v w', R v w' → Fl P ops K rest (upd f d v) w') :
    Fl P ops K (⟨some d, .call ⟨.value (.func g), xs.toArray, ats⟩, ty, pos, af, none⟩ :: rest) f w := by
  refine s_call1 hok ?_ h
  rw [List.map_toArray, hv]
  exact hc
theorem s_c1g {g : Nat} {x : Operand} {a : Value} {ats : Array TypeId} {R : Value → World → Prop} (hgd : gd ops f ⟨some d, .call ⟨.value (.func g), #[x], ats⟩, ty, pos, af, gu⟩ = true) (hok : cOk P g = true) (hx : ev f x = a) (hc : Calls P g #[a] w fun e w' => ∃ v, e = .returned v ∧ R v w') (h : ∀ v w', R v w' → Fl P ops K rest (upd f d v) w') :
    Fl P ops K (⟨some d, .call ⟨.value (.func g), #[x], ats⟩, ty, pos, af, gu⟩ :: rest) f w := by
  have hr := r_c1 (P := P) (f := f) (w := w) (dst := some d) (ty := ty) (pos := pos) (af := af) (gu := gu) (ats := ats) hok hx
  simp only [Fl, hgd, if_true, Fop, hr, Fupon]
  exact hc.mono fun e w' ⟨v, he, hr⟩ => ⟨v, he, h v w' hr⟩
/-! strings -/
theorem r_lenStr {x : Operand} {t : TypeId} {s : ByteArray} (hx : ev f x = .string s) (ht : P.underlying t = some .string) :
    (execOp (ev f) ⟨dst, .call ⟨.builtin .len, #[x], #[t]⟩, ty, pos, af, gu⟩).run P w = .ok (.value (.int .i64 (s.size : Int))) w := by
  simp [execOp, resolve, invoke, builtin, Builtin.len_, hx, run_underlying ht, goInt]
theorem s_lenStr {x : Operand} {t : TypeId} {s : ByteArray} (hx : ev f x = .string s) (ht : P.underlying t = some .string) (h : Fl P ops K rest (upd f d (.int .i64 (s.size : Int))) w) :
    Fl P ops K (⟨some d, .call ⟨.builtin .len, #[x], #[t]⟩, ty, pos, af, none⟩ :: rest) f w := Fl_val rfl (r_lenStr hx ht) h
end
end Go.Fw
