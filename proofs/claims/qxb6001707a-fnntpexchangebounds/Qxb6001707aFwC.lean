/-
  THE STEPPING FRAME, part 3: the steps of a plain region; calls; the end of a function. Own work for this seat.
-/
import Derived.Test.Qxb6001707aFwB
namespace Go.Fw
section
variable {P : Program} {ops : Array Oper} {K : (Nat → Value) → World → Prop} {rest : List Oper} {f : Nat → Value} {w w' : World} {d : Nat} {ty : TypeId} {pos : String} {af : Array Edge}

theorem Fl_val {o : Oper} {v : Value} (hg : gd ops f o = true) (hr : (execOp (ev f) o).run P w = .ok (.value v) w') (h : Fl P ops K rest (updO f o.dst v) w') : Fl P ops K (o :: rest) f w := by
  simp only [Fl, hg, if_true, Fop, hr, Fupon]
  exact h
theorem Fl_skip {o : Oper} (hg : gd ops f o = true) (hr : (execOp (ev f) o).run P w = .ok .skip w') (h : Fl P ops K rest (updO f o.dst undef) w') : Fl P ops K (o :: rest) f w := by
  simp only [Fl, hg, if_true, Fop, hr, Fupon]
  exact h
theorem Fl_nil (h : K f w) : Fl P ops K [] f w := h
/-- An operation whose guard says no. -/
theorem Fl_pass {o : Oper} (hg : gd ops f o = false) (h : Fl P ops K rest (updO f o.dst undef) w) : Fl P ops K (o :: rest) f w := by
  simp only [Fl, hg, Bool.false_eq_true, if_false]
  exact h

theorem s_move {x : Operand} (h : Fl P ops K rest (upd f d (ev f x)) w) : Fl P ops K (⟨some d, .move x, ty, pos, af, none⟩ :: rest) f w := Fl_val rfl r_move h
theorem s_assign {x : Operand} (h : Fl P ops K rest (upd f d (ev f x)) w) : Fl P ops K (⟨some d, .assign x, ty, pos, af, none⟩ :: rest) f w := Fl_val rfl r_assign h
theorem s_pick {c x y : Operand} {b : Bool} (hc : ev f c = .bool b) (h : Fl P ops K rest (upd f d (bif b then ev f x else ev f y)) w) : Fl P ops K (⟨some d, .pick c x y, ty, pos, af, none⟩ :: rest) f w := Fl_val rfl (r_pick hc) h
theorem s_nilP {x : Operand} {a : Addr} (hx : ev f x = .pointer (some a)) (h : Fl P ops K rest (upd f d (.pointer (some a))) w) : Fl P ops K (⟨some d, .nilCheck x, ty, pos, af, none⟩ :: rest) f w := Fl_val rfl (r_nilP hx) h
theorem s_not {x : Operand} {t : TypeId} {b : Bool} (hx : ev f x = .bool b) (h : Fl P ops K rest (upd f d (.bool !b)) w) : Fl P ops K (⟨some d, .unOp .not t x, ty, pos, af, none⟩ :: rest) f w := Fl_val rfl (r_not hx) h
/-- A field whose offset is its number (every field ahead of it is of one cell), of a struct that begins its block. -/
theorem s_field {x : Operand} {s : TypeId} {k b : Nat} (hx : ev f x = .pointer (some ⟨b, 0, none⟩)) (ht : fOff P s k = some k) (h : Fl P ops K rest (upd f d (.pointer (some ⟨b, k, none⟩))) w) :
    Fl P ops K (⟨some d, .fieldAddr s x k, ty, pos, af, none⟩ :: rest) f w := Fl_val rfl (r_field0 hx ht) h
theorem s_fieldO {x : Operand} {s : TypeId} {k b o : Nat} (hx : ev f x = .pointer (some ⟨b, o, none⟩)) (ht : fOff P s k = some k) (h : Fl P ops K rest (upd f d (.pointer (some ⟨b, o + k, none⟩))) w) :
    Fl P ops K (⟨some d, .fieldAddr s x k, ty, pos, af, none⟩ :: rest) f w := Fl_val rfl (r_field hx ht) h
theorem s_index {x ix : Operand} {t : TypeId} {b n cap i : Nat} {z : Int} {k : IntKind} (hx : ev f x = .slice (some ⟨b, 0, none⟩) n cap) (hi : ev f ix = .int k z) (hz : z = (i : Int)) (hlt : i < n)
    (ht : sl P t = some 1) (h : Fl P ops K rest (upd f d (.pointer (some ⟨b, i, none⟩))) w) : Fl P ops K (⟨some d, .indexAddr t x ix, ty, pos, af, none⟩ :: rest) f w := Fl_val rfl (r_index1 hx hi hz hlt ht) h
theorem s_lenS {x : Operand} {t : TypeId} {n cap : Nat} {a : Option Addr} (hx : ev f x = .slice a n cap) (ht : (sl P t).isSome = true) (h : Fl P ops K rest (upd f d (.int .i64 n)) w) :
    Fl P ops K (⟨some d, .call ⟨.builtin .len, #[x], #[t]⟩, ty, pos, af, none⟩ :: rest) f w := Fl_val rfl (r_lenS hx ht) h
theorem s_add {x y : Operand} {t t' : TypeId} {a b : Int} (hx : ev f x = .int .i64 a) (hy : ev f y = .int .i64 b) (hr : -9223372036854775808 ≤ a + b ∧ a + b ≤ 9223372036854775807) (h : Fl P ops K rest (upd f d (.int .i64 (a + b))) w) :
    Fl P ops K (⟨some d, .binOp .add t x y t', ty, pos, af, none⟩ :: rest) f w := Fl_val rfl (r_add hx hy hr) h
theorem s_sub {x y : Operand} {t t' : TypeId} {a b : Int} (hx : ev f x = .int .i64 a) (hy : ev f y = .int .i64 b) (hr : -9223372036854775808 ≤ a - b ∧ a - b ≤ 9223372036854775807) (h : Fl P ops K rest (upd f d (.int .i64 (a - b))) w) :
    Fl P ops K (⟨some d, .binOp .sub t x y t', ty, pos, af, none⟩ :: rest) f w := Fl_val rfl (r_sub hx hy hr) h
theorem s_mul {x y : Operand} {t t' : TypeId} {a b : Int} (hx : ev f x = .int .i64 a) (hy : ev f y = .int .i64 b) (hr : -9223372036854775808 ≤ a * b ∧ a * b ≤ 9223372036854775807) (h : Fl P ops K rest (upd f d (.int .i64 (a * b))) w) :
    Fl P ops K (⟨some d, .binOp .mul t x y t', ty, pos, af, none⟩ :: rest) f w := Fl_val rfl (r_mul hx hy hr) h
theorem s_quo {x y : Operand} {t t' : TypeId} {a b : Int} (hx : ev f x = .int .i64 a) (hy : ev f y = .int .i64 b) (ha : 0 ≤ a) (ha' : a ≤ 9223372036854775807) (hb : 1 ≤ b) (h : Fl P ops K rest (upd f d (.int .i64 (a / b))) w) :
    Fl P ops K (⟨some d, .binOp .quo t x y t', ty, pos, af, none⟩ :: rest) f w := Fl_val rfl (r_quo hx hy ha ha' hb) h
theorem s_rem {x y : Operand} {t t' : TypeId} {a b : Int} (hx : ev f x = .int .i64 a) (hy : ev f y = .int .i64 b) (hb : b ≠ 0) (h : Fl P ops K rest (upd f d (.int .i64 (a.tmod b))) w) :
    Fl P ops K (⟨some d, .binOp .rem t x y t', ty, pos, af, none⟩ :: rest) f w := Fl_val rfl (r_rem hx hy hb) h
theorem s_lss {x y : Operand} {t t' : TypeId} {k : IntKind} {a b : Int} (hx : ev f x = .int k a) (hy : ev f y = .int k b) (h : Fl P ops K rest (upd f d (.bool (decide (a < b)))) w) :
    Fl P ops K (⟨some d, .binOp .lss t x y t', ty, pos, af, none⟩ :: rest) f w := Fl_val rfl (r_lss hx hy) h
theorem s_leq {x y : Operand} {t t' : TypeId} {k : IntKind} {a b : Int} (hx : ev f x = .int k a) (hy : ev f y = .int k b) (h : Fl P ops K rest (upd f d (.bool (decide (a ≤ b)))) w) :
    Fl P ops K (⟨some d, .binOp .leq t x y t', ty, pos, af, none⟩ :: rest) f w := Fl_val rfl (r_leq hx hy) h
theorem s_gtr {x y : Operand} {t t' : TypeId} {k : IntKind} {a b : Int} (hx : ev f x = .int k a) (hy : ev f y = .int k b) (h : Fl P ops K rest (upd f d (.bool (decide (b < a)))) w) :
    Fl P ops K (⟨some d, .binOp .gtr t x y t', ty, pos, af, none⟩ :: rest) f w := Fl_val rfl (r_gtr hx hy) h
theorem s_geq {x y : Operand} {t t' : TypeId} {k : IntKind} {a b : Int} (hx : ev f x = .int k a) (hy : ev f y = .int k b) (h : Fl P ops K rest (upd f d (.bool (decide (b ≤ a)))) w) :
    Fl P ops K (⟨some d, .binOp .geq t x y t', ty, pos, af, none⟩ :: rest) f w := Fl_val rfl (r_geq hx hy) h
theorem s_eql {x y : Operand} {t t' : TypeId} {k : IntKind} {a b : Int} (hx : ev f x = .int k a) (hy : ev f y = .int k b) (h : Fl P ops K rest (upd f d (.bool (decide (a = b)))) w) :
    Fl P ops K (⟨some d, .binOp .eql t x y t', ty, pos, af, none⟩ :: rest) f w := Fl_val rfl (r_eql hx hy) h
theorem s_neq {x y : Operand} {t t' : TypeId} {k : IntKind} {a b : Int} (hx : ev f x = .int k a) (hy : ev f y = .int k b) (h : Fl P ops K rest (upd f d (.bool (decide (a ≠ b)))) w) :
    Fl P ops K (⟨some d, .binOp .neq t x y t', ty, pos, af, none⟩ :: rest) f w := Fl_val rfl (r_neq hx hy) h
theorem s_eqlNilS {x : Operand} {t t' : TypeId} {n cap : Nat} {a : Option Addr} (hx : ev f x = .slice a n cap) (ht : (sl P t).isSome = true) (h : Fl P ops K rest (upd f d (.bool a.isNone)) w) :
    Fl P ops K (⟨some d, .binOp .eql t x (.const (.slice none 0 0)) t', ty, pos, af, none⟩ :: rest) f w := Fl_val rfl (r_eqlNilS hx ht) h
theorem s_conv32 {x : Operand} {t t' : TypeId} {k : IntKind} {a : Int} (hx : ev f x = .int k a) (hs : (P.underlying t).isSome = true) (hu : P.underlying t' = some (.int .i32)) (h1 : -2147483648 ≤ a ∧ a ≤ 2147483647) (h : Fl P ops K rest (upd f d (.int .i32 a)) w) :
    Fl P ops K (⟨some d, .convert t t' x, ty, pos, af, none⟩ :: rest) f w := Fl_val rfl (r_conv32 hx hs hu h1) h
theorem s_conv64 {x : Operand} {t t' : TypeId} {k : IntKind} {a : Int} (hx : ev f x = .int k a) (hs : (P.underlying t).isSome = true) (hu : P.underlying t' = some (.int .i64)) (h1 : -9223372036854775808 ≤ a ∧ a ≤ 9223372036854775807) (h : Fl P ops K rest (upd f d (.int .i64 a)) w) :
    Fl P ops K (⟨some d, .convert t t' x, ty, pos, af, none⟩ :: rest) f w := Fl_val rfl (r_conv64 hx hs hu h1) h
theorem s_sliceTo {x y : Operand} {t : TypeId} {n cap i : Nat} {a : Option Addr} {z : Int} {k : IntKind} (hx : ev f x = .slice a n cap) (hh : ev f y = .int k z) (hz : z = (i : Int)) (hle : i ≤ cap) (ht : (sl P t).isSome = true) (h : Fl P ops K rest (upd f d (.slice a i cap)) w) :
    Fl P ops K (⟨some d, .slice t x none (some y) none, ty, pos, af, none⟩ :: rest) f w := Fl_val rfl (r_sliceTo hx hh hz hle ht) h
theorem s_load {x : Operand} {t : TypeId} {a : Addr} {v : Value} (hx : ev f x = .pointer (some a)) (ht : one P t = true) (hc : w.cell? a = some v) (h : Fl P ops K rest (upd f d v) w) :
    Fl P ops K (⟨some d, .load t x, ty, pos, af, none⟩ :: rest) f w := Fl_val rfl (r_load hx ht hc) h
theorem s_store {x y : Operand} {t : TypeId} {a : Addr} {v u : Value} (hx : ev f x = .pointer (some a)) (hy : ev f y = v) (ht : one P t = true) (hv : oc v = true) (hc : w.cell? a = some u) (hf : w.frozen? a = false)
    (h : Fl P ops K rest f (w.setCell a v)) : Fl P ops K (⟨none, .store t x y, ty, pos, af, none⟩ :: rest) f w := Fl_skip rfl (r_store hx hy ht hv hc hf) h

/-- A function with a body of its own. -/
def cOk (P : Program) (g : Nat) : Bool :=
  match P.funcs[g]? with
  | some fn => !(fn.name == "runtime.NumGoroutine") && fn.body.isSome
  | none => false
/-- A call of a function of the program, by its contract. -/
theorem r_call {dst : Option Tmp} {g : Nat} {args : Array Operand} {ats : Array TypeId} {gu : Option (Nat × Bool)} (hok : cOk P g = true) :
    (execOp (ev f) ⟨dst, .call ⟨.value (.func g), args, ats⟩, ty, pos, af, gu⟩).run P w = .ok (.enter g (args.map (ev f))) w := by
  unfold cOk at hok
  split at hok
  · rename_i fn hf
    simp only [Bool.and_eq_true, Bool.not_eq_true', beq_eq_false_iff_ne] at hok
    obtain ⟨hn, hb⟩ := hok
    have hb' : fn.body ≠ none := by intro h; rw [h] at hb; cases hb
    simp [execOp, resolve, Deferred.ofValue, ev, invoke, callFunc, program, Sem.run, hf, hn, hb']
  · cases hok
theorem s_call {g : Nat} {args : Array Operand} {ats : Array TypeId} {R : Ending → World → Prop} (hok : cOk P g = true)
    (hc : Calls P g (args.map (ev f)) w R) (h : ∀ e w', R e w' → ∃ v, e = .returned v ∧ Fl P ops K rest (upd f d v) w') :
    Fl P ops K (⟨some d, .call ⟨.value (.func g), args, ats⟩, ty, pos, af, none⟩ :: rest) f w := by
  have hr := r_call (P := P) (f := f) (w := w) (dst := some d) (ty := ty) (pos := pos) (af := af) (gu := none) (args := args) (ats := ats) hok
  have hg : gd ops f ⟨some d, .call ⟨.value (.func g), args, ats⟩, ty, pos, af, none⟩ = true := rfl
  simp only [Fl, hg, if_true, Fop, hr, Fupon]
  exact hc.mono h
/-- The same, the contract in the form that 'enter1' gives. -/
theorem s_call1 {g : Nat} {args : Array Operand} {ats : Array TypeId} {R : Value → World → Prop} (hok : cOk P g = true)
    (hc : Calls P g (args.map (ev f)) w fun e w' => ∃ v, e = .returned v ∧ R v w') (h : ∀ v w', R v w' → Fl P ops K rest (upd f d v) w') :
    Fl P ops K (⟨some d, .call ⟨.value (.func g), args, ats⟩, ty, pos, af, none⟩ :: rest) f w :=
  s_call hok hc fun _ w' ⟨v, he, hr⟩ => ⟨v, he, h v w' hr⟩
/-! calls by the number of their arguments -/
theorem r_c1 {dst : Option Tmp} {g : Nat} {x : Operand} {a : Value} {ats : Array TypeId} {gu : Option (Nat × Bool)} (hok : cOk P g = true) (hx : ev f x = a) :
    (execOp (ev f) ⟨dst, .call ⟨.value (.func g), #[x], ats⟩, ty, pos, af, gu⟩).run P w = .ok (.enter g #[a]) w := by rw [r_call hok]; simp [hx]
theorem r_c2 {dst : Option Tmp} {g : Nat} {x y : Operand} {a b : Value} {ats : Array TypeId} {gu : Option (Nat × Bool)} (hok : cOk P g = true) (hx : ev f x = a) (hy : ev f y = b) :
    (execOp (ev f) ⟨dst, .call ⟨.value (.func g), #[x, y], ats⟩, ty, pos, af, gu⟩).run P w = .ok (.enter g #[a, b]) w := by rw [r_call hok]; simp [hx, hy]
theorem r_c3 {dst : Option Tmp} {g : Nat} {x y z : Operand} {a b c : Value} {ats : Array TypeId} {gu : Option (Nat × Bool)} (hok : cOk P g = true) (hx : ev f x = a) (hy : ev f y = b) (hz : ev f z = c) :
    (execOp (ev f) ⟨dst, .call ⟨.value (.func g), #[x, y, z], ats⟩, ty, pos, af, gu⟩).run P w = .ok (.enter g #[a, b, c]) w := by rw [r_call hok]; simp [hx, hy, hz]
theorem s_c1 {g : Nat} {x : Operand} {a : Value} {ats : Array TypeId} {R : Value → World → Prop} (hok : cOk P g = true) (hx : ev f x = a) (hc : Calls P g #[a] w fun e w' => ∃ v, e = .returned v ∧ R v w') (h : ∀ v w', R v w' → Fl P ops K rest (upd f d v) w') :
    Fl P ops K (⟨some d, .call ⟨.value (.func g), #[x], ats⟩, ty, pos, af, none⟩ :: rest) f w := by
  refine s_call1 hok ?_ h
  have : Array.map (ev f) #[x] = #[a] := by simp [hx]
  rw [this]; exact hc
theorem s_c2 {g : Nat} {x y : Operand} {a b : Value} {ats : Array TypeId} {R : Value → World → Prop} (hok : cOk P g = true) (hx : ev f x = a) (hy : ev f y = b) (hc : Calls P g #[a, b] w fun e w' => ∃ v, e = .returned v ∧ R v w') (h : ∀ v w', R v w' → Fl P ops K rest (upd f d v) w') :
    Fl P ops K (⟨some d, .call ⟨.value (.func g), #[x, y], ats⟩, ty, pos, af, none⟩ :: rest) f w := by
  refine s_call1 hok ?_ h
  have : Array.map (ev f) #[x, y] = #[a, b] := by simp [hx, hy]
  rw [this]; exact hc
theorem s_c3 {g : Nat} {x y z : Operand} {a b c : Value} {ats : Array TypeId} {R : Value → World → Prop} (hok : cOk P g = true) (hx : ev f x = a) (hy : ev f y = b) (hz : ev f z = c) (hc : Calls P g #[a, b, c] w fun e w' => ∃ v, e = .returned v ∧ R v w') (h : ∀ v w', R v w' → Fl P ops K rest (upd f d v) w') :
    Fl P ops K (⟨some d, .call ⟨.value (.func g), #[x, y, z], ats⟩, ty, pos, af, none⟩ :: rest) f w := by
  refine s_call1 hok ?_ h
  have : Array.map (ev f) #[x, y, z] = #[a, b, c] := by simp [hx, hy, hz]
  rw [this]; exact hc
end

/-! ### a function -/
def argF (args : List Value) (i : Nat) : Value := args.getD i undef
/-- What a function's body must come to: one result in a slot. -/
def bp1 (t : Nat) (R : Value → World → Prop) : Exit → (Nat → Value) → World → Prop
  | .normal, f, w | .ret, f, w => R (f t) w
  | _, _, _ => False
/-- No result. -/
def bp0 (R : World → Prop) : Exit → (Nat → Value) → World → Prop
  | .normal, _, w | .ret, _, w => R w
  | _, _, _ => False

theorem act_args (args : List Value) (N : Nat) (h : args.length ≤ N) : (⟨args.toArray ++ Array.replicate (N - args.toArray.size) undef, []⟩ : Act) = ofF N (argF args) := by
  unfold ofF
  congr 1
  apply Array.ext
  · simp; omega
  · intro i h1 h2
    simp at h2
    by_cases hi : i < args.length
    · simp [hi, argF]
    · simp [Array.getElem_append, hi, argF]

theorem enter1 {P : Program} {k : Nat} {fn : Func} {c : Code} {args : List Value} {w : World} {R : Value → World → Prop} {t N : Nat} (hf : P.funcs[k]? = some fn) (hb : fn.body = some c) (hN : fn.ntmps = N) (hres : fn.results = #[.tmp t])
    (hle : decide (args.length ≤ N) = true) (ht : decide (t < N) = true) (h : Cw P N c (bp1 t R) (argF args) w) : Calls P k args.toArray w fun e w' => ∃ v, e = .returned v ∧ R v w' := by
  refine calls_of_wp hf hb ?_
  rw [hN, act_args args N (of_decide_eq_true hle)]
  refine wp_mono h ?_
  rintro e a w' ⟨g, rfl, hk⟩
  have hr : (results fn (ofF N g).tmps).run P w' = .ok (g t) w' := by
    rw [results_tmp hres]
    have := ofF_get N g t (of_decide_eq_true ht)
    simp [this]
  cases e <;> first | exact ⟨rfl, _, hr, _, rfl, hk⟩ | exact hk.elim
theorem enter0 {P : Program} {k : Nat} {fn : Func} {c : Code} {args : List Value} {w : World} {R : World → Prop} {N : Nat} (hf : P.funcs[k]? = some fn) (hb : fn.body = some c) (hN : fn.ntmps = N) (hres : fn.results = #[])
    (hle : decide (args.length ≤ N) = true) (h : Cw P N c (bp0 R) (argF args) w) : Calls P k args.toArray w fun e w' => ∃ v, e = .returned v ∧ R w' := by
  refine calls_of_wp hf hb ?_
  rw [hN, act_args args N (of_decide_eq_true hle)]
  refine wp_mono h ?_
  rintro e a w' ⟨g, rfl, hk⟩
  have hr := results_none hres (ofF N g).tmps P w'
  cases e <;> first | exact ⟨rfl, _, hr, _, rfl, hk⟩ | exact hk.elim
end Go.Fw
