/-
  THE STEPPING FRAME, part 2: the laws of the operations. Own work for this seat.
-/
import Derived.Test.Qxb6001707aFwA
import Derived.Laws.Entries
namespace Go.Fw

/-! ### the type table -/
/-- A type of one cell. -/
def one (P : Program) (t : TypeId) : Bool :=
  (match P.underlying t with
   | some (.struct _) | some (.array _ _) | none => false
   | some _ => true) && (match P.info? t with
   | some i => i.size == 1
   | none => false)
/-- The offset of a field of a struct that takes up cells. -/
def fOff (P : Program) (s : TypeId) (k : Nat) : Option Nat :=
  match P.underlying s with
  | some (.struct fs) => match fs[k]? with
    | some fd => match P.info? fd.type with
      | some i => if i.size = 0 then none else some fd.offset
      | none => none
    | none => none
  | _ => none
/-- A slice type: its element's cells. -/
def sl (P : Program) (t : TypeId) : Option Nat :=
  match P.underlying t with
  | some (.slice e) => match P.info? e with
    | some i => some i.size
    | none => none
  | _ => none

theorem one_spec {P : Program} {t : TypeId} (h : one P t = true) :
    (∃ d, P.underlying t = some d ∧ (∀ fs, d ≠ .struct fs) ∧ ∀ n e, d ≠ .array n e) ∧ ∃ i, P.info? t = some i ∧ i.size = 1 := by
  unfold one at h
  rw [Bool.and_eq_true] at h
  obtain ⟨h1, h2⟩ := h
  constructor
  · split at h1
    · cases h1
    · cases h1
    · cases h1
    · rename_i d hd1 hd2 hd3
      refine ⟨d, hd3, fun fs e => hd1 fs e, fun n e' e => hd2 n e' e⟩
  · split at h2
    · rename_i i hi
      exact ⟨i, hi, by simpa using h2⟩
    · cases h2
theorem sl_spec {P : Program} {t : TypeId} {s : Nat} (h : sl P t = some s) : ∃ e, P.underlying t = some (.slice e) ∧ ∃ i, P.info? e = some i ∧ i.size = s := by
  unfold sl at h
  split at h
  · rename_i e' he
    split at h
    · rename_i i hi
      simp only [Option.some.injEq] at h
      exact ⟨e', he, i, hi, h⟩
    · cases h
  · cases h
theorem sl_some {P : Program} {t : TypeId} (h : (sl P t).isSome = true) : ∃ e, P.underlying t = some (.slice e) ∧ ∃ i, P.info? e = some i := by
  obtain ⟨s, hs⟩ := Option.isSome_iff_exists.1 h
  obtain ⟨e, h1, i, h2, _⟩ := sl_spec hs
  exact ⟨e, h1, i, h2⟩

/-- A value of one cell. -/
def oc : Value → Bool
  | .agg _ | .tuple _ => false
  | _ => true
theorem run_info {P : Program} {t : TypeId} {i : TypeInfo} (h : P.info? t = some i) (w : World) : (typeInfo t).run P w = .ok i w := by
  simp [typeInfo, h]
theorem run_size {P : Program} {t : TypeId} {i : TypeInfo} (h : P.info? t = some i) (w : World) : (sizeOf t).run P w = .ok i.size w := by
  simp [sizeOf, run_info h]
section
variable {P : Program} {f : Nat → Value} {w : World} {d : Option Tmp} {ty : TypeId} {pos : String} {af : Array Edge} {g : Option (Nat × Bool)}

theorem r_move {x : Operand} : (execOp (ev f) ⟨d, .move x, ty, pos, af, g⟩).run P w = .ok (.value (ev f x)) w := rfl
theorem r_assign {x : Operand} : (execOp (ev f) ⟨d, .assign x, ty, pos, af, g⟩).run P w = .ok (.value (ev f x)) w := rfl
theorem r_pick {c x y : Operand} {b : Bool} (hc : ev f c = .bool b) : (execOp (ev f) ⟨d, .pick c x y, ty, pos, af, g⟩).run P w = .ok (.value (bif b then ev f x else ev f y)) w := by
  cases b <;> simp [execOp, hc, asBool]
theorem r_nilP {x : Operand} {a : Addr} (hx : ev f x = .pointer (some a)) : (execOp (ev f) ⟨d, .nilCheck x, ty, pos, af, g⟩).run P w = .ok (.value (.pointer (some a))) w := by
  simp [execOp, hx]
theorem r_not {x : Operand} {t : TypeId} {b : Bool} (hx : ev f x = .bool b) : (execOp (ev f) ⟨d, .unOp .not t x, ty, pos, af, g⟩).run P w = .ok (.value (.bool !b)) w := by
  simp [execOp, hx, Op.unary]
theorem r_field {x : Operand} {s : TypeId} {k b o off : Nat} (hx : ev f x = .pointer (some ⟨b, o, none⟩)) (ht : fOff P s k = some off) :
    (execOp (ev f) ⟨d, .fieldAddr s x k, ty, pos, af, g⟩).run P w = .ok (.value (.pointer (some ⟨b, o + off, none⟩))) w := by
  unfold fOff at ht
  split at ht
  · rename_i fs hs
    split at ht
    · rename_i fd hfd
      split at ht
      · rename_i i hi
        split at ht
        · cases ht
        · rename_i hne
          simp only [Option.some.injEq] at ht
          subst ht
          simp [execOp, hx, Instr.fieldAt, run_underlying hs, hfd, Instr.sureAddr, fieldPlace, run_size hi, hne, Addr.add]
      · cases ht
    · cases ht
  · cases ht
theorem r_field0 {x : Operand} {s : TypeId} {k b off : Nat} (hx : ev f x = .pointer (some ⟨b, 0, none⟩)) (ht : fOff P s k = some off) :
    (execOp (ev f) ⟨d, .fieldAddr s x k, ty, pos, af, g⟩).run P w = .ok (.value (.pointer (some ⟨b, off, none⟩))) w := by
  have := r_field (P := P) (f := f) (w := w) (d := d) (ty := ty) (pos := pos) (af := af) (g := g) hx ht
  simpa using this
/-- xs[i], xs a slice whose row begins at offset 0. -/
theorem r_index {x ix : Operand} {t : TypeId} {s b n cap i : Nat} {z : Int} {k : IntKind} (hx : ev f x = .slice (some ⟨b, 0, none⟩) n cap) (hi : ev f ix = .int k z) (hz : z = (i : Int)) (hlt : i < n)
    (ht : sl P t = some s) : (execOp (ev f) ⟨d, .indexAddr t x ix, ty, pos, af, g⟩).run P w = .ok (.value (.pointer (some ⟨b, i * s, none⟩))) w := by
  obtain ⟨e, hs, inf, hinf, hsz⟩ := sl_spec ht
  subst hz
  simp [execOp, hx, hi, Instr.indexAt, asIntOf, run_underlying hs, hlt, run_size hinf, hsz, Addr.add]
  intro h0
  exact h0.symm
theorem r_index1 {x ix : Operand} {t : TypeId} {b n cap i : Nat} {z : Int} {k : IntKind} (hx : ev f x = .slice (some ⟨b, 0, none⟩) n cap) (hi : ev f ix = .int k z) (hz : z = (i : Int)) (hlt : i < n)
    (ht : sl P t = some 1) : (execOp (ev f) ⟨d, .indexAddr t x ix, ty, pos, af, g⟩).run P w = .ok (.value (.pointer (some ⟨b, i, none⟩))) w := by
  have := r_index (P := P) (f := f) (w := w) (d := d) (ty := ty) (pos := pos) (af := af) (g := g) hx hi hz hlt ht
  simpa using this
theorem r_lenS {x : Operand} {t : TypeId} {n cap : Nat} {a : Option Addr} (hx : ev f x = .slice a n cap) (ht : (sl P t).isSome = true) :
    (execOp (ev f) ⟨d, .call ⟨.builtin .len, #[x], #[t]⟩, ty, pos, af, g⟩).run P w = .ok (.value (.int .i64 n)) w := by
  obtain ⟨_, hs, _⟩ := sl_some ht
  simp [execOp, resolve, invoke, builtin, Builtin.len_, hx, run_underlying hs, goInt]

/-! #### integers -/
theorem r_bin {op : BinOp} {x y : Operand} {t t' : TypeId} {u v r : Value} (hx : ev f x = u) (hy : ev f y = v) (hg : ∀ w, (eqGuard op t x y u v).run P w = .ok () w) (hr : ∀ w, (binOp op t u v).run P w = .ok r w) :
    (execOp (ev f) ⟨d, .binOp op t x y t', ty, pos, af, g⟩).run P w = .ok (.value r) w := by
  simp [execOp, hx, hy, hg, hr]
def in64 (z : Int) : Prop := -9223372036854775808 ≤ z ∧ z ≤ 9223372036854775807
def in32 (z : Int) : Prop := -2147483648 ≤ z ∧ z ≤ 2147483647
theorem wrap_in64 {z : Int} (h1 : -9223372036854775808 ≤ z) (h2 : z ≤ 9223372036854775807) : IntKind.i64.wrap z = z := by
  simp only [IntKind.wrap, IntKind.bits, IntKind.signed]
  simp
  split <;> omega
theorem wrap_in32 {z : Int} (h1 : -2147483648 ≤ z) (h2 : z ≤ 2147483647) : IntKind.i32.wrap z = z := by
  simp only [IntKind.wrap, IntKind.bits, IntKind.signed]
  simp
  split <;> omega
theorem r_add {x y : Operand} {t t' : TypeId} {a b : Int} (hx : ev f x = .int .i64 a) (hy : ev f y = .int .i64 b) (h : -9223372036854775808 ≤ a + b ∧ a + b ≤ 9223372036854775807) :
    (execOp (ev f) ⟨d, .binOp .add t x y t', ty, pos, af, g⟩).run P w = .ok (.value (.int .i64 (a + b))) w :=
  r_bin hx hy (fun _ => by simp [eqGuard]) (fun _ => by simp [binOp, Op.intArith, wrap_in64 h.1 h.2])
theorem r_sub {x y : Operand} {t t' : TypeId} {a b : Int} (hx : ev f x = .int .i64 a) (hy : ev f y = .int .i64 b) (h : -9223372036854775808 ≤ a - b ∧ a - b ≤ 9223372036854775807) :
    (execOp (ev f) ⟨d, .binOp .sub t x y t', ty, pos, af, g⟩).run P w = .ok (.value (.int .i64 (a - b))) w :=
  r_bin hx hy (fun _ => by simp [eqGuard]) (fun _ => by simp [binOp, Op.intArith, wrap_in64 h.1 h.2])
theorem r_mul {x y : Operand} {t t' : TypeId} {a b : Int} (hx : ev f x = .int .i64 a) (hy : ev f y = .int .i64 b) (h : -9223372036854775808 ≤ a * b ∧ a * b ≤ 9223372036854775807) :
    (execOp (ev f) ⟨d, .binOp .mul t x y t', ty, pos, af, g⟩).run P w = .ok (.value (.int .i64 (a * b))) w :=
  r_bin hx hy (fun _ => by simp [eqGuard]) (fun _ => by simp [binOp, Op.intArith, wrap_in64 h.1 h.2])
/-- '/' where nothing is negative. -/
theorem r_quo {x y : Operand} {t t' : TypeId} {a b : Int} (hx : ev f x = .int .i64 a) (hy : ev f y = .int .i64 b) (ha : 0 ≤ a) (ha' : a ≤ 9223372036854775807) (hb : 1 ≤ b) :
    (execOp (ev f) ⟨d, .binOp .quo t x y t', ty, pos, af, g⟩).run P w = .ok (.value (.int .i64 (a / b))) w := by
  have h0 : 0 ≤ a / b := Int.ediv_nonneg ha (by omega)
  have h1 : a / b ≤ a := Int.ediv_le_self b ha
  have hb0 : b ≠ 0 := by omega
  exact r_bin hx hy (fun _ => by simp [eqGuard]) (fun _ => by simp [binOp, Op.intDiv, hb0, Int.tdiv_eq_ediv_of_nonneg ha, wrap_in64 (z := a / b) (by omega) (by omega)])
/-- '%' as Go has it. -/
theorem r_rem {x y : Operand} {t t' : TypeId} {a b : Int} (hx : ev f x = .int .i64 a) (hy : ev f y = .int .i64 b) (hb : b ≠ 0) :
    (execOp (ev f) ⟨d, .binOp .rem t x y t', ty, pos, af, g⟩).run P w = .ok (.value (.int .i64 (a.tmod b))) w :=
  r_bin hx hy (fun _ => by simp [eqGuard]) (fun _ => by simp [binOp, Op.intDiv, hb])
theorem r_lss {x y : Operand} {t t' : TypeId} {k : IntKind} {a b : Int} (hx : ev f x = .int k a) (hy : ev f y = .int k b) :
    (execOp (ev f) ⟨d, .binOp .lss t x y t', ty, pos, af, g⟩).run P w = .ok (.value (.bool (decide (a < b)))) w :=
  r_bin hx hy (fun _ => by simp [eqGuard]) (fun _ => by simp [binOp, Op.intCmp])
theorem r_leq {x y : Operand} {t t' : TypeId} {k : IntKind} {a b : Int} (hx : ev f x = .int k a) (hy : ev f y = .int k b) :
    (execOp (ev f) ⟨d, .binOp .leq t x y t', ty, pos, af, g⟩).run P w = .ok (.value (.bool (decide (a ≤ b)))) w :=
  r_bin hx hy (fun _ => by simp [eqGuard]) (fun _ => by simp [binOp, Op.intCmp])
theorem r_gtr {x y : Operand} {t t' : TypeId} {k : IntKind} {a b : Int} (hx : ev f x = .int k a) (hy : ev f y = .int k b) :
    (execOp (ev f) ⟨d, .binOp .gtr t x y t', ty, pos, af, g⟩).run P w = .ok (.value (.bool (decide (b < a)))) w :=
  r_bin hx hy (fun _ => by simp [eqGuard]) (fun _ => by simp [binOp, Op.intCmp])
theorem r_geq {x y : Operand} {t t' : TypeId} {k : IntKind} {a b : Int} (hx : ev f x = .int k a) (hy : ev f y = .int k b) :
    (execOp (ev f) ⟨d, .binOp .geq t x y t', ty, pos, af, g⟩).run P w = .ok (.value (.bool (decide (b ≤ a)))) w :=
  r_bin hx hy (fun _ => by simp [eqGuard]) (fun _ => by simp [binOp, Op.intCmp])
theorem r_eql {x y : Operand} {t t' : TypeId} {k : IntKind} {a b : Int} (hx : ev f x = .int k a) (hy : ev f y = .int k b) :
    (execOp (ev f) ⟨d, .binOp .eql t x y t', ty, pos, af, g⟩).run P w = .ok (.value (.bool (decide (a = b)))) w :=
  r_bin hx hy (fun _ => by simp [eqGuard]) (fun _ => by simp only [binOp, Op.intCmp, ne_eq, not_true_eq_false, if_false, Sem.run_pure]; congr 2)
theorem r_neq {x y : Operand} {t t' : TypeId} {k : IntKind} {a b : Int} (hx : ev f x = .int k a) (hy : ev f y = .int k b) :
    (execOp (ev f) ⟨d, .binOp .neq t x y t', ty, pos, af, g⟩).run P w = .ok (.value (.bool (decide (a ≠ b)))) w :=
  r_bin hx hy (fun _ => by simp [eqGuard]) (fun _ => by simp only [binOp, Op.intCmp, ne_eq, not_true_eq_false, if_false, Sem.run_pure]; congr 2; by_cases h : a = b <;> simp [h])
/-- xs == nil at a slice. -/
theorem r_eqlNilS {x : Operand} {t t' : TypeId} {n cap : Nat} {a : Option Addr} (hx : ev f x = .slice a n cap) (ht : (sl P t).isSome = true) :
    (execOp (ev f) ⟨d, .binOp .eql t x (.const (.slice none 0 0)) t', ty, pos, af, g⟩).run P w = .ok (.value (.bool a.isNone)) w := by
  obtain ⟨_, hs, _⟩ := sl_some ht
  have key : ∀ (dep : Nat) (w : World), (Op.equalIn (dep + 1) t (.slice a n cap) (.slice none 0 0)).run P w = .ok a.isNone w := by
    intro dep w
    cases a <;> simp [Op.equalIn, run_underlying hs]
  refine r_bin (v := .slice none 0 0) hx rfl (fun _ => by simp [eqGuard]) (fun w => ?_)
  simp only [binOp]
  simp [Op.equal, Op.maxDepth, key 9999]
theorem r_conv32 {x : Operand} {t t' : TypeId} {k : IntKind} {a : Int} (hx : ev f x = .int k a) (hs : (P.underlying t).isSome = true) (hu : P.underlying t' = some (.int .i32)) (h1 : -2147483648 ≤ a ∧ a ≤ 2147483647) :
    (execOp (ev f) ⟨d, .convert t t' x, ty, pos, af, g⟩).run P w = .ok (.value (.int .i32 a)) w := by
  obtain ⟨dd, hd⟩ := Option.isSome_iff_exists.1 hs
  simp [execOp, hx, convert, run_underlying hd, run_underlying hu, Conv.intToInt, wrap_in32 h1.1 h1.2]
theorem r_conv64 {x : Operand} {t t' : TypeId} {k : IntKind} {a : Int} (hx : ev f x = .int k a) (hs : (P.underlying t).isSome = true) (hu : P.underlying t' = some (.int .i64)) (h1 : -9223372036854775808 ≤ a ∧ a ≤ 9223372036854775807) :
    (execOp (ev f) ⟨d, .convert t t' x, ty, pos, af, g⟩).run P w = .ok (.value (.int .i64 a)) w := by
  obtain ⟨dd, hd⟩ := Option.isSome_iff_exists.1 hs
  simp [execOp, hx, convert, run_underlying hd, run_underlying hu, Conv.intToInt, wrap_in64 h1.1 h1.2]
/-- xs[:h]. -/
theorem r_sliceTo {x h : Operand} {t : TypeId} {n cap i : Nat} {a : Option Addr} {z : Int} {k : IntKind} (hx : ev f x = .slice a n cap) (hh : ev f h = .int k z) (hz : z = (i : Int)) (hle : i ≤ cap) (ht : (sl P t).isSome = true) :
    (execOp (ev f) ⟨d, .slice t x none (some h) none, ty, pos, af, g⟩).run P w = .ok (.value (.slice a i cap)) w := by
  obtain ⟨_, hs, inf, hinf⟩ := sl_some ht
  subst hz
  have ha : Option.map (fun x : Addr => x.add 0) a = a := by cases a <;> simp [Addr.add]
  have h2 : (if cap = 0 then a else Option.map (fun x : Addr => x.add 0) a) = a := by rw [ha]; simp
  simp [execOp, hx, hh, Instr.sliceAt, Instr.slice, Instr.sliceBounds, Instr.sliceBound, asIntOf, run_underlying hs, hle, run_size hinf, h2]

/-! #### memory -/
theorem r_load {x : Operand} {t : TypeId} {a : Addr} {v : Value} (hx : ev f x = .pointer (some a)) (ht : one P t = true) (hc : w.cell? a = some v) :
    (execOp (ev f) ⟨d, .load t x, ty, pos, af, g⟩).run P w = .ok (.value v) w := by
  obtain ⟨⟨D, hD, h1, h2⟩, _⟩ := one_spec ht
  have hag : (isAgg t).run P w = .ok false w := by
    simp only [isAgg, Sem.run_bind, run_underlying hD, Result.andThen_ok]
    cases D <;> first | rfl | exact absurd rfl (h1 _) | exact absurd rfl (h2 _ _)
  simp [execOp, hx, Instr.loadAt, Instr.sureAddr, loadVar, hag, load, Sem.run, hc]
theorem r_store {x y : Operand} {t : TypeId} {a : Addr} {v u : Value} (hx : ev f x = .pointer (some a)) (hy : ev f y = v) (ht : one P t = true) (hv : oc v = true) (hc : w.cell? a = some u) (hf : w.frozen? a = false) :
    (execOp (ev f) ⟨d, .store t x y, ty, pos, af, g⟩).run P w = .ok .skip (w.setCell a v) := by
  obtain ⟨_, i, hi, hs⟩ := one_spec ht
  have hcs : v.cells = #[v] := by cases v <;> simp_all [oc, Value.cells]
  have hst : (store a v).run P w = .ok () (w.setCell a v) := by
    cases v <;> simp_all [store, Sem.run, oc]
  simp [execOp, hx, hy, Instr.storeAt, Instr.sureAddr, storeVar, run_size hi, hs, hcs, storeCells, Addr.add, hst]
end
end Go.Fw
