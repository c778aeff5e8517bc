/-
  THE STEPPING FRAME, part 12: bits, conversions, division, min and max, interfaces, arrays, guarded calls. Own work.
-/
import Derived.Test.Qxb6001707aFwK
import Derived.Laws.Bits64
import Derived.WideLaws
namespace Go.Fw

/-! ### numbers -/
theorem wrap_u64_in {z : Int} (h1 : 0 ≤ z) (h2 : z < 18446744073709551616) : IntKind.u64.wrap z = z := by
  rw [IntKind.wrap_u64]; omega
theorem bv_nat {z : Int} (h1 : 0 ≤ z) (h2 : z < 18446744073709551616) : (BitVec.ofInt 64 z).toNat = z.toNat := by
  obtain ⟨n, rfl⟩ := Int.eq_ofNat_of_zero_le h1
  simp
  omega
theorem nat_and_top {n : Nat} (h : n < 2 ^ 63) : n &&& 2 ^ 63 = 0 := by
  apply Nat.eq_of_testBit_eq
  intro i
  rw [Nat.testBit_and, Nat.zero_testBit, Nat.testBit_two_pow]
  by_cases hi : 63 = i
  · subst hi
    simp [Nat.testBit_lt_two_pow h]
  · simp [hi]
theorem nat_and_low {n : Nat} (h : n < 2 ^ 30) : n &&& 1073741823 = n := by
  have := Nat.and_two_pow_sub_one_eq_mod n 30
  rw [Nat.mod_eq_of_lt h] at this
  exact this
theorem nat_and_high {n : Nat} (h : n < 2 ^ 30) : n &&& (2 ^ 30 * (2 ^ 34 - 1)) = 0 := by
  apply Nat.eq_of_testBit_eq
  intro i
  rw [Nat.testBit_and, Nat.zero_testBit, Nat.testBit_two_pow_mul]
  by_cases hi : i < 30
  · have : decide (30 ≤ i) = false := decide_eq_false (by omega)
    simp [this]
  · have : n.testBit i = false := Nat.testBit_lt_two_pow (Nat.lt_of_lt_of_le h (Nat.pow_le_pow_right (by omega) (by omega)))
    simp [this]
section
variable {P : Program} {ops : Array Oper} {K : (Nat → Value) → World → Prop} {rest : List Oper} {f : Nat → Value} {w : World} {d : Nat} {dst : Option Tmp} {ty : TypeId} {pos : String} {af : Array Edge} {gu : Option (Nat × Bool)}

theorem r_bits {op : BinOp} {x y : Operand} {t t' : TypeId} {a b : Int} {v : Value} (hop : op = .and ∨ op = .or ∨ op = .andNot) (hx : ev f x = .int .u64 a) (hy : ev f y = .int .u64 b) (hv : Op.intBits op .u64 a b = pure v) :
    (execOp (ev f) ⟨dst, .binOp op t x y t', ty, pos, af, gu⟩).run P w = .ok (.value v) w := by
  refine r_bin hx hy (fun _ => ?_) (fun _ => ?_)
  · rcases hop with rfl | rfl | rfl <;> simp [eqGuard]
  · rcases hop with rfl | rfl | rfl <;> simp [binOp, hv]
/-- a & 1<<63, the bit not set. -/
theorem r_andTop {x : Operand} {t t' : TypeId} {a : Int} (hx : ev f x = .int .u64 a) (h0 : 0 ≤ a) (h1 : a < 9223372036854775808) :
    (execOp (ev f) ⟨dst, .binOp .and t x (.const (.int .u64 9223372036854775808)) t', ty, pos, af, gu⟩).run P w = .ok (.value (.int .u64 0)) w := by
  refine r_bits (.inl rfl) hx rfl ?_
  have e : (BitVec.ofInt 64 a &&& BitVec.ofInt 64 9223372036854775808).toNat = 0 := by
    rw [BitVec.toNat_and, bv_nat h0 (by omega), bv_nat (by omega) (by omega)]
    exact nat_and_top (by omega)
  show pure (Value.int .u64 (IntKind.u64.wrap ((BitVec.ofInt 64 a &&& BitVec.ofInt 64 9223372036854775808).toNat : Int))) = _
  rw [e]
  rfl
/-- a & (1<<30 - 1), a below. -/
theorem r_andLow {x : Operand} {t t' : TypeId} {a : Int} (hx : ev f x = .int .u64 a) (h0 : 0 ≤ a) (h1 : a < 1073741824) :
    (execOp (ev f) ⟨dst, .binOp .and t x (.const (.int .u64 1073741823)) t', ty, pos, af, gu⟩).run P w = .ok (.value (.int .u64 a)) w := by
  refine r_bits (.inl rfl) hx rfl ?_
  have e : (BitVec.ofInt 64 a &&& BitVec.ofInt 64 1073741823).toNat = a.toNat := by
    rw [BitVec.toNat_and, bv_nat h0 (by omega), bv_nat (by omega) (by omega)]
    exact nat_and_low (by omega)
  show pure (Value.int .u64 (IntKind.u64.wrap ((BitVec.ofInt 64 a &&& BitVec.ofInt 64 1073741823).toNat : Int))) = _
  rw [e, wrap_u64_in (by omega) (by omega), Int.toNat_of_nonneg h0]
/-- a & b, a below 1<<63: some number below 1<<63. -/
theorem r_andAny {x y : Operand} {t t' : TypeId} {a b : Int} (hx : ev f x = .int .u64 a) (hy : ev f y = .int .u64 b) (h0 : 0 ≤ a) (h1 : a < 9223372036854775808) :
    ∃ c, 0 ≤ c ∧ c < 9223372036854775808 ∧ (execOp (ev f) ⟨dst, .binOp .and t x y t', ty, pos, af, gu⟩).run P w = .ok (.value (.int .u64 c)) w := by
  have hle : (BitVec.ofInt 64 a &&& BitVec.ofInt 64 b).toNat ≤ a.toNat := by
    rw [BitVec.toNat_and, bv_nat h0 (by omega)]
    exact Nat.and_le_left
  refine ⟨((BitVec.ofInt 64 a &&& BitVec.ofInt 64 b).toNat : Int), by omega, by omega, r_bits (.inl rfl) hx hy ?_⟩
  show pure (Value.int .u64 (IntKind.u64.wrap ((BitVec.ofInt 64 a &&& BitVec.ofInt 64 b).toNat : Int))) = _
  rw [wrap_u64_in (by omega) (by omega)]
/-- a &^ (1<<30 - 1), a below. -/
theorem r_andNotLow {x : Operand} {t t' : TypeId} {a : Int} (hx : ev f x = .int .u64 a) (h0 : 0 ≤ a) (h1 : a < 1073741824) :
    (execOp (ev f) ⟨dst, .binOp .andNot t x (.const (.int .u64 1073741823)) t', ty, pos, af, gu⟩).run P w = .ok (.value (.int .u64 0)) w := by
  refine r_bits (.inr (.inr rfl)) hx rfl ?_
  have e : (BitVec.ofInt 64 a &&& ~~~ BitVec.ofInt 64 1073741823).toNat = 0 := by
    rw [BitVec.toNat_and, bv_nat h0 (by omega), BitVec.toNat_not, bv_nat (by omega) (by omega)]
    exact nat_and_high (by omega)
  show pure (Value.int .u64 (IntKind.u64.wrap ((BitVec.ofInt 64 a &&& ~~~ BitVec.ofInt 64 1073741823).toNat : Int))) = _
  rw [e]
  rfl
/-- 0 | b. -/
theorem r_orZero {x y : Operand} {t t' : TypeId} {b : Int} (hx : ev f x = .int .u64 0) (hy : ev f y = .int .u64 b) (h0 : 0 ≤ b) (h1 : b < 18446744073709551616) :
    (execOp (ev f) ⟨dst, .binOp .or t x y t', ty, pos, af, gu⟩).run P w = .ok (.value (.int .u64 b)) w := by
  refine r_bits (.inr (.inl rfl)) hx hy ?_
  have e : (BitVec.ofInt 64 0 ||| BitVec.ofInt 64 b).toNat = b.toNat := by
    rw [BitVec.toNat_or, bv_nat h0 h1, bv_nat (by omega) (by omega)]
    simp
  show pure (Value.int .u64 (IntKind.u64.wrap ((BitVec.ofInt 64 0 ||| BitVec.ofInt 64 b).toNat : Int))) = _
  rw [e, wrap_u64_in (by omega) (by omega), Int.toNat_of_nonneg h0]
/-- A conversion between integers; what the wrap comes to is told. -/
theorem r_convZ {x : Operand} {t t' : TypeId} {k k' : IntKind} {a z : Int} (hx : ev f x = .int k a) (hs : (P.underlying t).isSome = true) (hu : P.underlying t' = some (.int k')) (hz : k'.wrap a = z) :
    (execOp (ev f) ⟨dst, .convert t t' x, ty, pos, af, gu⟩).run P w = .ok (.value (.int k' z)) w := by
  obtain ⟨dd, hd⟩ := Option.isSome_iff_exists.1 hs
  simp [execOp, hx, convert, run_underlying hd, run_underlying hu, Conv.intToInt, hz]
theorem r_addZ {x y : Operand} {t t' : TypeId} {k : IntKind} {a b z : Int} (hx : ev f x = .int k a) (hy : ev f y = .int k b) (hz : k.wrap (a + b) = z) :
    (execOp (ev f) ⟨dst, .binOp .add t x y t', ty, pos, af, gu⟩).run P w = .ok (.value (.int k z)) w :=
  r_bin hx hy (fun _ => by simp [eqGuard]) (fun _ => by simp [binOp, Op.intArith, hz])
theorem r_subZ {x y : Operand} {t t' : TypeId} {k : IntKind} {a b z : Int} (hx : ev f x = .int k a) (hy : ev f y = .int k b) (hz : k.wrap (a - b) = z) :
    (execOp (ev f) ⟨dst, .binOp .sub t x y t', ty, pos, af, gu⟩).run P w = .ok (.value (.int k z)) w :=
  r_bin hx hy (fun _ => by simp [eqGuard]) (fun _ => by simp [binOp, Op.intArith, hz])
theorem r_mulZ {x y : Operand} {t t' : TypeId} {k : IntKind} {a b z : Int} (hx : ev f x = .int k a) (hy : ev f y = .int k b) (hz : k.wrap (a * b) = z) :
    (execOp (ev f) ⟨dst, .binOp .mul t x y t', ty, pos, af, gu⟩).run P w = .ok (.value (.int k z)) w :=
  r_bin hx hy (fun _ => by simp [eqGuard]) (fun _ => by simp [binOp, Op.intArith, hz])
theorem r_quoZ {x y : Operand} {t t' : TypeId} {k : IntKind} {a b z : Int} (hx : ev f x = .int k a) (hy : ev f y = .int k b) (hb : b ≠ 0) (hz : k.wrap (a.tdiv b) = z) :
    (execOp (ev f) ⟨dst, .binOp .quo t x y t', ty, pos, af, gu⟩).run P w = .ok (.value (.int k z)) w :=
  r_bin hx hy (fun _ => by simp [eqGuard]) (fun _ => by simp [binOp, Op.intDiv, hb, hz])
theorem r_min {x y : Operand} {ts : Array TypeId} {k : IntKind} {a b z : Int} (hx : ev f x = .int k a) (hy : ev f y = .int k b) (hz : (if b < a then b else a) = z) :
    (execOp (ev f) ⟨dst, .call ⟨.builtin .min, #[x, y], ts⟩, ty, pos, af, gu⟩).run P w = .ok (.value (.int k z)) w := by
  simp [execOp, resolve, invoke, builtin, Builtin.min_, Builtin.min2, hx, hy, hz]
theorem r_max {x y : Operand} {ts : Array TypeId} {k : IntKind} {a b z : Int} (hx : ev f x = .int k a) (hy : ev f y = .int k b) (hz : (if a < b then b else a) = z) :
    (execOp (ev f) ⟨dst, .call ⟨.builtin .max, #[x, y], ts⟩, ty, pos, af, gu⟩).run P w = .ok (.value (.int k z)) w := by
  simp [execOp, resolve, invoke, builtin, Builtin.max_, Builtin.max2, hx, hy, hz]

/-! ### interfaces -/
def ifB (P : Program) (t : TypeId) : Bool :=
  match P.underlying t with
  | some (.interface _) => true
  | _ => false
theorem r_mkIface {x : Operand} {t : TypeId} {v : Value} (hx : ev f x = v) (ht : ptrB P t = true) : (execOp (ev f) ⟨dst, .makeInterface t x, ty, pos, af, gu⟩).run P w = .ok (.value (.iface t v)) w := by
  obtain ⟨e, i, h1, _⟩ := ptrB_spec ht
  simp [execOp, hx, Instr.makeInterface, run_underlying h1]
theorem ifB_spec {P : Program} {t : TypeId} (h : ifB P t = true) : ∃ ms, P.underlying t = some (.interface ms) := by
  unfold ifB at h
  split at h
  · rename_i ms hm; exact ⟨ms, hm⟩
  · cases h
theorem r_eqlNil {x : Operand} {t t' : TypeId} (ht : ifB P t = true) (hx : ev f x = .nilIface) : (execOp (ev f) ⟨dst, .binOp .eql t x (.const .nilIface) t', ty, pos, af, gu⟩).run P w = .ok (.value (.bool true)) w := by
  obtain ⟨ms, hm⟩ := ifB_spec ht
  have key : ∀ (dep : Nat) (w : World), (Op.equalIn (dep + 1) t .nilIface .nilIface).run P w = .ok true w := by
    intro dep w
    simp [Op.equalIn, run_underlying hm]
  refine r_bin (v := .nilIface) hx rfl (fun _ => ?_) (fun w => ?_)
  · cases x <;> rfl
  simp only [binOp]
  simp [Op.equal, Op.maxDepth, key 9999]
theorem r_neqNil {x : Operand} {t t' : TypeId} (ht : ifB P t = true) (hx : ev f x = .nilIface) : (execOp (ev f) ⟨dst, .binOp .neq t x (.const .nilIface) t', ty, pos, af, gu⟩).run P w = .ok (.value (.bool false)) w := by
  obtain ⟨ms, hm⟩ := ifB_spec ht
  have key : ∀ (dep : Nat) (w : World), (Op.equalIn (dep + 1) t .nilIface .nilIface).run P w = .ok true w := by
    intro dep w
    simp [Op.equalIn, run_underlying hm]
  refine r_bin (v := .nilIface) hx rfl (fun _ => ?_) (fun w => ?_)
  · cases x <;> rfl
  simp only [binOp]
  simp [Op.equal, Op.maxDepth, key 9999]
theorem r_eqlHeld {x : Operand} {t t' u : TypeId} {v : Value} (ht : ifB P t = true) (hx : ev f x = .iface u v) : (execOp (ev f) ⟨dst, .binOp .eql t x (.const .nilIface) t', ty, pos, af, gu⟩).run P w = .ok (.value (.bool false)) w := by
  obtain ⟨ms, hm⟩ := ifB_spec ht
  have key : ∀ (dep : Nat) (w : World), (Op.equalIn (dep + 1) t (.iface u v) .nilIface).run P w = .ok false w := by
    intro dep w
    simp [Op.equalIn, run_underlying hm]
  refine r_bin (v := .nilIface) hx rfl (fun _ => ?_) (fun w => ?_)
  · cases x <;> rfl
  simp only [binOp]
  simp [Op.equal, Op.maxDepth, key 9999]
theorem r_neqHeld {x : Operand} {t t' u : TypeId} {v : Value} (ht : ifB P t = true) (hx : ev f x = .iface u v) : (execOp (ev f) ⟨dst, .binOp .neq t x (.const .nilIface) t', ty, pos, af, gu⟩).run P w = .ok (.value (.bool true)) w := by
  obtain ⟨ms, hm⟩ := ifB_spec ht
  have key : ∀ (dep : Nat) (w : World), (Op.equalIn (dep + 1) t (.iface u v) .nilIface).run P w = .ok false w := by
    intro dep w
    simp [Op.equalIn, run_underlying hm]
  refine r_bin (v := .nilIface) hx rfl (fun _ => ?_) (fun w => ?_)
  · cases x <;> rfl
  simp only [binOp]
  simp [Op.equal, Op.maxDepth, key 9999]
theorem r_eqlBB {x y : Operand} {t t' : TypeId} {a b c : Bool} (ht : P.underlying t = some .bool) (hx : ev f x = .bool a) (hy : ev f y = .bool b) (hc : (a == b) = c) :
    (execOp (ev f) ⟨dst, .binOp .eql t x y t', ty, pos, af, gu⟩).run P w = .ok (.value (.bool c)) w := by
  rw [r_eqlB ht hx hy, hc]
theorem r_neqBB {x y : Operand} {t t' : TypeId} {a b c : Bool} (ht : P.underlying t = some .bool) (hx : ev f x = .bool a) (hy : ev f y = .bool b) (hc : (a != b) = c) :
    (execOp (ev f) ⟨dst, .binOp .neq t x y t', ty, pos, af, gu⟩).run P w = .ok (.value (.bool c)) w := by
  rw [r_neqB ht hx hy, hc]
theorem r_leqB {x y : Operand} {t t' : TypeId} {k : IntKind} {a b : Int} {c : Bool} (hx : ev f x = .int k a) (hy : ev f y = .int k b) (hc : decide (a ≤ b) = c) : (execOp (ev f) ⟨dst, .binOp .leq t x y t', ty, pos, af, gu⟩).run P w = .ok (.value (.bool c)) w := by
  rw [r_leq hx hy, hc]
theorem r_geqB {x y : Operand} {t t' : TypeId} {k : IntKind} {a b : Int} {c : Bool} (hx : ev f x = .int k a) (hy : ev f y = .int k b) (hc : decide (b ≤ a) = c) : (execOp (ev f) ⟨dst, .binOp .geq t x y t', ty, pos, af, gu⟩).run P w = .ok (.value (.bool c)) w := by
  rw [r_geq hx hy, hc]

/-! ### arrays -/
def arB (P : Program) (t : TypeId) : Option (Nat × Nat) :=
  match P.underlying t with
  | some (.array n e) => match P.info? e with
    | some i => some (n, i.size)
    | none => none
  | _ => none
theorem r_indexArr {x ix : Operand} {t : TypeId} {s b o n i : Nat} {z : Int} {k : IntKind} (hx : ev f x = .pointer (some ⟨b, o, none⟩)) (hi : ev f ix = .int k z) (hz : z = (i : Int)) (hlt : i < n)
    (ht : arB P t = some (n, s)) : (execOp (ev f) ⟨dst, .indexAddr t x ix, ty, pos, af, gu⟩).run P w = .ok (.value (.pointer (some ⟨b, o + i * s, none⟩))) w := by
  unfold arB at ht
  split at ht
  · rename_i n' e he
    split at ht
    · rename_i inf hinf
      simp only [Option.some.injEq, Prod.mk.injEq] at ht
      obtain ⟨rfl, rfl⟩ := ht
      subst hz
      simp [execOp, hx, hi, Instr.indexAt, Instr.sureAddr, asIntOf, run_underlying he, hlt, run_size hinf, Addr.add]
    · cases ht
  · cases ht

/-! ### calls -/
theorem s_cvg {g : Nat} {xs : List Operand} {vs : List Value} {ats : Array TypeId} {R : Value → World → Prop} (hgd : gd ops f ⟨some d, .call ⟨.value (.func g), xs.toArray, ats⟩, ty, pos, af, gu⟩ = true) (hok : cOk P g = true) (hv : xs.map (ev f) = vs) (hc : Calls P g vs.toArray w fun e w' => ∃ v, e = .returned v ∧ R v w') (h : ∀ v w', R v w' → Fl P ops K rest (upd f d v) w') :
    Fl P ops K (⟨some d, .call ⟨.value (.func g), xs.toArray, ats⟩, ty, pos, af, gu⟩ :: rest) f w := by
  have hr := r_call (P := P) (f := f) (w := w) (dst := some d) (ty := ty) (pos := pos) (af := af) (gu := gu) (args := xs.toArray) (ats := ats) hok
  have hv' : Array.map (ev f) xs.toArray = vs.toArray := by rw [List.map_toArray, hv]
  rw [hv'] at hr
  simp only [Fl, hgd, if_true, Fop, hr, Fupon]
  exact hc.mono fun e w' ⟨v, he, hr⟩ => ⟨v, he, h v w' hr⟩
/-- Forget all of the frame but these, inside a region. -/
theorem Fl_fr (L : List (Nat × Value)) (hk : known f L) (h : ∀ g, Fl P ops K rest (sets L g) w) : Fl P ops K rest f w := by
  obtain ⟨g, hg⟩ := sets_ex L hk
  rw [hg]
  exact h g
/-! ### a field of a variable -/
theorem sv_setk {w : World} {b k : Nat} {e : TypeId} {cs : List Value} (h : sv w b e cs) (v : Value) (hk : k < cs.length) : sv (w.setCell ⟨b, k, none⟩ v) b e (cs.set k v) := by
  have h1 := arr.set h k v
  unfold sv
  rw [List.length_set]
  refine h1.congr (fun i hi => ?_)
  by_cases hik : i = k
  · subst hik
    rw [upd_same]
    simp [List.getD, hk]
  · rw [upd_ne _ _ hik]
    simp [List.getD, List.getElem?_set_ne (Ne.symm hik)]
theorem s_storeK {x y : Operand} {t e : TypeId} {b k : Nat} {cs cs' : List Value} {v : Value} (hx : ev f x = .pointer (some ⟨b, k, none⟩)) (hy : ev f y = v) (ht : one P t = true) (hv : oc v = true) (hs : sv w b e cs) (hk : k < cs.length) (hcs : cs.set k v = cs')
    (h : ∀ w', sv w' b e cs' → Keeps w w' (fun j => j = b) → w'.heap.size = w.heap.size → Fl P ops K rest f w') : Fl P ops K (⟨none, .store t x y, ty, pos, af, none⟩ :: rest) f w := by
  refine s_store hx hy ht hv (arr.cell hs hk) (arr.frozen hs k) (h _ ?_ (Keeps.setCell w ⟨b, k, none⟩ v) (size_setCell _ _ _))
  rw [← hcs]
  exact sv_setk hs v hk
end
/-- A store of a struct, where it comes up alone in a region that draws. -/
theorem o2sV {P : Program} {ops : Array Oper} {S : World → Prop} {asks : List Nat} {K : (Nat → Value) → World → Prop} {rest : List (Nat × Nat)} {f : Nat → Value} {w : World} {i : Nat} {ty : TypeId} {pos : String} {af : Array Edge} {x y : Operand} {t e : TypeId} {b : Nat} {cs cs' : List Value}
    (ho : ops[i]? = some ⟨none, .store t x y, ty, pos, af, none⟩) (hx : ev f x = .pointer (some ⟨b, 0, none⟩)) (hy : ev f y = .agg cs'.toArray) (ht : agB P t cs'.length = true) (hl : cs'.length = cs.length) (hc : ∀ v ∈ cs', oc v = true) (hv : sv w b e cs)
    (h : ∀ w', sv w' b e cs' → Keeps w w' (fun k => k = b) → (asks.contains i = true → S w → S w') ∧ Fo P ops S asks K rest f w') : Fo P ops S asks K ((i, 2) :: rest) f w := by
  have hth : w.there b 0 cs'.length := arr.there hv (by omega)
  obtain ⟨h1, h2⟩ := h _ (sv_set hv cs' hl) (keeps_setCells b cs' 0 w)
  exact o2s ho rfl (r_storeA hx hy ht hth hc) h1 h2
end Go.Fw
