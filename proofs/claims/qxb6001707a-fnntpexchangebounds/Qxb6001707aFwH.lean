/-
  THE STEPPING FRAME, part 8: equality of strings, of pointers, of structs; structs in memory. Own work.
-/
import Derived.Test.Qxb6001707aFwG
namespace Go.Fw
theorem bytes_beq (a b : ByteArray) : (a == b) = decide (a = b) := by
  obtain ⟨x⟩ := a
  obtain ⟨y⟩ := b
  show (x == y) = _
  by_cases h : x = y
  · subst h; simp
  · rw [decide_eq_false (fun e => h (by cases e; rfl))]
    simp [h]
section
variable {P : Program} {ops : Array Oper} {K : (Nat → Value) → World → Prop} {rest : List Oper} {f : Nat → Value} {w : World} {d : Nat} {dst : Option Tmp} {ty : TypeId} {pos : String} {af : Array Edge} {gu : Option (Nat × Bool)}
theorem r_eqlStr {x y : Operand} {t t' : TypeId} {a b : ByteArray} (hx : ev f x = .string a) (hy : ev f y = .string b) : (execOp (ev f) ⟨dst, .binOp .eql t x y t', ty, pos, af, gu⟩).run P w = .ok (.value (.bool (decide (a = b)))) w := by
  refine r_bin hx hy (fun _ => by simp [eqGuard]) (fun w => ?_)
  rw [binOp_string_eql, Sem.run_pure, ← beq_toListBytes, bytes_beq]
theorem r_neqStr {x y : Operand} {t t' : TypeId} {a b : ByteArray} (hx : ev f x = .string a) (hy : ev f y = .string b) : (execOp (ev f) ⟨dst, .binOp .neq t x y t', ty, pos, af, gu⟩).run P w = .ok (.value (.bool (!decide (a = b)))) w := by
  refine r_bin hx hy (fun _ => by simp [eqGuard]) (fun w => ?_)
  rw [binOp_string_neq, Sem.run_pure, ← beq_toListBytes, bytes_beq]
/-! pointers -/
/-- nil, or at the head of a plain block. -/
def pk (w : World) (p : Option Addr) : Prop := ∀ a, p = some a → ∃ b c t, a = ⟨b, 0, none⟩ ∧ w.heap[b]? = some (.cells c t (0, 0))
theorem pk_none (w : World) : pk w none := fun _ h => by cases h
theorem pk.keep {w w' : World} {p : Option Addr} {ex : Nat → Prop} (h : pk w p) (hk : Keeps w w' ex) (hn : ∀ a, p = some a → ¬ ex a.block) : pk w' p := by
  intro a ha
  obtain ⟨b, c, t, rfl, hb⟩ := h a ha
  refine ⟨b, c, t, rfl, ?_⟩
  rw [hk.block b (Array.getElem?_eq_some_iff.1 hb).1 (hn _ ha)]
  exact hb
theorem eq_ptr {t e : TypeId} {i : TypeInfo} (ht : P.underlying t = some (.pointer e)) (hi : P.info? e = some i) (hs : i.size ≠ 0) {a b : Option Addr} (ha : pk w a) (hb : pk w b) (n : Nat) :
    (Op.equalIn (n + 1) t (.pointer a) (.pointer b)).run P w = .ok (decide (a = b)) w := by
  cases a with
  | none => cases b <;> simp [Op.equalIn, run_underlying ht]
  | some a => cases b with
    | none => simp [Op.equalIn, run_underlying ht]
    | some b =>
      obtain ⟨b1, c1, t1, e1, h1⟩ := ha a rfl
      obtain ⟨b2, c2, t2, e2, h2⟩ := hb b rfl
      by_cases h : a = b
      · subst h
        simp [Op.equalIn, run_underlying ht, sizeOf, typeInfo, hi, run_sameAddr_same]
      · have hr := run_sameAddr_other (P := P) w h (by rw [e1]; exact h1) (by rw [e2]; exact h2)
        simp [Op.equalIn, run_underlying ht, sizeOf, typeInfo, hi, hs, hr, h]
/-- A pointer type: what it points to has cells. -/
def ptrB (P : Program) (t : TypeId) : Bool :=
  match P.underlying t with
  | some (.pointer e) => match P.info? e with
    | some i => !(Nat.beq i.size 0)
    | none => false
  | _ => false
theorem ptrB_spec {P : Program} {t : TypeId} (h : ptrB P t = true) : ∃ e i, P.underlying t = some (.pointer e) ∧ P.info? e = some i ∧ i.size ≠ 0 := by
  unfold ptrB at h
  split at h
  · rename_i e he
    split at h
    · rename_i i hi
      refine ⟨e, i, he, hi, fun h0 => ?_⟩
      rw [h0] at h
      cases h
    · cases h
  · cases h
theorem r_eqlP {x y : Operand} {t t' : TypeId} {a b : Option Addr} (ht : ptrB P t = true) (hx : ev f x = .pointer a) (hy : ev f y = .pointer b) (ha : pk w a) (hb : pk w b) : (execOp (ev f) ⟨dst, .binOp .eql t x y t', ty, pos, af, gu⟩).run P w = .ok (.value (.bool (decide (a = b)))) w := by
  obtain ⟨e, i, h1, h2, h3⟩ := ptrB_spec ht
  have key := eq_ptr (w := w) h1 h2 h3 ha hb 9999
  have hg : (eqGuard .eql t x y (.pointer a) (.pointer b)).run P w = .ok () w := by simp [eqGuard]
  have hr : (binOp .eql t (.pointer a) (.pointer b)).run P w = .ok (.bool (decide (a = b))) w := by
    simp only [binOp]
    simp [Op.equal, Op.maxDepth, key]
  simp [execOp, hx, hy, hg, hr]
theorem r_neqP {x y : Operand} {t t' : TypeId} {a b : Option Addr} (ht : ptrB P t = true) (hx : ev f x = .pointer a) (hy : ev f y = .pointer b) (ha : pk w a) (hb : pk w b) : (execOp (ev f) ⟨dst, .binOp .neq t x y t', ty, pos, af, gu⟩).run P w = .ok (.value (.bool (!decide (a = b)))) w := by
  obtain ⟨e, i, h1, h2, h3⟩ := ptrB_spec ht
  have key := eq_ptr (w := w) h1 h2 h3 ha hb 9999
  have hg : (eqGuard .neq t x y (.pointer a) (.pointer b)).run P w = .ok () w := by simp [eqGuard]
  have hr : (binOp .neq t (.pointer a) (.pointer b)).run P w = .ok (.bool (!decide (a = b))) w := by
    simp only [binOp]
    simp [Op.equal, Op.maxDepth, key]
  simp [execOp, hx, hy, hg, hr]
/-! structs in memory -/
/-- A struct type of n cells. -/
def agB (P : Program) (t : TypeId) (n : Nat) : Bool :=
  match P.underlying t with
  | some (.struct _) => match P.info? t with
    | some i => Nat.beq i.size n
    | none => false
  | _ => false
theorem agB_spec {P : Program} {t : TypeId} {n : Nat} (h : agB P t n = true) : ∃ fs i, P.underlying t = some (.struct fs) ∧ P.info? t = some i ∧ i.size = n := by
  unfold agB at h
  split at h
  · rename_i fs he
    split at h
    · rename_i i hi
      exact ⟨fs, i, he, hi, Nat.eq_of_beq_eq_true h⟩
    · cases h
  · cases h
theorem r_loadA {x : Operand} {t : TypeId} {b o : Nat} {cs : List Value} (hx : ev f x = .pointer (some ⟨b, o, none⟩)) (ht : agB P t cs.length = true) (hc : ∀ (j : Nat) v, cs[j]? = some v → w.cell? ⟨b, o + j, none⟩ = some v) :
    (execOp (ev f) ⟨dst, .load t x, ty, pos, af, gu⟩).run P w = .ok (.value (.agg cs.toArray)) w := by
  obtain ⟨fs, i, h1, h2, h3⟩ := agB_spec ht
  have := run_loadAt_mid (P := P) w b o t cs _ hc h1 rfl (by simp [h2, h3])
  simp [execOp, hx, this]
theorem r_storeA {x y : Operand} {t : TypeId} {b o : Nat} {cs : List Value} (hx : ev f x = .pointer (some ⟨b, o, none⟩)) (hy : ev f y = .agg cs.toArray) (ht : agB P t cs.length = true) (hth : w.there b o cs.length) (hc : ∀ v ∈ cs, oc v = true) :
    (execOp (ev f) ⟨dst, .store t x y, ty, pos, af, gu⟩).run P w = .ok .skip (w.setCells b o cs) := by
  obtain ⟨fs, i, h1, h2, h3⟩ := agB_spec ht
  have := run_storeAt_mid (P := P) w b o t cs.toArray (by simpa using hth) (by simp [h2, h3]) (by
    rw [Array.all_eq_true_iff_forall_mem]
    intro v hv
    exact oc_oneCell' (hc v (by simpa using hv)))
  simp [execOp, hx, hy, this]
end
end Go.Fw
