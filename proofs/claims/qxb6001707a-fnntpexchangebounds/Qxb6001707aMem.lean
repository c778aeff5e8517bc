/-
  MEMORY OF THIS PROGRAM: rows of int32, slices of such rows. Own work.
-/
import Derived.Test.Qxb6001707aFwE
namespace Go.Fw
open Go.RowKit

/-- A slice value over n numbers, told by a function; its block is one of R. -/
def irow (R : Nat → Prop) (w : World) (v : Value) (n : Nat) (c : Nat → Int) : Prop :=
  (v = .slice none 0 0 ∧ n = 0) ∨ ∃ b o cap, R b ∧ v = .slice (some ⟨b, o, none⟩) n cap ∧ ∀ i, i < n → w.cell? ⟨b, o + i, none⟩ = some (.int .i32 (c i))
/-- A slice of n such slices. -/
def irows (R : Nat → Prop) (w : World) (v : Value) (n : Nat) (len : Nat → Nat) (c : Nat → Nat → Int) : Prop :=
  (v = .slice none 0 0 ∧ n = 0) ∨ ∃ b o cap, R b ∧ v = .slice (some ⟨b, o, none⟩) n cap ∧ ∀ i, i < n → ∃ u, w.cell? ⟨b, o + i, none⟩ = some u ∧ irow R w u (len i) (c i)

theorem keep_cell {w w' : World} {ex : Nat → Prop} {a : Addr} {v : Value} (hk : Keeps w w' ex) (hn : ¬ ex a.block) (h : w.cell? a = some v) : w'.cell? a = some v := by
  rw [← h]
  exact World.cell?_of_block (hk.block a.block (World.block_lt_of_cell? w a h) hn)
theorem irow.keep {R : Nat → Prop} {w w' : World} {v : Value} {n : Nat} {c : Nat → Int} {ex : Nat → Prop} (h : irow R w v n c) (hk : Keeps w w' ex) (hn : ∀ k, R k → k < w.heap.size → ¬ ex k) : irow R w' v n c := by
  rcases h with h | ⟨b, o, cap, hR, hv, hc⟩
  · exact .inl h
  · refine .inr ⟨b, o, cap, hR, hv, fun i hi => ?_⟩
    have h1 := hc i hi
    exact keep_cell hk (hn b hR (World.block_lt_of_cell? w _ h1)) h1
theorem irows.keep {R : Nat → Prop} {w w' : World} {v : Value} {n : Nat} {len : Nat → Nat} {c : Nat → Nat → Int} {ex : Nat → Prop} (h : irows R w v n len c) (hk : Keeps w w' ex) (hn : ∀ k, R k → k < w.heap.size → ¬ ex k) : irows R w' v n len c := by
  rcases h with h | ⟨b, o, cap, hR, hv, hc⟩
  · exact .inl h
  · refine .inr ⟨b, o, cap, hR, hv, fun i hi => ?_⟩
    obtain ⟨u, h1, h2⟩ := hc i hi
    exact ⟨u, keep_cell hk (hn b hR (World.block_lt_of_cell? w _ h1)) h1, h2.keep hk hn⟩
theorem irow.mono {R R' : Nat → Prop} {w : World} {v : Value} {n : Nat} {c : Nat → Int} (h : irow R w v n c) (hR : ∀ k, R k → R' k) : irow R' w v n c := by
  rcases h with h | ⟨b, o, cap, h1, h2⟩
  · exact .inl h
  · exact .inr ⟨b, o, cap, hR b h1, h2⟩
theorem irows.mono {R R' : Nat → Prop} {w : World} {v : Value} {n : Nat} {len : Nat → Nat} {c : Nat → Nat → Int} (h : irows R w v n len c) (hR : ∀ k, R k → R' k) : irows R' w v n len c := by
  rcases h with h | ⟨b, o, cap, h1, h2, h3⟩
  · exact .inl h
  · exact .inr ⟨b, o, cap, hR b h1, h2, fun i hi => by obtain ⟨u, hu, hr⟩ := h3 i hi; exact ⟨u, hu, hr.mono hR⟩⟩
theorem irow.congr {R : Nat → Prop} {w : World} {v : Value} {n : Nat} {c c' : Nat → Int} (h : irow R w v n c) (hc : ∀ i, i < n → c i = c' i) : irow R w v n c' := by
  rcases h with h | ⟨b, o, cap, h1, h2, h3⟩
  · exact .inl h
  · exact .inr ⟨b, o, cap, h1, h2, fun i hi => by rw [h3 i hi, hc i hi]⟩

/-- What a value of a row looks like where there is an element. -/
theorem irow.form {R : Nat → Prop} {w : World} {v : Value} {n : Nat} {c : Nat → Int} (h : irow R w v n c) {i : Nat} (hi : i < n) : ∃ b o cap, R b ∧ v = .slice (some ⟨b, o, none⟩) n cap ∧ ∀ j, j < n → w.cell? ⟨b, o + j, none⟩ = some (.int .i32 (c j)) := by
  rcases h with ⟨_, h⟩ | h
  · omega
  · exact h
theorem irows.form {R : Nat → Prop} {w : World} {v : Value} {n : Nat} {len : Nat → Nat} {c : Nat → Nat → Int} (h : irows R w v n len c) {i : Nat} (hi : i < n) :
    ∃ b o cap, R b ∧ v = .slice (some ⟨b, o, none⟩) n cap ∧ ∀ j, j < n → ∃ u, w.cell? ⟨b, o + j, none⟩ = some u ∧ irow R w u (len j) (c j) := by
  rcases h with ⟨_, h⟩ | h
  · omega
  · exact h
/-- Every row, and the slice of rows, is a slice value of the right length. -/
theorem irow.val {R : Nat → Prop} {w : World} {v : Value} {n : Nat} {c : Nat → Int} (h : irow R w v n c) : ∃ a cap, v = .slice a n cap := by
  rcases h with ⟨h, h'⟩ | ⟨b, o, cap, _, h, _⟩
  · subst h'; exact ⟨_, _, h⟩
  · exact ⟨_, _, h⟩
theorem irows.val {R : Nat → Prop} {w : World} {v : Value} {n : Nat} {len : Nat → Nat} {c : Nat → Nat → Int} (h : irows R w v n len c) : ∃ a cap, v = .slice a n cap := by
  rcases h with ⟨h, h'⟩ | ⟨b, o, cap, _, h, _⟩
  · subst h'; exact ⟨_, _, h⟩
  · exact ⟨_, _, h⟩

section
variable {P : Program} {ops : Array Oper} {K : (Nat → Value) → World → Prop} {rest : List Oper} {f : Nat → Value} {w : World} {d : Nat} {dst : Option Tmp} {ty : TypeId} {pos : String} {af : Array Edge} {gu : Option (Nat × Bool)}
/-- xs[i], the row beginning at whatever offset. -/
theorem r_indexO {x ix : Operand} {t : TypeId} {b o n cap i : Nat} {z : Int} {k : IntKind} (hx : ev f x = .slice (some ⟨b, o, none⟩) n cap) (hi : ev f ix = .int k z) (hz : z = (i : Int)) (hlt : i < n)
    (ht : sl P t = some 1) : (execOp (ev f) ⟨dst, .indexAddr t x ix, ty, pos, af, gu⟩).run P w = .ok (.value (.pointer (some ⟨b, o + i, none⟩))) w := by
  obtain ⟨e, hs, inf, hinf, hsz⟩ := sl_spec ht
  subst hz
  simp [execOp, hx, hi, Instr.indexAt, asIntOf, run_underlying hs, hlt, run_size hinf, hsz, Addr.add]
theorem s_indexO {x ix : Operand} {t : TypeId} {b o n cap i : Nat} {z : Int} {k : IntKind} (hx : ev f x = .slice (some ⟨b, o, none⟩) n cap) (hi : ev f ix = .int k z) (hz : z = (i : Int)) (hlt : i < n)
    (ht : sl P t = some 1) (h : Fl P ops K rest (upd f d (.pointer (some ⟨b, o + i, none⟩))) w) : Fl P ops K (⟨some d, .indexAddr t x ix, ty, pos, af, none⟩ :: rest) f w := Fl_val rfl (r_indexO hx hi hz hlt ht) h
/-- A sum that may wrap: some number. -/
theorem r_addw {x y : Operand} {t t' : TypeId} {a b : Int} (hx : ev f x = .int .i64 a) (hy : ev f y = .int .i64 b) :
    (execOp (ev f) ⟨dst, .binOp .add t x y t', ty, pos, af, gu⟩).run P w = .ok (.value (.int .i64 (IntKind.i64.wrap (a + b)))) w :=
  r_bin hx hy (fun _ => by simp [eqGuard]) (fun _ => by simp [binOp, Op.intArith])
theorem s_addw {x y : Operand} {t t' : TypeId} {a b : Int} (hx : ev f x = .int .i64 a) (hy : ev f y = .int .i64 b) (h : Fl P ops K rest (upd f d (.int .i64 (IntKind.i64.wrap (a + b)))) w) :
    Fl P ops K (⟨some d, .binOp .add t x y t', ty, pos, af, none⟩ :: rest) f w := Fl_val rfl (r_addw hx hy) h
end
/-- The blocks that came up between two worlds. -/
def new (w w' : World) (k : Nat) : Prop := w.heap.size ≤ k ∧ k < w'.heap.size
end Go.Fw
