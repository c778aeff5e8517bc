/-
  THE STEPPING FRAME, part 4: memory: a row of cells told by a function; what a step keeps; make, box, build, append. Own work for this seat.
-/
import Derived.Test.Qxb6001707aFwC
import Derived.Deep.AppendLies
import Derived.Below
namespace Go.Fw
open Go.RowKit

/-! ### what is kept -/
structure Keeps (w w' : World) (ex : Nat → Prop) : Prop where
  os : w'.os = w.os
  tape : w'.tape = w.tape
  output : w'.output = w.output
  size : w.heap.size ≤ w'.heap.size
  block : ∀ k, k < w.heap.size → ¬ ex k → w'.heap[k]? = w.heap[k]?

def noB : Nat → Prop := fun _ => False
theorem Keeps.refl (w : World) (ex : Nat → Prop) : Keeps w w ex := ⟨rfl, rfl, rfl, Nat.le_refl _, fun _ _ _ => rfl⟩
theorem Keeps.trans {w w1 w2 : World} {ex1 ex2 ex : Nat → Prop} (h1 : Keeps w w1 ex1) (h2 : Keeps w1 w2 ex2) (s1 : ∀ k, k < w.heap.size → ex1 k → ex k) (s2 : ∀ k, k < w.heap.size → ex2 k → ex k) : Keeps w w2 ex :=
  ⟨h2.os.trans h1.os, h2.tape.trans h1.tape, h2.output.trans h1.output, Nat.le_trans h1.size h2.size, fun k hk hn =>
    (h2.block k (Nat.lt_of_lt_of_le hk h1.size) fun h => hn (s2 k hk h)).trans (h1.block k hk fun h => hn (s1 k hk h))⟩
theorem Keeps.mono {w w1 : World} {ex1 ex : Nat → Prop} (h1 : Keeps w w1 ex1) (s1 : ∀ k, k < w.heap.size → ex1 k → ex k) : Keeps w w1 ex :=
  ⟨h1.os, h1.tape, h1.output, h1.size, fun k hk hn => h1.block k hk fun h => hn (s1 k hk h)⟩
theorem Keeps.alloc (w : World) (o : Obj) (ex : Nat → Prop) : Keeps w (w.alloc o) ex :=
  ⟨rfl, rfl, rfl, by simp, fun k hk _ => Below.heap_alloc w o k hk⟩
theorem Keeps.drew (w : World) (ex : Nat → Prop) : Keeps w w.drew ex := ⟨rfl, rfl, rfl, Nat.le_refl _, fun _ _ _ => rfl⟩
theorem Keeps.setCell (w : World) (a : Addr) (v : Value) : Keeps w (w.setCell a v) (fun k => k = a.block) :=
  ⟨rfl, rfl, rfl, by simp [World.setCell], fun k _ hk => Below.heap_setCell w a v k hk⟩
theorem Keeps.grown {w w' : World} {row : Option Nat} (h : w.grownBy w' row) : Keeps w w' (fun k => some k = row) :=
  ⟨h.os, h.tape, h.output, h.size, fun k hk hn => h.block k hk hn⟩
theorem Keeps.below {w w' : World} {ex : Nat → Prop} (h : Keeps w w' ex) {B : Nat} (hB : ∀ k, k < B → k < w.heap.size ∧ ¬ ex k) : Below B w w' :=
  ⟨h.os, h.tape, h.output, h.size, fun k hk => h.block k (hB k hk).1 (hB k hk).2⟩
theorem size_setCell (w : World) (a : Addr) (v : Value) : (w.setCell a v).heap.size = w.heap.size := by simp [World.setCell]
theorem size_alloc (w : World) (o : Obj) : (w.alloc o).heap.size = w.heap.size + 1 := by simp

/-! ### a row of cells -/
def arr (w : World) (b : Nat) (e : TypeId) (n : Nat) (g : Nat → Value) : Prop :=
  ∃ c : Array Value, w.heap[b]? = some (.cells c e (0, 0)) ∧ c.size = n ∧ ∀ i, i < n → c[i]? = some (g i)
section
variable {w w' : World} {b n : Nat} {e : TypeId} {g : Nat → Value}
theorem arr.lt (h : arr w b e n g) : b < w.heap.size := by
  obtain ⟨c, hc, _⟩ := h
  exact (Array.getElem?_eq_some_iff.1 hc).1
theorem arr.cell (h : arr w b e n g) {i : Nat} (hi : i < n) : w.cell? ⟨b, i, none⟩ = some (g i) := by
  obtain ⟨c, hc, _, hg⟩ := h
  simp [World.cell?, hc, hg i hi]
theorem arr.cellv (h : arr w b e n g) {i : Nat} {v : Value} (hi : i < n) (hv : g i = v) : w.cell? ⟨b, i, none⟩ = some v := by rw [h.cell hi, hv]
theorem arr.frozen (h : arr w b e n g) (i : Nat) : w.frozen? ⟨b, i, none⟩ = false := by
  obtain ⟨c, hc, _⟩ := h
  simp [World.frozen?, hc]
theorem arr.keep {ex : Nat → Prop} (h : arr w b e n g) (hk : Keeps w w' ex) (hn : ¬ ex b) : arr w' b e n g := by
  have hl := h.lt
  obtain ⟨c, hc, r⟩ := h
  exact ⟨c, by rw [hk.block b hl hn]; exact hc, r⟩
theorem arr.set (h : arr w b e n g) (i : Nat) (v : Value) : arr (w.setCell ⟨b, i, none⟩ v) b e n (upd g i v) := by
  obtain ⟨c, hc, hs, hg⟩ := h
  refine ⟨c.setIfInBounds i v, ?_, by simp [hs], fun j hj => ?_⟩
  · have hl := (Array.getElem?_eq_some_iff.1 hc)
    simp [World.setCell, Array.getElem?_modify, hc]
  · by_cases hij : i = j
    · subst hij
      rw [upd_same, Array.getElem?_setIfInBounds_self_of_lt (by omega)]
    · rw [Array.getElem?_setIfInBounds_ne hij, upd_ne _ _ (Ne.symm hij)]
      exact hg j hj
theorem arr.other (h : arr w b e n g) {a : Addr} (hne : b ≠ a.block) (v : Value) : arr (w.setCell a v) b e n g := h.keep (Keeps.setCell w a v) hne
theorem arr.alloc (h : arr w b e n g) (o : Obj) : arr (w.alloc o) b e n g := h.keep (Keeps.alloc w o noB) (fun h => h)
theorem arr.drew (h : arr w b e n g) : arr w.drew b e n g := h
theorem arr.new (w : World) (c : Array Value) (e : TypeId) (g : Nat → Value) (hg : ∀ i, i < c.size → c[i]? = some (g i)) : arr (w.alloc (.cells c e)) w.heap.size e c.size g :=
  ⟨c, heap_alloc_new w _, rfl, hg⟩
theorem arr.congr {g' : Nat → Value} (h : arr w b e n g) (hg : ∀ i, i < n → g i = g' i) : arr w b e n g' := by
  obtain ⟨c, hc, hs, r⟩ := h
  exact ⟨c, hc, hs, fun i hi => by rw [r i hi, hg i hi]⟩
/-- The row as an owned slice, whole. -/
theorem arr.owns (h : arr w b e n g) (hn : n ≤ maxLen) : w.ownsRow 0 e 1 (.slice (some ⟨b, 0, none⟩) n n) n ((List.range n).map g) := by
  obtain ⟨c, hc, hs, hg⟩ := h
  refine ⟨by simp, .inr ⟨b, n, c, rfl, Nat.zero_le _, hc, Nat.le_refl _, hn, by simp [hs], ?_⟩⟩
  apply List.ext_getElem?
  intro i
  by_cases hi : i < n
  · have := hg i hi
    simp [hi]
    simpa using this
  · simp [hi]; omega
end

/-! ### the laws -/
/-- A slice type: its element type, that one's cells and bytes, its zero value. -/
def slz (P : Program) (t : TypeId) : Option (TypeId × Nat × Nat × Value) :=
  match P.underlying t with
  | some (.slice e) => match P.info? e with
    | some i => match i.zero with
      | some z => some (e, i.size, i.bytes, z)
      | none => none
    | none => none
  | _ => none
theorem slz_spec {P : Program} {t e : TypeId} {s by' : Nat} {z : Value} (h : slz P t = some (e, s, by', z)) : P.underlying t = some (.slice e) ∧ ∃ i, P.info? e = some i ∧ i.size = s ∧ i.bytes = by' ∧ i.zero = some z := by
  unfold slz at h
  split at h
  · rename_i e' he
    split at h
    · rename_i i hi
      split at h
      · rename_i z' hz
        simp only [Option.some.injEq, Prod.mk.injEq] at h
        obtain ⟨rfl, rfl, rfl, rfl⟩ := h
        exact ⟨he, i, hi, rfl, rfl, hz⟩
      · cases h
    · cases h
  · cases h

section
variable {P : Program} {ops : Array Oper} {K : (Nat → Value) → World → Prop} {rest : List Oper} {f : Nat → Value} {w : World} {d : Nat} {ty : TypeId} {pos : String} {af : Array Edge} {gu : Option (Nat × Bool)}

theorem r_make {dst : Option Tmp} {x y : Operand} {t e : TypeId} {by' n m : Nat} {z : Value} {l c : Int} {k k' : IntKind} (hx : ev f x = .int k l) (hy : ev f y = .int k' c) (hl : l = (n : Int)) (hc : c = (m : Int)) (hle : n ≤ m)
    (ht : slz P t = some (e, 1, by', z)) (hz : oc z = true) (hb : by' * m ≤ 281474976710656) (hm : m ≤ 9223372036854775807) :
    ∃ w', (execOp (ev f) ⟨dst, .makeSlice t x y, ty, pos, af, gu⟩).run P w = .ok (.value (.slice (some ⟨w.heap.size, 0, none⟩) n m)) w' ∧ arr w' w.heap.size e m (fun _ => z) ∧ Keeps w w' noB ∧ w'.heap.size = w.heap.size + 1 := by
  obtain ⟨hs, i, hi, hsz, hby, hzz⟩ := slz_spec ht
  subst hl hc
  have hb' : (i.bytes : Int) * (m : Int) ≤ 281474976710656 := by
    rw [hby, ← Int.natCast_mul]; omega
  have hcs : z.cells = #[z] := by cases z <;> simp_all [oc, Value.cells]
  have hr := run_make (P := P) w t e i z hs hi hzz k k' (n : Int) (m : Int) (by omega) (by omega) hb' (by omega)
  simp only [Int.toNat_natCast, hsz, Nat.mul_one, hcs] at hr
  refine ⟨w.alloc (.cells (madeCells #[z] m) e), by simp only [execOp, hx, hy, Sem.run_bind, hr, Result.andThen_ok, Sem.run_pure], ?_, Keeps.alloc w _ noB, size_alloc w _⟩
  have hsm := size_madeCells #[z] m
  have := arr.new w (madeCells #[z] m) e (fun _ => z) (fun j hj => by
    rw [hsm] at hj
    rw [← Array.getElem?_toList, toList_madeCells_one]
    simp [hj])
  rwa [hsm] at this
theorem s_make {x y : Operand} {t e : TypeId} {by' n m : Nat} {z : Value} {l c : Int} {k k' : IntKind} (hx : ev f x = .int k l) (hy : ev f y = .int k' c) (hl : l = (n : Int)) (hc : c = (m : Int)) (hle : n ≤ m)
    (ht : slz P t = some (e, 1, by', z)) (hz : oc z = true) (hb : by' * m ≤ 281474976710656) (hm : m ≤ 9223372036854775807)
    (h : ∀ w', arr w' w.heap.size e m (fun _ => z) → Keeps w w' noB → w'.heap.size = w.heap.size + 1 → Fl P ops K rest (upd f d (.slice (some ⟨w.heap.size, 0, none⟩) n m)) w') :
    Fl P ops K (⟨some d, .makeSlice t x y, ty, pos, af, none⟩ :: rest) f w := by
  obtain ⟨w', hr, h1, h2, h3⟩ := r_make (P := P) (f := f) (w := w) (dst := some d) (ty := ty) (pos := pos) (af := af) (gu := none) hx hy hl hc hle ht hz hb hm
  exact Fl_val rfl hr (h w' h1 h2 h3)

theorem r_box {dst : Option Tmp} {x : Operand} {e : TypeId} {v : Value} (hx : ev f x = v) :
    (execOp (ev f) ⟨dst, .box e x, ty, pos, af, gu⟩).run P w = .ok (.value (.pointer (some ⟨w.heap.size, 0, none⟩))) (w.alloc (.cells v.cells e)) := by
  simp [execOp, hx, Instr.box, newVar, newRow]
theorem s_box {x : Operand} {e : TypeId} {v : Value} (hx : ev f x = v) (h : Fl P ops K rest (upd f d (.pointer (some ⟨w.heap.size, 0, none⟩))) (w.alloc (.cells v.cells e))) :
    Fl P ops K (⟨some d, .box e x, ty, pos, af, none⟩ :: rest) f w := Fl_val rfl (r_box hx) h
theorem r_alloc {dst : Option Tmp} {e : TypeId} {v : Value} (hz : (match P.info? e with | some i => i.zero | none => none) = some v) :
    (execOp (ev f) ⟨dst, .alloc e, ty, pos, af, gu⟩).run P w = .ok (.value (.pointer (some ⟨w.heap.size, 0, none⟩))) (w.alloc (.cells v.cells e)) := by
  split at hz
  · rename_i i hi
    simp [execOp, Instr.alloc, zeroValue, run_info hi, hz, newVar, newRow]
  · cases hz
theorem s_alloc {e : TypeId} {v : Value} (hz : (match P.info? e with | some i => i.zero | none => none) = some v) (h : Fl P ops K rest (upd f d (.pointer (some ⟨w.heap.size, 0, none⟩))) (w.alloc (.cells v.cells e))) :
    Fl P ops K (⟨some d, .alloc e, ty, pos, af, none⟩ :: rest) f w := Fl_val rfl (r_alloc hz) h
theorem r_build {dst : Option Tmp} {t : TypeId} {parts : Array (Nat × Operand)} {v : Value} (hr : (Instr.build t (parts.map fun (i, x) => (i, ev f x))).run P w = .ok v w) :
    (execOp (ev f) ⟨dst, .build t parts, ty, pos, af, gu⟩).run P w = .ok (.value v) w := by
  simp only [execOp, Sem.run_bind, hr, Result.andThen_ok, Sem.run_pure]
theorem s_build {t : TypeId} {parts : Array (Nat × Operand)} {v : Value} (hr : (Instr.build t (parts.map fun (i, x) => (i, ev f x))).run P w = .ok v w) (h : Fl P ops K rest (upd f d v) w) :
    Fl P ops K (⟨some d, .build t parts, ty, pos, af, none⟩ :: rest) f w := Fl_val rfl (r_build hr) h
/-- []T{x}, T of one cell. -/
theorem r_lit1 {dst : Option Tmp} {x : Operand} {t e : TypeId} {by' : Nat} {z v : Value} (hx : ev f x = v) (ht : slz P t = some (e, 1, by', z)) (hv : oc v = true) (hz : oc z = true) :
    (execOp (ev f) ⟨dst, .buildSlice t 1 #[(0, x)], ty, pos, af, gu⟩).run P w = .ok (.value (.slice (some ⟨w.heap.size, 0, none⟩) 1 1)) (w.alloc (.cells #[v] e)) := by
  obtain ⟨hsl, i, hi, hsz, hby, hzz⟩ := slz_spec ht
  have hcs : v.cells = #[v] := by cases v <;> simp_all [oc, Value.cells]
  have hcz : z.cells = #[z] := by cases z <;> simp_all [oc, Value.cells]
  simp [execOp, hx, Instr.buildSlice, run_underlying hsl, run_size hi, hsz, zeroValue, run_info hi, hzz, hcs, hcz, Instr.fill, newRow, Array.range, Array.ofFn_succ]
theorem s_lit1 {x : Operand} {t e : TypeId} {by' : Nat} {z v : Value} (hx : ev f x = v) (ht : slz P t = some (e, 1, by', z)) (hv : oc v = true) (hz : oc z = true)
    (h : Fl P ops K rest (upd f d (.slice (some ⟨w.heap.size, 0, none⟩) 1 1)) (w.alloc (.cells #[v] e))) : Fl P ops K (⟨some d, .buildSlice t 1 #[(0, x)], ty, pos, af, none⟩ :: rest) f w := Fl_val rfl (r_lit1 hx ht hv hz) h
/-- []T{x}, T a struct of two cells. -/
theorem r_lit2 {dst : Option Tmp} {x : Operand} {t e : TypeId} {by' : Nat} {z0 z1 u v : Value} (hx : ev f x = .agg #[u, v]) (ht : slz P t = some (e, 2, by', .agg #[z0, z1])) :
    (execOp (ev f) ⟨dst, .buildSlice t 1 #[(0, x)], ty, pos, af, gu⟩).run P w = .ok (.value (.slice (some ⟨w.heap.size, 0, none⟩) 1 1)) (w.alloc (.cells #[u, v] e)) := by
  obtain ⟨hsl, i, hi, hsz, hby, hzz⟩ := slz_spec ht
  simp [execOp, hx, Instr.buildSlice, run_underlying hsl, run_size hi, hsz, zeroValue, run_info hi, hzz, Value.cells, Instr.fill, newRow, Array.range, Array.ofFn_succ]
theorem s_lit2 {x : Operand} {t e : TypeId} {by' : Nat} {z0 z1 u v : Value} (hx : ev f x = .agg #[u, v]) (ht : slz P t = some (e, 2, by', .agg #[z0, z1]))
    (h : Fl P ops K rest (upd f d (.slice (some ⟨w.heap.size, 0, none⟩) 1 1)) (w.alloc (.cells #[u, v] e))) : Fl P ops K (⟨some d, .buildSlice t 1 #[(0, x)], ty, pos, af, none⟩ :: rest) f w := Fl_val rfl (r_lit2 hx ht) h

/-! ### append onto nil or onto a row of the call's own -/
theorem oc_oneCell' {u : Value} (h : oc u = true) : u.oneCell' = true := by cases u <;> simp_all [oc, Value.oneCell']
/-- append(v, x...): v owns 'xs', x a slice over 'news' (m elements, at least one). -/
theorem r_append {dst : Option Tmp} {x y : Operand} {t e : TypeId} {s by' n m c : Nat} {z v : Value} {xs news : List Value} {ad : Addr} (hx : ev f x = v) (hy : ev f y = .slice (some ad) m c) (ht : slz P t = some (e, s, by', z)) (hs : 0 < s) (hzs : z.cells.size = s)
    (hown : w.ownsRow 0 e s v n xs) (hl : news.length = m * s) (hnews : ∀ j u, news[j]? = some u → w.cell? (ad.add j) = some u) (h1 : ∀ u ∈ news, oc u = true) (hm : 0 < m) (hb : (n + m) * by' ≤ 140737488355328) (h63 : n + m ≤ 9223372036854775807) :
    ∃ g cap w', (execOp (ev f) ⟨dst, .call ⟨.builtin .append, #[x, y], #[t, t]⟩, ty, pos, af, gu⟩).run P w = .ok (.value (.slice (some ⟨g, 0, none⟩) (n + m) cap)) w' ∧
      w'.ownsRow 0 e s (.slice (some ⟨g, 0, none⟩) (n + m) cap) (n + m) (xs ++ news) ∧ Keeps w w' (fun k => some k = v.ownBlock) ∧ (v.ownBlock = some g ∨ g = w.heap.size) ∧ g < w'.heap.size := by
  obtain ⟨hsl, i, hi, hsz, hby, hzz⟩ := slz_spec ht
  obtain ⟨g, cap, w', hr, h2, h3, h4, h5⟩ := run_append_lies (P := P) w t ty 0 e i z s by' hsl hi hzz hsz hby hzs hs v n xs hown ad m c news hl hnews (fun u hu => oc_oneCell' (h1 u hu)) hm (show n + m ≤ maxLen from h63) hb (Nat.zero_le _) _ rfl
  refine ⟨g, cap, w', ?_, h2, Keeps.grown h3, h4, h5⟩
  simp only [execOp, resolve, invoke, builtin, Sem.run_bind, Sem.run_pure, Result.andThen_ok, List.map_toArray, List.map_cons, List.map_nil, hx, hy, hr]
theorem s_append {x y : Operand} {t e : TypeId} {s by' n m c : Nat} {z v : Value} {xs news : List Value} {ad : Addr} (hx : ev f x = v) (hy : ev f y = .slice (some ad) m c) (ht : slz P t = some (e, s, by', z)) (hs : 0 < s) (hzs : z.cells.size = s)
    (hown : w.ownsRow 0 e s v n xs) (hl : news.length = m * s) (hnews : ∀ j u, news[j]? = some u → w.cell? (ad.add j) = some u) (h1 : ∀ u ∈ news, oc u = true) (hm : 0 < m) (hb : (n + m) * by' ≤ 140737488355328) (h63 : n + m ≤ 9223372036854775807)
    (h : ∀ g cap w', w'.ownsRow 0 e s (.slice (some ⟨g, 0, none⟩) (n + m) cap) (n + m) (xs ++ news) → Keeps w w' (fun k => some k = v.ownBlock) → (v.ownBlock = some g ∨ g = w.heap.size) → g < w'.heap.size →
      Fl P ops K rest (upd f d (.slice (some ⟨g, 0, none⟩) (n + m) cap)) w') : Fl P ops K (⟨some d, .call ⟨.builtin .append, #[x, y], #[t, t]⟩, ty, pos, af, none⟩ :: rest) f w := by
  obtain ⟨g, cap, w', hr, h2, h3, h4, h5⟩ := r_append (P := P) (f := f) (w := w) (dst := some d) (ty := ty) (pos := pos) (af := af) (gu := none) hx hy ht hs hzs hown hl hnews h1 hm hb h63
  exact Fl_val rfl hr (h g cap w' h2 h3 h4 h5)
end

/-! ### owned rows -/
section
variable {w w' : World} {e : TypeId} {s n : Nat} {v : Value} {xs : List Value}
theorem own_keep {ex : Nat → Prop} (h : w.ownsRow 0 e s v n xs) (hk : Keeps w w' ex) (hn : ∀ g, v.ownBlock = some g → ¬ ex g) : w'.ownsRow 0 e s v n xs := by
  obtain ⟨h1, h2⟩ := h
  refine ⟨h1, ?_⟩
  rcases h2 with h2 | ⟨g, cap, cur, rfl, hb, hg, r⟩
  · exact .inl h2
  · refine .inr ⟨g, cap, cur, rfl, hb, ?_, r⟩
    rw [hk.block g (Array.getElem?_eq_some_iff.1 hg).1 (hn g rfl)]
    exact hg
theorem own_lt {g : Nat} (h : w.ownsRow 0 e s v n xs) (hg : v.ownBlock = some g) : g < w.heap.size := (h.lt g hg).2
/-- The first cells of an owned row, as a row told by a function. -/
theorem own_cell {g cap j : Nat} {u : Value} (h : w.ownsRow 0 e s (.slice (some ⟨g, 0, none⟩) n cap) n xs) (hj : j < n * s) (hu : xs[j]? = some u) : w.cell? ⟨g, j, none⟩ = some u := by
  rw [h.cellAt j hj, hu]
end
end Go.Fw
