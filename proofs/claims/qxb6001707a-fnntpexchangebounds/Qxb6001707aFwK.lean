/-
  THE STEPPING FRAME, part 11: variables of struct types; slices of structs; a result in memory; a call in a region that draws. Own work.
-/
import Derived.Test.Qxb6001707aFwJ
namespace Go.Fw
/-- Block b is a variable of type e that holds these cells. -/
def sv (w : World) (b : Nat) (e : TypeId) (cs : List Value) : Prop := arr w b e cs.length (fun i => cs.getD i undef)
section
variable {w w' : World} {b : Nat} {e : TypeId} {cs : List Value}
theorem sv.lt (h : sv w b e cs) : b < w.heap.size := arr.lt h
theorem sv.cell (h : sv w b e cs) {k : Nat} {v : Value} (hk : cs[k]? = some v) : w.cell? ⟨b, k, none⟩ = some v := by
  have hl : k < cs.length := (List.getElem?_eq_some_iff.1 hk).1
  refine arr.cellv h hl ?_
  simp [List.getD, hk]
theorem sv.keep {ex : Nat → Prop} (h : sv w b e cs) (hk : Keeps w w' ex) (hn : ¬ ex b) : sv w' b e cs := arr.keep h hk hn
theorem sv_new (w : World) (cs : List Value) (e : TypeId) : sv (w.alloc (.cells cs.toArray e)) w.heap.size e cs := by
  have := arr.new w cs.toArray e (fun i => cs.getD i undef) (fun i hi => by
    have hi' : i < cs.length := by simpa using hi
    simp [List.getD, hi'])
  simpa [sv] using this
theorem sv_set (h : sv w b e cs) (cs' : List Value) (hl : cs'.length = cs.length) : sv (w.setCells b 0 cs') b e cs' := by
  have := arr_setCells cs' 0 w _ h
  unfold sv
  rw [hl]
  refine this.congr (fun i hi => ?_)
  rw [if_pos (by omega), Nat.sub_zero]
end
theorem Keeps.into {w0 w w' : World} {b : Nat} (h : Keeps w0 w noB) (hb : w0.heap.size ≤ b) (hk : Keeps w w' (fun k => k = b)) : Keeps w0 w' noB :=
  h.trans hk (fun _ _ h => h) (fun k hk h => by omega)
theorem Keeps.on {w0 w w' : World} (h : Keeps w0 w noB) (hk : Keeps w w' noB) : Keeps w0 w' noB := h.trans hk (fun _ _ h => h) (fun _ _ h => h)
section
variable {P : Program} {ops : Array Oper} {K : (Nat → Value) → World → Prop} {rest : List Oper} {f : Nat → Value} {w : World} {d : Nat} {dst : Option Tmp} {ty : TypeId} {pos : String} {af : Array Edge} {gu : Option (Nat × Bool)}
theorem s_boxV {x : Operand} {e : TypeId} {cs : List Value} (hx : ev f x = .agg cs.toArray) (h : ∀ w', sv w' w.heap.size e cs → Keeps w w' noB → w'.heap.size = w.heap.size + 1 → Fl P ops K rest (upd f d (.pointer (some ⟨w.heap.size, 0, none⟩))) w') :
    Fl P ops K (⟨some d, .box e x, ty, pos, af, none⟩ :: rest) f w :=
  s_box hx (h _ (sv_new w cs e) (Keeps.alloc w _ noB) (size_alloc w _))
theorem s_allocV {e : TypeId} {cs : List Value} (hz : (match P.info? e with | some i => i.zero | none => none) = some (.agg cs.toArray)) (h : ∀ w', sv w' w.heap.size e cs → Keeps w w' noB → w'.heap.size = w.heap.size + 1 → Fl P ops K rest (upd f d (.pointer (some ⟨w.heap.size, 0, none⟩))) w') :
    Fl P ops K (⟨some d, .alloc e, ty, pos, af, none⟩ :: rest) f w :=
  s_alloc hz (h _ (sv_new w cs e) (Keeps.alloc w _ noB) (size_alloc w _))
theorem r_loadV {x : Operand} {t e : TypeId} {b : Nat} {cs : List Value} (hx : ev f x = .pointer (some ⟨b, 0, none⟩)) (ht : agB P t cs.length = true) (h : sv w b e cs) :
    (execOp (ev f) ⟨dst, .load t x, ty, pos, af, gu⟩).run P w = .ok (.value (.agg cs.toArray)) w :=
  r_loadA hx ht (fun j v hv => by rw [Nat.zero_add]; exact h.cell hv)
theorem s_loadV {x : Operand} {t e : TypeId} {b : Nat} {cs : List Value} (hx : ev f x = .pointer (some ⟨b, 0, none⟩)) (ht : agB P t cs.length = true) (hv : sv w b e cs) (h : Fl P ops K rest (upd f d (.agg cs.toArray)) w) :
    Fl P ops K (⟨some d, .load t x, ty, pos, af, none⟩ :: rest) f w := Fl_val rfl (r_loadV hx ht hv) h
theorem s_loadA {x : Operand} {t : TypeId} {b o : Nat} {cs : List Value} (hx : ev f x = .pointer (some ⟨b, o, none⟩)) (ht : agB P t cs.length = true) (hc : ∀ (j : Nat) v, cs[j]? = some v → w.cell? ⟨b, o + j, none⟩ = some v) (h : Fl P ops K rest (upd f d (.agg cs.toArray)) w) :
    Fl P ops K (⟨some d, .load t x, ty, pos, af, none⟩ :: rest) f w := Fl_val rfl (r_loadA hx ht hc) h
theorem s_storeV {x y : Operand} {t e : TypeId} {b : Nat} {cs cs' : List Value} (hx : ev f x = .pointer (some ⟨b, 0, none⟩)) (hy : ev f y = .agg cs'.toArray) (ht : agB P t cs'.length = true) (hl : cs'.length = cs.length) (hc : ∀ v ∈ cs', oc v = true) (hv : sv w b e cs)
    (h : ∀ w', sv w' b e cs' → Keeps w w' (fun k => k = b) → w'.heap.size = w.heap.size → Fl P ops K rest f w') : Fl P ops K (⟨none, .store t x y, ty, pos, af, none⟩ :: rest) f w := by
  have hth : w.there b 0 cs'.length := arr.there hv (by omega)
  refine Fl_skip rfl (r_storeA hx hy ht hth hc) (h _ (sv_set hv cs' hl) (keeps_setCells b cs' 0 w) ?_)
  have := (keeps_setCells b cs' 0 w).size
  have h2 : ∀ (cs : List Value) (o : Nat) (w : World), (w.setCells b o cs).heap.size = w.heap.size := by
    intro cs
    induction cs with
    | nil => intro o w; rfl
    | cons v cs ih => intro o w; simp only [World.setCells]; rw [ih, size_setCell]
  exact h2 _ _ _
/-- An element of a slice of structs. -/
theorem r_indexS {x ix : Operand} {t : TypeId} {s b o n cap i : Nat} {z : Int} {k : IntKind} (hx : ev f x = .slice (some ⟨b, o, none⟩) n cap) (hi : ev f ix = .int k z) (hz : z = (i : Int)) (hlt : i < n)
    (ht : sl P t = some s) : (execOp (ev f) ⟨dst, .indexAddr t x ix, ty, pos, af, gu⟩).run P w = .ok (.value (.pointer (some ⟨b, o + i * s, none⟩))) w := by
  obtain ⟨e, hs, inf, hinf, hsz⟩ := sl_spec ht
  subst hz
  simp [execOp, hx, hi, Instr.indexAt, asIntOf, run_underlying hs, hlt, run_size hinf, hsz, Addr.add]
theorem s_indexS {x ix : Operand} {t : TypeId} {b o n cap i s : Nat} {z : Int} {k : IntKind} (hx : ev f x = .slice (some ⟨b, o, none⟩) n cap) (hi : ev f ix = .int k z) (hz : z = (i : Int)) (hlt : i < n)
    (ht : sl P t = some s) (h : Fl P ops K rest (upd f d (.pointer (some ⟨b, o + i * s, none⟩))) w) : Fl P ops K (⟨some d, .indexAddr t x ix, ty, pos, af, none⟩ :: rest) f w := Fl_val rfl (r_indexS hx hi hz hlt ht) h
/-- make, the element a struct. -/
theorem s_makeS {x y : Operand} {t e : TypeId} {s by' n m : Nat} {z : Value} {l c : Int} {k k' : IntKind} (hx : ev f x = .int k l) (hy : ev f y = .int k' c) (hl : l = (n : Int)) (hc : c = (m : Int)) (hle : n ≤ m)
    (ht : slz P t = some (e, s, by', z)) (hb : by' * m ≤ 281474976710656) (hm : m ≤ 9223372036854775807)
    (h : ∀ w' g, arr w' w.heap.size e (m * s) g → Keeps w w' noB → w'.heap.size = w.heap.size + 1 → Fl P ops K rest (upd f d (.slice (some ⟨w.heap.size, 0, none⟩) n m)) w') :
    Fl P ops K (⟨some d, .makeSlice t x y, ty, pos, af, none⟩ :: rest) f w := by
  obtain ⟨hs, i, hi, hsz, hby, hzz⟩ := slz_spec ht
  subst hl hc
  have hb' : (i.bytes : Int) * (m : Int) ≤ 281474976710656 := by
    rw [hby, ← Int.natCast_mul]; omega
  have hr := run_make (P := P) w t e i z hs hi hzz k k' (n : Int) (m : Int) (by omega) (by omega) hb' (by omega)
  simp only [Int.toNat_natCast, hsz] at hr
  have hsm := size_madeCells z.cells (m * s)
  have ha := arr.new w (madeCells z.cells (m * s)) e (fun j => ((madeCells z.cells (m * s))[j]?).getD undef) (fun j hj => by simp [hj])
  rw [hsm] at ha
  exact Fl_val rfl (by simp only [execOp, hx, hy, Sem.run_bind, hr, Result.andThen_ok, Sem.run_pure]) (h _ _ ha (Keeps.alloc w _ noB) (size_alloc w _))
/-- xs[i] = v, the element a struct, the row one's own. -/
theorem s_storeS {x y : Operand} {t e : TypeId} {b o n : Nat} {g : Nat → Value} {cs : List Value} (hx : ev f x = .pointer (some ⟨b, o, none⟩)) (hy : ev f y = .agg cs.toArray) (ht : agB P t cs.length = true) (ha : arr w b e n g) (hn : o + cs.length ≤ n) (hc : ∀ v ∈ cs, oc v = true)
    (h : ∀ w', arr w' b e n (fun i => if o ≤ i ∧ i < o + cs.length then cs.getD (i - o) undef else g i) → Keeps w w' (fun k => k = b) → Fl P ops K rest f w') : Fl P ops K (⟨none, .store t x y, ty, pos, af, none⟩ :: rest) f w :=
  Fl_skip rfl (r_storeA hx hy ht (ha.there hn) hc) (h _ (arr_setCells cs o w g ha) (keeps_setCells b cs o w))
theorem s_addX {x y : Operand} {t t' : TypeId} {a b : Int} (hx : ev f x = .int .i64 a) (hy : ev f y = .int .i64 b) (h : ∀ z, Fl P ops K rest (upd f d (.int .i64 z)) w) :
    Fl P ops K (⟨some d, .binOp .add t x y t', ty, pos, af, none⟩ :: rest) f w := s_addw hx hy (h _)
end
/-- A call, where it comes up alone in a region that draws. -/
theorem o2c {P : Program} {ops : Array Oper} {S : World → Prop} {asks : List Nat} {K : (Nat → Value) → World → Prop} {rest : List (Nat × Nat)} {f : Nat → Value} {w : World} {i d : Nat} {ty : TypeId} {pos : String} {af : Array Edge} {g : Nat} {xs : List Operand} {vs : List Value} {ats : Array TypeId} {R : Value → World → Prop}
    (ho : ops[i]? = some ⟨some d, .call ⟨.value (.func g), xs.toArray, ats⟩, ty, pos, af, none⟩) (hok : cOk P g = true) (hv : xs.map (ev f) = vs) (hc : Calls P g vs.toArray w fun e w' => ∃ v, e = .returned v ∧ R v w')
    (h : ∀ v w', R v w' → (asks.contains i = true → S w → S w') ∧ Fo P ops S asks K rest (upd f d v) w') : Fo P ops S asks K ((i, 2) :: rest) f w := by
  simp only [Fo, ho]
  refine ⟨rfl, ?_⟩
  have hr := r_call (P := P) (f := f) (w := w) (dst := some d) (ty := ty) (pos := pos) (af := af) (gu := none) (args := xs.toArray) (ats := ats) hok
  have hv' : Array.map (ev f) xs.toArray = vs.toArray := by rw [List.map_toArray, hv]
  unfold Fop
  rw [hr, hv']
  exact hc.mono fun e w' ⟨v, he, hR⟩ => ⟨v, he, h v w' hR⟩
/-- One result, a struct in memory. -/
theorem resC {P : Program} {fn : Func} {a N b : Nat} {t e : TypeId} {f : Nat → Value} {w : World} {cs : List Value} (h : fn.results = #[.cell a t]) (ha : decide (a < N) = true) (hp : f a = .pointer (some ⟨b, 0, none⟩)) (ht : agB P t cs.length = true) (hs : sv w b e cs) :
    (results fn (ofF N f).tmps).run P w = .ok (.agg cs.toArray) w := by
  obtain ⟨fs, i, h1, h2, h3⟩ := agB_spec ht
  have hl := run_loadVar_mid (P := P) w b 0 t cs _ (fun j v hv => by rw [Nat.zero_add]; exact hs.cell hv) h1 rfl (by simp [h2, h3])
  have hg := ofF_get N f a (of_decide_eq_true ha)
  simp [results, h, hg, hp, asAddr, hl]
/-- Two results, the first a struct in memory. -/
theorem resC2 {P : Program} {fn : Func} {a c N b : Nat} {t e : TypeId} {f : Nat → Value} {w : World} {cs : List Value} (h : fn.results = #[.cell a t, .tmp c]) (ha : decide (a < N) = true) (hc : decide (c < N) = true) (hp : f a = .pointer (some ⟨b, 0, none⟩)) (ht : agB P t cs.length = true) (hs : sv w b e cs) :
    (results fn (ofF N f).tmps).run P w = .ok (.tuple #[.agg cs.toArray, f c]) w := by
  obtain ⟨fs, i, h1, h2, h3⟩ := agB_spec ht
  have hl := run_loadVar_mid (P := P) w b 0 t cs _ (fun j v hv => by rw [Nat.zero_add]; exact hs.cell hv) h1 rfl (by simp [h2, h3])
  have hg := ofF_get N f a (of_decide_eq_true ha)
  have hg2 := ofF_get N f c (of_decide_eq_true hc)
  simp [results, h, hg, hg2, hp, asAddr, hl]
end Go.Fw
