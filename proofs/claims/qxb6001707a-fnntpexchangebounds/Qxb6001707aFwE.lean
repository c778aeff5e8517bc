/-
  THE STEPPING FRAME, part 5: REGIONS THAT DRAW THEIR ORDER. One chosen order serves every order, if each operation that is taken ahead of its turn yields one value in every world that keeps the start's blocks ('S'), and what changes the world comes up alone. Own work for this seat.
-/
import Derived.Test.Qxb6001707aFwD
namespace Go.Fw

section
variable {P : Program} {ops : Array Oper} {Q : Exit → Act → World → Prop} {md : Region.Mode} {S : World → Prop}

/-- An operation that hands back the world that it got and one value: an operation of its own, or a call whose contract says so. -/
def qUpon (P : Program) (v : Value) (w : World) : Result Next → Prop
  | .ok (.value u) w' => w' = w ∧ u = v
  | .ok (.enter g args) w' => w' = w ∧ Calls P g args w (fun e w'' => e = .returned v ∧ w'' = w)
  | _ => False
/-- In state 'a', in every world that meets S: the value v, and nothing else. -/
def YS (P : Program) (ops : Array Oper) (S : World → Prop) (o : Oper) (v : Value) (a : Act) : Prop :=
  (Region.wanted o (yielded ops a.tmps) = true ∧ ∀ w, S w → qUpon P v w ((execOp a.eval o).run P w)) ∨ (Region.wanted o (yielded ops a.tmps) = false ∧ v = undef)

theorem YS.wpOp {i : Nat} {o : Oper} {v : Value} {a : Act} {w : World} (hi : ops[i]? = some o) (hy : YS P ops S o v a) {K : Act → World → Prop} (hS : S w) (h : K (a.put o.dst v) w) : wpOp P ops Q i K a w := by
  unfold Go.wpOp
  simp only [hi]
  rcases hy with ⟨hw, hv⟩ | ⟨hw, rfl⟩
  · have h1 := hv w hS
    simp only [hw, if_true]
    refine .inl ?_
    unfold Oper.wp
    generalize (execOp a.eval o).run P w = r at *
    cases r with
    | ok n w' =>
      cases n <;> simp only [qUpon] at h1 <;> simp only [Oper.upon]
      case value u =>
        obtain ⟨rfl, rfl⟩ := h1
        exact h
      case enter g args =>
        obtain ⟨rfl, hc⟩ := h1
        exact hc.mono fun e w'' ⟨he, hw''⟩ => by subst he; subst hw''; exact h
    | halt x w' => simp only [qUpon] at h1
  · simp only [hw, Bool.false_eq_true, if_false]; exact h

theorem YS.same {o : Oper} {v : Value} {a a' : Act} (hy : YS P ops S o v a) (he : execOp a'.eval o = execOp a.eval o) (hw : Region.wanted o (yielded ops a'.tmps) = Region.wanted o (yielded ops a.tmps)) : YS P ops S o v a' := by
  unfold YS at *
  rw [he, hw]
  exact hy

/-- An operation 'oj' that is apart from 'oi' does not care whether oi's value is laid already. (Nothing panics: Q lets no panic by.) -/
theorem wpOp_past {j : Nat} {oi oj : Oper} {v : Value} (hj : ops[j]? = some oj) (hap : oi.apart ops oj = true) (hsi : ∀ cs b, oi.op ≠ .select cs b) (hsj : ∀ cs b, oj.op ≠ .select cs b)
    (hQ : ∀ c a w, ¬ Q (.panic c) a w) (hQ' : ¬ LetsOut Q) {K : Act → World → Prop} {a : Act} {w : World} (hy : YS P ops S oi v a) (h : wpOp P ops Q j K (a.put oi.dst v) w) :
    wpOp P ops Q j (fun a' w' => YS P ops S oi v a' ∧ K (a'.put oi.dst v) w') a w := by
  obtain ⟨h1, h2, h3⟩ := Oper.apart_spec hap
  have keep : ∀ (a : Act), YS P ops S oi v a → ∀ u, YS P ops S oi v (a.put oj.dst u) := fun a hy u => hy.same (execOp_put oi hsi a oj.dst u h3) (wanted_put oi a oj.dst u h3)
  unfold Go.wpOp at *
  simp only [hj] at *
  rw [wanted_put oj a oi.dst v h1] at h
  by_cases hw : Region.wanted oj (yielded ops a.tmps) = true
  · simp only [hw, if_true] at h ⊢
    rcases h with h | ⟨_, hl⟩
    · refine .inl ?_
      unfold Oper.wp at *
      rw [execOp_put oj hsj a oi.dst v h1] at h
      generalize (execOp a.eval oj).run P w = r at *
      cases r with
      | ok n w' =>
        cases n <;> simp only [Oper.upon] at h ⊢
        case value u => exact ⟨keep a hy u, by rw [← Act.put_comm a v u h2]; exact h⟩
        case skip => exact ⟨keep a hy _, by rw [← Act.put_comm a v undef h2]; exact h⟩
        case defer dd =>
          have hy' : YS P ops S oi v { a with defers := dd :: a.defers } := hy.same rfl rfl
          refine ⟨keep _ hy' _, ?_⟩
          rw [← Act.put_comm _ v undef h2, ← Act.put_defers]
          exact h
        case enter g args =>
          refine Calls.mono h fun e w'' he => ?_
          cases e with
          | returned u => exact ⟨keep a hy u, by rw [← Act.put_comm a v u h2]; exact he⟩
          | panicked c => exact absurd he (hQ _ _ _)
          | outgrown => exact absurd he hQ'
        case row rw' args => exact Rows.mono h fun u w'' he => ⟨keep a hy u, by rw [← Act.put_comm a v u h2]; exact he⟩
      | halt x w' =>
        cases x <;> simp only [Oper.upon] at h ⊢
        case panic u => exact absurd h (hQ _ _ _)
    · exact absurd hl hQ'
  · simp only [hw, Bool.false_eq_true, if_false] at h ⊢
    exact ⟨keep a hy _, by rw [← Act.put_comm a v undef h2]; exact h⟩

/-- Whatever order is picked from here on; each operation of 'asks' hands S on. -/
def wpAnyS (P : Program) (md : Region.Mode) (ops : Array Oper) (Q : Exit → Act → World → Prop) (S : World → Prop) (asks : List Nat) : Nat → Array Bool → Act → World → Prop
  | 0, listed, a, w => Region.ready md ops listed = [] ∧ Q .normal a w
  | fuel + 1, listed, a, w =>
    (Region.ready md ops listed = [] → Q .normal a w) ∧
    ∀ i ∈ Region.ready md ops listed, wpOp P ops Q i (fun a' w' => (asks.contains i = true → S w → S w') ∧ wpAnyS P md ops Q S asks fuel (listed.setIfInBounds i true) a' w') a w
theorem wpAny_of_S {asks : List Nat} : ∀ (fuel : Nat) (listed : Array Bool) (a : Act) (w : World), wpAnyS P md ops Q S asks fuel listed a w → wpAny P md ops Q fuel listed a w
  | 0, _, _, _, h => h
  | fuel + 1, _, _, _, h => ⟨h.1, fun i hi => wpOp_mono (fun a' w' h' => wpAny_of_S fuel _ a' w' h'.2) (h.2 i hi)⟩

/-- 'all': whatever world; else: a world that meets S. -/
def T (all : Bool) (S : World → Prop) (w : World) : Prop := all = true ∨ S w
/-- Number i may be taken first. 'all': it yields in whatever world; else in every world that meets S, and then whoever may come ahead of it is among 'asks'. -/
theorem wpAnyS_first {asks : List Nat} {i : Nat} {oi : Oper} {v : Value} (hi : ops[i]? = some oi) (hsel : ∀ (j : Nat) (o : Oper) cs b, ops[j]? = some o → o.op ≠ .select cs b)
    (hQ : ∀ c a w, ¬ Q (.panic c) a w) (hQ' : ¬ LetsOut Q) (all : Bool) :
    ∀ (fuel : Nat) (listed : Array Bool) (a : Act) (w : World),
      (∀ j oj, ops[j]? = some oj → j ≠ i → listed.getD j true = false → (∀ e ∈ oj.after, Region.binds md e = true → e.on ≠ i) → oi.apart ops oj = true ∧ (all = true ∨ asks.contains j = true)) →
      i ∈ Region.ready md ops listed → YS P ops (T all S) oi v a → T all S w →
      wpAnyS P md ops Q S asks fuel (listed.setIfInBounds i true) (a.put oi.dst v) w → wpAnyS P md ops Q S asks (fuel + 1) listed a w := by
  intro fuel
  induction fuel with
  | zero =>
    intro listed a w _ hr hy hT H
    refine ⟨fun h => (by rw [h] at hr; cases hr), fun j hj => ?_⟩
    by_cases hji : j = i
    · subst hji; exact hy.wpOp hi hT ⟨fun _ h => h, H⟩
    · have := ready_mono hj hji
      rw [H.1] at this
      cases this
  | succ fuel ih =>
    intro listed a w hfree hr hy hT H
    refine ⟨fun h => (by rw [h] at hr; cases hr), fun j hj => ?_⟩
    by_cases hji : j = i
    · subst hji; exact hy.wpOp hi hT ⟨fun _ h => h, H⟩
    · have h1 := H.2 j (ready_mono hj hji)
      obtain ⟨hjun, oj, hoj, hallj⟩ := mem_ready.1 hj
      have hnot : ∀ e ∈ oj.after, Region.binds md e = true → e.on ≠ i := fun e he hb heq => by
        have g1 := hallj e he hb
        have g0 := (mem_ready.1 hr).1
        rw [heq] at g1
        rcases Nat.lt_or_ge i listed.size with h' | h'
        · simp [h'] at g0 g1; rw [g0] at g1; cases g1
        · simp [Array.getElem?_eq_none h'] at g1
      obtain ⟨hap, hask⟩ := hfree j oj hoj hji hjun hnot
      have h2 := wpOp_past hoj hap (fun cs b => hsel i oi cs b hi) (fun cs b => hsel j oj cs b hoj) hQ hQ' hy h1
      have hfree' : ∀ k ok, ops[k]? = some ok → k ≠ i → (listed.setIfInBounds j true).getD k true = false →
          (∀ e ∈ ok.after, Region.binds md e = true → e.on ≠ i) → oi.apart ops ok = true ∧ (all = true ∨ asks.contains k = true) := fun k ok hk hki hun hno => by
        refine hfree k ok hk hki ?_ hno
        by_cases hjk : j = k
        · subst hjk; exact hjun
        · rw [getD_set_ne true hjk] at hun; exact hun
      refine wpOp_mono (fun a' w' h3 => ⟨h3.2.1, ?_⟩) h2
      refine ih (listed.setIfInBounds j true) a' w' hfree' (ready_mono hr (Ne.symm hji)) h3.1 ?_ ?_
      · rcases hT with hT | hT
        · exact .inl hT
        · rcases hask with hask | hask
          · exact .inl hask
          · exact .inr (h3.2.1 hask hT)
      · rw [Array.setIfInBounds_comm _ _ hji]
        exact h3.2.2
end

/-! ### one chosen order -/
/-- A move of the walk: number i: tag 0: pure; tag 1: under S; else: it comes up alone. -/
def freeB (md : Region.Mode) (ops : Array Oper) (listed : Array Bool) (asks : List Nat) (all : Bool) (i : Nat) : Bool :=
  match ops[i]? with
  | none => false
  | some oi => (List.range ops.size).all fun j => Nat.beq j i || listed.getD j true || match ops[j]? with
      | some oj => oj.after.any (fun e => Region.binds md e && Nat.beq e.on i) || (oi.apart ops oj && (all || asks.contains j))
      | none => true
def ordB (md : Region.Mode) (ops : Array Oper) (asks : List Nat) : List (Nat × Nat) → Array Bool → Bool
  | [], listed => (Region.ready md ops listed).isEmpty
  | (i, t) :: rest, listed =>
    (match t with
     | 0 => (Region.ready md ops listed).contains i && freeB md ops listed asks true i
     | 1 => (Region.ready md ops listed).contains i && freeB md ops listed asks false i
     | _ => match Region.ready md ops listed with
       | [j] => Nat.beq j i
       | _ => false) && ordB md ops asks rest (listed.setIfInBounds i true)

/-- The walk in the chosen order, on frames. -/
def YF (P : Program) (ops : Array Oper) (S : World → Prop) (o : Oper) (v : Value) (f : Nat → Value) : Prop :=
  (gd ops f o = true ∧ ∀ w, S w → qUpon P v w ((execOp (ev f) o).run P w)) ∨ (gd ops f o = false ∧ v = undef)
def Fo (P : Program) (ops : Array Oper) (S : World → Prop) (asks : List Nat) (K : (Nat → Value) → World → Prop) : List (Nat × Nat) → (Nat → Value) → World → Prop
  | [], f, w => K f w
  | (i, t) :: rest, f, w =>
    match ops[i]? with
    | none => False
    | some o => match t with
      | 0 => ∃ v, YF P ops (fun _ => True) o v f ∧ Fo P ops S asks K rest (updO f o.dst v) w
      | 1 => S w ∧ ∃ v, YF P ops S o v f ∧ Fo P ops S asks K rest (updO f o.dst v) w
      | _ => gd ops f o = true ∧ Fop P f o w (fun f' w' => (asks.contains i = true → S w → S w') ∧ Fo P ops S asks K rest f' w')

theorem YS_of_YF {P : Program} {N : Nat} {ops : Array Oper} {S : World → Prop} {o : Oper} {v : Value} {f : Nat → Value} (ho : oOk N ops o = true) (h : YF P ops S o v f) : YS P ops S o v (ofF N f) := by
  unfold YS
  rw [oOk_gd ho, oOk_exec ho]
  exact h

theorem freeB_spec {md : Region.Mode} {ops : Array Oper} {listed : Array Bool} {asks : List Nat} {all : Bool} {i : Nat} {oi : Oper} (hi : ops[i]? = some oi) (h : freeB md ops listed asks all i = true) (j : Nat) (oj : Oper)
    (hj : ops[j]? = some oj) (hne : j ≠ i) (hun : listed.getD j true = false) (hno : ∀ e ∈ oj.after, Region.binds md e = true → e.on ≠ i) : oi.apart ops oj = true ∧ (all = true ∨ asks.contains j = true) := by
  simp only [freeB, hi, List.all_eq_true, List.mem_range] at h
  have h1 := h j (Array.getElem?_eq_some_iff.1 hj).1
  have hb : Nat.beq j i = false := by rw [Bool.eq_false_iff]; intro hh; exact hne (Nat.eq_of_beq_eq_true hh)
  simp only [hj, hb, hun, Bool.false_or, Bool.or_eq_true] at h1
  rcases h1 with h1 | h1
  · obtain ⟨e, he, hbe⟩ := Array.any_eq_true'.1 h1
    simp only [Bool.and_eq_true] at hbe
    exact absurd (Nat.eq_of_beq_eq_true hbe.2) (hno e he hbe.1)
  · simp only [Bool.and_eq_true, Bool.or_eq_true] at h1
    exact h1

def noPanic (Q : Exit → Act → World → Prop) : Exit → Act → World → Prop
  | .normal, a, w => Q .normal a w
  | _, _, _ => False

theorem wpAnyS_of_Fo {P : Program} {N : Nat} {md : Region.Mode} {ops : Array Oper} {S : World → Prop} {asks : List Nat} {K : (Nat → Value) → World → Prop} {Q : Exit → Act → World → Prop}
    (hok : ∀ (j : Nat) (o : Oper), ops[j]? = some o → oOk N ops o = true) (hQ : ∀ f w, K f w → Q .normal (ofF N f) w) :
    ∀ (ord : List (Nat × Nat)) (listed : Array Bool) (f : Nat → Value) (w : World), ordB md ops asks ord listed = true → Fo P ops S asks K ord f w →
      wpAnyS P md ops (noPanic Q) S asks ord.length listed (ofF N f) w := by
  have hsel : ∀ (j : Nat) (o : Oper) cs b, ops[j]? = some o → o.op ≠ .select cs b := fun j o cs b hj => oOk_sel (hok j o hj) cs b
  have hP : ∀ c a w, ¬ noPanic Q (.panic c) a w := fun _ _ _ h => h
  have hL : ¬ LetsOut (noPanic Q) := fun ⟨_, _, h⟩ => h
  intro ord
  induction ord with
  | nil =>
    intro listed f w hB h
    simp only [ordB, List.isEmpty_iff] at hB
    exact ⟨hB, hQ f w h⟩
  | cons p rest ih =>
    obtain ⟨i, t⟩ := p
    intro listed f w hB h
    simp only [ordB, Bool.and_eq_true] at hB
    obtain ⟨hB1, hB2⟩ := hB
    simp only [Fo] at h
    split at h
    · exact h.elim
    · rename_i o ho
      match t, h, hB1 with
      | 0, h, hB1 =>
        obtain ⟨v, hy, hrest⟩ := h
        simp only [Bool.and_eq_true] at hB1
        have hy' : YF P ops (T true S) o v f := by
          rcases hy with ⟨a, b⟩ | hy
          · exact .inl ⟨a, fun w _ => b w trivial⟩
          · exact .inr hy
        refine wpAnyS_first ho hsel hP hL true rest.length listed (ofF N f) w (freeB_spec ho hB1.2) (by simpa using hB1.1) (YS_of_YF (hok i o ho) hy') (.inl rfl) ?_
        rw [ofF_put]
        exact ih _ _ _ hB2 hrest
      | 1, h, hB1 =>
        obtain ⟨hS, v, hy, hrest⟩ := h
        simp only [Bool.and_eq_true] at hB1
        have hy' : YF P ops (T false S) o v f := by
          rcases hy with ⟨a, b⟩ | hy
          · exact .inl ⟨a, fun w hw => b w (hw.resolve_left (by simp))⟩
          · exact .inr hy
        refine wpAnyS_first ho hsel hP hL false rest.length listed (ofF N f) w (freeB_spec ho hB1.2) (by simpa using hB1.1) (YS_of_YF (hok i o ho) hy') (.inr hS) ?_
        rw [ofF_put]
        exact ih _ _ _ hB2 hrest
      | t + 2, h, hB1 =>
        obtain ⟨hg, hf⟩ := h
        have hr : Region.ready md ops listed = [i] := by
          revert hB1
          generalize Region.ready md ops listed = l
          intro hB1
          match l, hB1 with
          | [j], hB1 => rw [Nat.eq_of_beq_eq_true hB1]
        refine ⟨fun h0 => (by rw [hr] at h0; cases h0), fun j hj => ?_⟩
        rw [hr] at hj
        simp only [List.mem_singleton] at hj
        subst hj
        unfold wpOp
        simp only [ho]
        rw [oOk_gd (hok j o ho), if_pos hg]
        refine .inl (Oper.wp_mono ?_ (wp_of_Fop (hok j o ho) hf))
        rintro a w' ⟨g, rfl, h1, h2⟩
        exact ⟨h1, ih _ _ _ hB2 h2⟩

def Ext (w : World) (w' : World) : Prop := ∀ k, k < w.heap.size → w'.heap[k]? = w.heap[k]?
theorem Ext.cell {w w' : World} (h : Ext w w') {a : Addr} {v : Value} (hc : w.cell? a = some v) : w'.cell? a = some v := by
  have hlt : a.block < w.heap.size := World.block_lt_of_cell? w a hc
  rw [← hc]
  exact World.cell?_of_block (h a.block hlt)

/-- THE LAW: a region that draws its order, walked in one chosen order, from the world behind the draw. -/
theorem Cw_drawn {P : Program} {N : Nat} {Q : Exit → (Nat → Value) → World → Prop} {f : Nat → Value} {w : World} {id : Nat} {l : List Oper} (ord : List (Nat × Nat)) (asks : List Nat) (S : World → Prop) (hm : P.follows .mixedOrders = true)
    (hok : l.all (oOk N l.toArray) = true) (hlen : Nat.beq ord.length l.length = true) (hB : ordB .any l.toArray asks ord (Array.replicate l.length false) = true)
    (h : Fo P l.toArray S asks (fun f w => Q .normal f w) ord f w.drew) : Cw P N (.region id l.toArray true) Q f w := by
  have hok' : ∀ (j : Nat) (o : Oper), l.toArray[j]? = some o → oOk N l.toArray o = true := fun j o hj => List.all_eq_true.1 hok o (List.mem_of_getElem? (by simpa using hj))
  have h1 := wpAnyS_of_Fo (P := P) (N := N) (md := .any) (K := fun f w => Q .normal f w) (Q := fun e a w' => ∃ g, a = ofF N g ∧ Q e g w') hok' (fun f w hk => ⟨f, rfl, hk⟩) ord _ f w.drew hB h
  rw [Nat.eq_of_beq_eq_true hlen] at h1
  refine wp_mono (wp_region_any (Q := noPanic fun e a w' => ∃ g, a = ofF N g ∧ Q e g w') hm (wpAny_of_S _ _ _ _ (by simpa using h1))) ?_
  intro e a w' he
  cases e <;> first | exact he | exact he.elim

section
variable {P : Program} {ops : Array Oper} {S : World → Prop} {asks : List Nat} {K : (Nat → Value) → World → Prop} {rest : List (Nat × Nat)} {f : Nat → Value} {w : World} {i : Nat} {o : Oper} {v : Value}
theorem Fo_nil (h : K f w) : Fo P ops S asks K [] f w := h
/-- A pure operation. -/
theorem o0 (ho : ops[i]? = some o) (hg : gd ops f o = true) (hr : ∀ w, (execOp (ev f) o).run P w = .ok (.value v) w) (h : Fo P ops S asks K rest (updO f o.dst v) w) : Fo P ops S asks K ((i, 0) :: rest) f w := by
  simp only [Fo, ho]
  exact ⟨v, .inl ⟨hg, fun w _ => by rw [hr w]; exact ⟨rfl, rfl⟩⟩, h⟩
/-- An operation whose guard says no. -/
theorem o0g (ho : ops[i]? = some o) (hg : gd ops f o = false) (h : Fo P ops S asks K rest (updO f o.dst undef) w) : Fo P ops S asks K ((i, 0) :: rest) f w := by
  simp only [Fo, ho]
  exact ⟨undef, .inr ⟨hg, rfl⟩, h⟩
theorem o1g (ho : ops[i]? = some o) (hS : S w) (hg : gd ops f o = false) (h : Fo P ops S asks K rest (updO f o.dst undef) w) : Fo P ops S asks K ((i, 1) :: rest) f w := by
  simp only [Fo, ho]
  exact ⟨hS, undef, .inr ⟨hg, rfl⟩, h⟩
/-- An operation that reads. -/
theorem o1 (ho : ops[i]? = some o) (hS : S w) (hg : gd ops f o = true) (hr : ∀ w, S w → (execOp (ev f) o).run P w = .ok (.value v) w) (h : Fo P ops S asks K rest (updO f o.dst v) w) : Fo P ops S asks K ((i, 1) :: rest) f w := by
  simp only [Fo, ho]
  exact ⟨hS, v, .inl ⟨hg, fun w hw => by rw [hr w hw]; exact ⟨rfl, rfl⟩⟩, h⟩
/-- A call that only computes. -/
theorem o1c {g : Nat} {args : Array Value} (ho : ops[i]? = some o) (hS : S w) (hg : gd ops f o = true) (hr : ∀ w, (execOp (ev f) o).run P w = .ok (.enter g args) w) (hc : ∀ w, S w → Calls P g args w (fun e w'' => e = .returned v ∧ w'' = w))
    (h : Fo P ops S asks K rest (updO f o.dst v) w) : Fo P ops S asks K ((i, 1) :: rest) f w := by
  simp only [Fo, ho]
  exact ⟨hS, v, .inl ⟨hg, fun w hw => by rw [hr w]; exact ⟨rfl, hc w hw⟩⟩, h⟩
/-- What comes up alone. -/
theorem o2 {w' : World} (ho : ops[i]? = some o) (hg : gd ops f o = true) (hr : (execOp (ev f) o).run P w = .ok (.value v) w') (hS : asks.contains i = true → S w → S w') (h : Fo P ops S asks K rest (updO f o.dst v) w') : Fo P ops S asks K ((i, 2) :: rest) f w := by
  simp only [Fo, ho]
  refine ⟨hg, ?_⟩
  unfold Fop
  rw [hr]
  exact ⟨hS, h⟩
theorem o2s {w' : World} (ho : ops[i]? = some o) (hg : gd ops f o = true) (hr : (execOp (ev f) o).run P w = .ok .skip w') (hS : asks.contains i = true → S w → S w') (h : Fo P ops S asks K rest (updO f o.dst undef) w') : Fo P ops S asks K ((i, 2) :: rest) f w := by
  simp only [Fo, ho]
  refine ⟨hg, ?_⟩
  unfold Fop
  rw [hr]
  exact ⟨hS, h⟩
/-- append, where it comes up alone. -/
theorem o_append {d : Nat} {ty : TypeId} {pos : String} {af : Array Edge} {x y : Operand} {t e : TypeId} {s by' n m c : Nat} {z v : Value} {xs news : List Value} {ad : Addr} (ho : ops[i]? = some ⟨some d, .call ⟨.builtin .append, #[x, y], #[t, t]⟩, ty, pos, af, none⟩)
    (hx : ev f x = v) (hy : ev f y = .slice (some ad) m c) (ht : slz P t = some (e, s, by', z)) (hs : 0 < s) (hzs : z.cells.size = s)
    (hown : w.ownsRow 0 e s v n xs) (hl : news.length = m * s) (hnews : ∀ j u, news[j]? = some u → w.cell? (ad.add j) = some u) (h1 : ∀ u ∈ news, oc u = true) (hm : 0 < m) (hb : (n + m) * by' ≤ 140737488355328) (h63 : n + m ≤ 9223372036854775807)
    (h : ∀ g cap w', w'.ownsRow 0 e s (.slice (some ⟨g, 0, none⟩) (n + m) cap) (n + m) (xs ++ news) → Keeps w w' (fun k => some k = v.ownBlock) → (v.ownBlock = some g ∨ g = w.heap.size) → g < w'.heap.size →
      (asks.contains i = true → S w → S w') ∧ Fo P ops S asks K rest (upd f d (.slice (some ⟨g, 0, none⟩) (n + m) cap)) w') : Fo P ops S asks K ((i, 2) :: rest) f w := by
  obtain ⟨g, cap, w', hr, h2, h3, h4, h5⟩ := r_append (P := P) (f := f) (w := w) (dst := some d) (ty := ty) (pos := pos) (af := af) (gu := none) hx hy ht hs hzs hown hl hnews h1 hm hb h63
  obtain ⟨g1, g2⟩ := h g cap w' h2 h3 h4 h5
  exact o2 ho rfl hr g1 g2
end
end Go.Fw
