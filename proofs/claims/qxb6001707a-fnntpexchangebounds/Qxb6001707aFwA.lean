/-
  THE STEPPING FRAME, part 1: a frame is a FUNCTION from slots to values; one law an operation; regions, seq, cond, block, loop. Own work for this seat.
-/
import Derived.Orders
import Derived.Laws.AppendOwn
import Derived.Laws.OwnMore
import Derived.Tactics
import Derived.KernelRfl
import Derived.Deep.LoopGhost
namespace Go.Fw

/-! ### frames -/
def upd (f : Nat → Value) (d : Nat) (v : Value) (i : Nat) : Value := bif Nat.beq i d then v else f i
def updO (f : Nat → Value) (d : Option Tmp) (v : Value) : Nat → Value :=
  match d with
  | some d => upd f d v
  | none => f
def ev (f : Nat → Value) : Operand → Value
  | .tmp t => f t
  | .const v => v
  | .global g => .pointer (some ⟨g, 0, none⟩)
  | .func g => .func (.func g) #[] #[]
def ofF (N : Nat) (f : Nat → Value) : Act := ⟨Array.ofFn (fun i : Fin N => f i.val), []⟩

theorem upd_same (f : Nat → Value) (d : Nat) (v : Value) : upd f d v d = v := by simp [upd]
theorem upd_ne (f : Nat → Value) {d i : Nat} (v : Value) (h : i ≠ d) : upd f d v i = f i := by
  have : Nat.beq i d = false := by rw [Bool.eq_false_iff]; intro hh; exact h (Nat.eq_of_beq_eq_true hh)
  simp [upd, this]
theorem upd_self (f : Nat → Value) (d : Nat) : upd f d (f d) = f := by
  funext i
  by_cases h : i = d
  · subst h; exact upd_same _ _ _
  · exact upd_ne _ _ h
/-- What a slot is known to hold may be written onto the frame. -/
theorem upd_known {f : Nat → Value} {d : Nat} {v : Value} (h : f d = v) : f = upd f d v := by rw [← h, upd_self]

/-- Slots that are known, over a frame of which nothing else is. -/
def sets : List (Nat × Value) → (Nat → Value) → Nat → Value
  | [], g, i => g i
  | (d, v) :: l, g, i => bif Nat.beq i d then v else sets l g i
def known (f : Nat → Value) : List (Nat × Value) → Prop
  | [] => True
  | (d, v) :: l => f d = v ∧ known f l
theorem sets_known {f : Nat → Value} {l : List (Nat × Value)} (h : known f l) : f = sets l f := by
  funext i
  induction l with
  | nil => rfl
  | cons p l ih =>
    obtain ⟨d, v⟩ := p
    obtain ⟨h1, h2⟩ := h
    simp only [sets]
    cases hb : Nat.beq i d with
    | true => rw [Nat.eq_of_beq_eq_true hb]; exact h1
    | false => exact ih h2
theorem sets_ex {f : Nat → Value} (l : List (Nat × Value)) (h : known f l) : ∃ g, f = sets l g := ⟨f, sets_known h⟩

theorem ofF_size (N : Nat) (f : Nat → Value) : (ofF N f).tmps.size = N := by simp [ofF]
theorem ofF_get (N : Nat) (f : Nat → Value) (t : Nat) (h : t < N) : (ofF N f).tmps[t]? = some (f t) := by simp [ofF, h]
theorem ofF_put (N : Nat) (f : Nat → Value) (d : Option Tmp) (v : Value) : (ofF N f).put d v = ofF N (updO f d v) := by
  cases d with
  | none => rfl
  | some d =>
    simp only [ofF, Act.put, updO]
    congr 1
    apply Array.ext
    · simp
    · intro i h1 h2
      simp at h1
      by_cases h : d = i
      · subst h; simp [upd]
      · rw [Array.getElem_setIfInBounds_ne (by simpa using h1) h]
        simp [upd_ne f v (Ne.symm h)]

def xOk (N : Nat) : Operand → Bool
  | .tmp t => decide (t < N)
  | _ => true
theorem eval_ofF {N : Nat} {f : Nat → Value} {x : Operand} (h : xOk N x = true) : (ofF N f).eval x = ev f x := by
  cases x with
  | tmp t =>
    have : t < N := of_decide_eq_true h
    simp [Act.eval, ev, ofF_get N f t this]
  | _ => rfl

/-! ### one operation -/
def isSel : Op → Bool
  | .select _ _ => true
  | _ => false
def gOk (N : Nat) (ops : Array Oper) (o : Oper) : Bool :=
  match o.guard with
  | none => true
  | some (j, _) => match (ops[j]?).bind (·.dst) with
    | some t => decide (t < N)
    | none => true
def oOk (N : Nat) (ops : Array Oper) (o : Oper) : Bool := (o.op.operands.toList.all (xOk N)) && !isSel o.op && gOk N ops o
theorem oOk_sel {N : Nat} {ops : Array Oper} {o : Oper} (h : oOk N ops o = true) : ∀ cs b, o.op ≠ .select cs b := by
  intro cs b hb
  simp [oOk, hb, isSel] at h
theorem oOk_exec {N : Nat} {ops : Array Oper} {o : Oper} (h : oOk N ops o = true) (f : Nat → Value) : execOp (ofF N f).eval o = execOp (ev f) o := by
  refine execOp_congr o (oOk_sel h) fun x hx => eval_ofF ?_
  simp only [oOk, Bool.and_eq_true] at h
  exact List.all_eq_true.1 h.1.1 x (by simpa using hx)

/-- The guard, on the frame. -/
def gd (ops : Array Oper) (f : Nat → Value) (o : Oper) : Bool :=
  match o.guard with
  | none => true
  | some (j, want) => match (ops[j]?).bind (·.dst) with
    | some t => match f t with
      | .bool b => b == want
      | _ => false
    | none => false
theorem oOk_gd {N : Nat} {ops : Array Oper} {o : Oper} (h : oOk N ops o = true) (f : Nat → Value) : Region.wanted o (yielded ops (ofF N f).tmps) = gd ops f o := by
  simp only [oOk, Bool.and_eq_true] at h
  have h2 := h.2
  unfold Region.wanted gd
  unfold gOk at h2
  cases hg : o.guard with
  | none => rfl
  | some gw =>
    obtain ⟨j, want⟩ := gw
    simp only [hg] at h2 ⊢
    unfold yielded
    cases ht : (ops[j]?).bind (·.dst) with
    | none => simp
    | some t =>
      simp only [ht, decide_eq_true_eq] at h2
      simp only [Option.bind_some, ofF_get N f t h2]
      cases f t <;> simp

/-- What an operation does to the frame and the world. -/
def Fupon (P : Program) (f : Nat → Value) (dst : Option Tmp) (K : (Nat → Value) → World → Prop) : Result Next → Prop
  | .ok (.value v) w' => K (updO f dst v) w'
  | .ok .skip w' => K (updO f dst undef) w'
  | .ok (.enter g args) w' => Calls P g args w' fun e w'' => ∃ v, e = .returned v ∧ K (updO f dst v) w''
  | _ => False
def Fop (P : Program) (f : Nat → Value) (o : Oper) (w : World) (K : (Nat → Value) → World → Prop) : Prop := Fupon P f o.dst K ((execOp (ev f) o).run P w)

/-- The post on acts that belongs to a post on frames. -/
def lift (N : Nat) (K : (Nat → Value) → World → Prop) (a : Act) (w : World) : Prop := ∃ f, a = ofF N f ∧ K f w

theorem wp_of_Fop {P : Program} {N : Nat} {ops : Array Oper} {o : Oper} {f : Nat → Value} {w : World} {K : (Nat → Value) → World → Prop} {Q : Exit → Act → World → Prop}
    (ho : oOk N ops o = true) (h : Fop P f o w K) : o.wp P (ofF N f) w (lift N K) Q := by
  unfold Oper.wp
  rw [oOk_exec ho]
  unfold Fop at h
  generalize (execOp (ev f) o).run P w = r at *
  cases r with
  | ok n w' =>
    cases n <;> simp only [Fupon] at h
    case value v => exact ⟨_, ofF_put N f o.dst v, h⟩
    case skip => exact ⟨_, ofF_put N f o.dst undef, h⟩
    case enter g args =>
      refine Calls.mono h fun e w'' ⟨v, he, hk⟩ => ?_
      subst he
      exact ⟨_, ofF_put N f o.dst v, hk⟩
  | halt x w' => simp only [Fupon] at h

/-- The operations of a plain region, one behind the other. -/
def Fl (P : Program) (ops : Array Oper) (K : (Nat → Value) → World → Prop) : List Oper → (Nat → Value) → World → Prop
  | [], f, w => K f w
  | o :: rest, f, w => if gd ops f o then Fop P f o w (Fl P ops K rest) else Fl P ops K rest (updO f o.dst undef) w

theorem wpOps_of_Fl {P : Program} {N : Nat} {ops : Array Oper} {K : (Nat → Value) → World → Prop} {Q : Exit → Act → World → Prop}
    (hQ : ∀ f w, K f w → Q .normal (ofF N f) w) :
    ∀ (l : List Oper), l.all (oOk N ops) = true → ∀ f w, Fl P ops K l f w → wpList P ops Q l (ofF N f) w := by
  intro l
  induction l with
  | nil => intro _ f w h; exact hQ _ _ h
  | cons o rest ih =>
    intro hall f w h
    simp only [List.all_cons, Bool.and_eq_true] at hall
    simp only [Fl] at h
    refine wpList_step fun K' hK' => ?_
    rw [oOk_gd hall.1]
    by_cases hg : gd ops f o = true
    · rw [if_pos hg] at h ⊢
      refine Oper.wp_mono ?_ (wp_of_Fop (Q := Q) hall.1 h)
      rintro a w' ⟨g, rfl, hk⟩
      exact hK' _ _ (ih hall.2 g w' hk)
    · rw [if_neg hg] at h ⊢
      rw [ofF_put]
      exact hK' _ _ (ih hall.2 _ w h)

/-! ### code -/
def Cw (P : Program) (N : Nat) (c : Code) (Q : Exit → (Nat → Value) → World → Prop) (f : Nat → Value) (w : World) : Prop :=
  c.wp P (fun e a w' => ∃ g, a = ofF N g ∧ Q e g w') (ofF N f) w

section
variable {P : Program} {N : Nat} {Q : Exit → (Nat → Value) → World → Prop} {f : Nat → Value} {w : World}

def thn (K : (Nat → Value) → World → Prop) (Q : Exit → (Nat → Value) → World → Prop) : Exit → (Nat → Value) → World → Prop
  | .normal, f, w => K f w
  | e, f, w => Q e f w
def inB (id : Nat) (Q : Exit → (Nat → Value) → World → Prop) : Exit → (Nat → Value) → World → Prop
  | .exit j, f, w => bif Nat.beq j id then Q .normal f w else Q (.exit j) f w
  | e, f, w => Q e f w

theorem Cw_mono {c : Code} {Q' : Exit → (Nat → Value) → World → Prop} (h : Cw P N c Q f w) (hq : ∀ e f w, Q e f w → Q' e f w) : Cw P N c Q' f w :=
  wp_mono h fun _ _ _ ⟨g, hg, hk⟩ => ⟨g, hg, hq _ _ _ hk⟩

theorem Cw_region {id : Nat} {l : List Oper} (hok : l.all (oOk N l.toArray) = true) (h : Fl P l.toArray (fun f w => Q .normal f w) l f w) : Cw P N (.region id l.toArray false) Q f w :=
  wp_region_lit (wpOps_of_Fl (Q := fun e a w' => ∃ g, a = ofF N g ∧ Q e g w') (fun f _ hk => ⟨f, rfl, hk⟩) l hok f w h)

theorem Cw_seq {x y : Code} (h : Cw P N x (thn (Cw P N y Q) Q) f w) : Cw P N (.seq x y) Q f w := by
  refine wp_seq (wp_mono h ?_)
  rintro e a w' ⟨g, rfl, hk⟩
  cases e <;> first | exact hk | exact ⟨g, rfl, hk⟩
theorem Cw_block {id : Nat} {c : Code} (h : Cw P N c (inB id Q) f w) : Cw P N (.block id c) Q f w := by
  refine wp_block (wp_mono h ?_)
  rintro e a w' ⟨g, rfl, hk⟩
  cases e with
  | exit j =>
    simp only [Exit.inBlock, inB] at hk ⊢
    by_cases hj : j = id
    · subst hj
      rw [if_pos rfl]
      exact ⟨g, rfl, by simpa using hk⟩
    · rw [if_neg hj]
      have : Nat.beq j id = false := by rw [Bool.eq_false_iff]; intro hh; exact hj (Nat.eq_of_beq_eq_true hh)
      rw [this] at hk
      exact ⟨g, rfl, hk⟩
  | _ => exact ⟨g, rfl, hk⟩
theorem Cw_skip (h : Q .normal f w) : Cw P N .skip Q f w := wp_skip ⟨f, rfl, h⟩
theorem Cw_ret (h : Q .ret f w) : Cw P N .ret Q f w := wp_ret ⟨f, rfl, h⟩
theorem Cw_exit {id : Nat} (h : Q (.exit id) f w) : Cw P N (.exit id) Q f w := wp_exit ⟨f, rfl, h⟩
theorem Cw_cond {t : Nat} {x y : Code} {b : Bool} (ht : decide (t < N) = true) (hb : f t = .bool b) (h1 : b = true → Cw P N x Q f w) (h2 : b = false → Cw P N y Q f w) : Cw P N (.cond (.tmp t) x y) Q f w := by
  have he : (ofF N f).eval (.tmp t) = .bool b := by rw [eval_ofF (x := .tmp t) ht]; exact hb
  exact wp_cond_split he h1 h2
theorem Cw_true {t : Nat} {x y : Code} (ht : decide (t < N) = true) {b : Bool} (hb : f t = .bool b) (hb' : b = true) (h : Cw P N x Q f w) : Cw P N (.cond (.tmp t) x y) Q f w :=
  Cw_cond ht hb (fun _ => h) (fun h' => by rw [hb'] at h'; cases h')
theorem Cw_false {t : Nat} {x y : Code} (ht : decide (t < N) = true) {b : Bool} (hb : f t = .bool b) (hb' : b = false) (h : Cw P N y Q f w) : Cw P N (.cond (.tmp t) x y) Q f w :=
  Cw_cond ht hb (fun h' => by rw [hb'] at h'; cases h') (fun _ => h)
/-- A loop: the relation takes a number that every round lowers. -/
theorem Cw_loop {c : Code} (I : Nat → (Nat → Value) → World → Prop) (n0 : Nat) (h0 : I n0 f w)
    (round : ∀ n f w, I n f w → Cw P N c (thn (fun f' w' => ∃ m, m < n ∧ I m f' w') Q) f w) : Cw P N (.loop c) Q f w := by
  refine wp_loop_ghost (fun n a w => ∃ g, a = ofF N g ∧ I n g w) n0 ⟨f, rfl, h0⟩ ?_
  rintro n a w' ⟨g, rfl, hI⟩
  refine wp_mono (round n g w' hI) ?_
  rintro e a' w'' ⟨g', rfl, hk⟩
  cases e with
  | normal =>
    obtain ⟨m, hm, hk⟩ := hk
    exact ⟨m, hm, g', rfl, hk⟩
  | _ => exact ⟨g', rfl, hk⟩
theorem ib_n {id : Nat} (h : Q .normal f w) : inB id Q .normal f w := h
theorem ex_in {id : Nat} (h : Q .normal f w) : inB id Q (.exit id) f w := by
  have : Nat.beq id id = true := Nat.beq_refl id
  simp only [inB, this]
  exact h
theorem ex_th {id : Nat} {K : (Nat → Value) → World → Prop} (h : Q (.exit id) f w) : thn K Q (.exit id) f w := h
theorem th_n {K : (Nat → Value) → World → Prop} (h : K f w) : thn K Q .normal f w := h
end
end Go.Fw
