/-
  THE STEPPING FRAME, part 9: a struct is equal to itself; a struct laid into a block. Own work.
-/
import Derived.Test.Qxb6001707aFwH
namespace Go.Fw
def partV (P : Program) (t : TypeId) (xs : Array Value) (off : Nat) : Option Value :=
  match P.underlying t with
  | some (.struct _) => match P.info? t with
    | some i => some (.agg (xs.extract off (off + i.size)))
    | none => none
  | some .bool => xs[off]?
  | some (.int _) => xs[off]?
  | some .string => xs[off]?
  | some (.pointer _) => xs[off]?
  | _ => none
/-- Of a shape in which every value is equal to itself. -/
def rfB (P : Program) : Nat → TypeId → Value → Bool
  | 0, _, _ => false
  | n + 1, t, v => match P.underlying t, v with
    | some .bool, .bool _ => true
    | some (.int _), .int _ _ => true
    | some .string, .string _ => true
    | some (.pointer e), .pointer _ => (P.info? e).isSome
    | some (.struct fs), .agg xs => !(P.stoodInHeld t) && fs.toList.all (fun f => f.name == "_" || (match partV P f.type xs f.offset with | some u => rfB P n f.type u | none => false))
    | _, _ => false
theorem run_part {P : Program} {t : TypeId} {xs : Array Value} {off : Nat} {u : Value} (h : partV P t xs off = some u) (w : World) : (part t xs off).run P w = .ok u w := by
  unfold partV at h
  split at h
  · rename_i fs hu
    split at h
    · rename_i i hi
      cases h
      simp [part, isAgg, run_underlying hu, sizeOf, typeInfo, hi]
    · cases h
  all_goals first
    | (rename_i hu; simp [part, isAgg, run_underlying hu, h])
    | cases h
theorem eq_refl_fields {P : Program} {d : Nat} {xs : Array Value} : ∀ (fs : List Field), (∀ f, f ∈ fs → f.name ≠ "_" → ∃ u, (∀ w, (part f.type xs f.offset).run P w = .ok u w) ∧ ∀ w, (Op.equalIn d f.type u u).run P w = .ok true w) → ∀ w, (Op.eqFields d xs xs fs).run P w = .ok true w
  | [], _, w => by simp [Op.eqFields]
  | f :: fs, h, w => by
    have ih := eq_refl_fields fs (fun g hg => h g (List.mem_cons_of_mem _ hg))
    by_cases hn : f.name = "_"
    · simp [Op.eqFields, hn, ih w]
    · obtain ⟨u, h1, h2⟩ := h f (List.mem_cons_self ..) hn
      simp [Op.eqFields, hn, h1, h2, ih w]
theorem eq_refl {P : Program} : ∀ (n : Nat) (t : TypeId) (v : Value), rfB P n t v = true → ∀ (d : Nat) (w : World), (Op.equalIn (n + d) t v v).run P w = .ok true w
  | 0, t, v, h, d, w => by cases h
  | n + 1, t, v, h, d, w => by
    rw [show n + 1 + d = (n + d) + 1 by omega]
    unfold rfB at h
    split at h
    · rename_i hu; simp [Op.equalIn, run_underlying hu]
    · rename_i hu; simp [Op.equalIn, run_underlying hu]
    · rename_i hu; simp [Op.equalIn, run_underlying hu, bytes_beq]
    · rename_i e p hu
      obtain ⟨i, hi⟩ := Option.isSome_iff_exists.1 h
      cases p with
      | none => simp [Op.equalIn, run_underlying hu]
      | some a => simp [Op.equalIn, run_underlying hu, sizeOf, typeInfo, hi, run_sameAddr_same]
    · rename_i fs xs hu
      simp only [Bool.and_eq_true, Bool.not_eq_true', List.all_eq_true, Bool.or_eq_true, beq_iff_eq] at h
      have hf : P.fieldsOf t = fs := by simp [Program.fieldsOf, hu]
      rw [run_equalIn_struct w (n + d) t xs xs (by rw [hf]; exact hu) h.1, hf]
      refine eq_refl_fields fs.toList (fun f hfm hn => ?_) w
      rcases h.2 f hfm with h1 | h1
      · exact (hn h1).elim
      · split at h1
        · rename_i u hp
          exact ⟨u, run_part hp, fun w => eq_refl n f.type u h1 d w⟩
        · cases h1
    · cases h
section
variable {P : Program} {f : Nat → Value} {w : World} {dst : Option Tmp} {ty : TypeId} {pos : String} {af : Array Edge} {gu : Option (Nat × Bool)}
theorem r_eqlA {x y : Operand} {t t' : TypeId} {cs : Array Value} (hm : P.eqGuardType P.depth t = false) (hr : rfB P 8 t (.agg cs) = true) (hx : ev f x = .agg cs) (hy : ev f y = .agg cs) : (execOp (ev f) ⟨dst, .binOp .eql t x y t', ty, pos, af, gu⟩).run P w = .ok (.value (.bool true)) w :=
  r_bin hx hy (fun w => run_eqGuard_agg w _ t x y cs cs hm) (fun w => by rw [run_eql_struct, eq_refl 8 t _ hr 9992 w]; rfl)
theorem r_neqA {x y : Operand} {t t' : TypeId} {cs : Array Value} (hm : P.eqGuardType P.depth t = false) (hr : rfB P 8 t (.agg cs) = true) (hx : ev f x = .agg cs) (hy : ev f y = .agg cs) : (execOp (ev f) ⟨dst, .binOp .neq t x y t', ty, pos, af, gu⟩).run P w = .ok (.value (.bool false)) w :=
  r_bin hx hy (fun w => run_eqGuard_agg w _ t x y cs cs hm) (fun w => by rw [run_neq_struct, eq_refl 8 t _ hr 9992 w]; rfl)
end
/-! ### a struct laid into a block -/
theorem keeps_setCells (b : Nat) : ∀ (cs : List Value) (o : Nat) (w : World), Keeps w (w.setCells b o cs) (fun k => k = b)
  | [], _, _ => Keeps.refl _ _
  | v :: cs, o, w => (Keeps.setCell w ⟨b, o, none⟩ v).trans (keeps_setCells b cs (o + 1) _) (fun _ _ h => h) (fun _ _ h => h)
theorem arr_setCells {b n : Nat} {e : TypeId} : ∀ (cs : List Value) (o : Nat) (w : World) (g : Nat → Value), arr w b e n g → arr (w.setCells b o cs) b e n (fun i => if o ≤ i ∧ i < o + cs.length then cs.getD (i - o) undef else g i)
  | [], o, w, g, h => h.congr (fun i _ => by simp; intro h1 h2; omega)
  | v :: cs, o, w, g, h => by
    refine (arr_setCells cs (o + 1) (w.setCell ⟨b, o, none⟩ v) _ (h.set o v)).congr (fun i hi => ?_)
    by_cases h1 : o + 1 ≤ i ∧ i < o + 1 + cs.length
    · rw [if_pos h1, if_pos (by simp only [List.length_cons]; omega)]
      rw [show i - o = (i - (o + 1)) + 1 by omega]
      rfl
    · rw [if_neg h1]
      by_cases h2 : i = o
      · subst h2
        rw [upd_same, if_pos (by simp only [List.length_cons]; omega)]
        simp
      · rw [upd_ne _ _ h2, if_neg (by simp only [List.length_cons]; omega)]
theorem arr.there {w : World} {b n o k : Nat} {e : TypeId} {g : Nat → Value} (h : arr w b e n g) (hk : o + k ≤ n) : w.there b o k := fun j hj => ⟨by rw [h.cell (show o + j < n by omega)]; rfl, h.frozen _⟩
end Go.Fw
