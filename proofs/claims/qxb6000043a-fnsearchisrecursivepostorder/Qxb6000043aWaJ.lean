/-
  WALKS, J: (*stepBound).cliqueSteps: what lies in memory; plain laws. Own work.
-/
import Derived.Test.Qxb6000043aWaI
import Derived.ArgAppend
namespace Go.Fw
section
variable {P : Program} {ops : Array Oper} {K : (Nat → Value) → World → Prop} {rest : List Oper} {f : Nat → Value} {w : World} {d : Nat} {dst : Option Tmp} {ty : TypeId} {pos : String} {af : Array Edge} {gu : Option (Nat × Bool)}
/-- append(s, u), where there is room. -/
theorem r_append_in {x y : Operand} {t e : TypeId} {by' b n cap c : Nat} {z u : Value} {ad : Addr} (hx : ev f x = .slice (some ⟨b, 0, none⟩) n cap) (hy : ev f y = .slice (some ad) 1 c) (ht : slz P t = some (e, 1, by', z))
    (hu : w.cell? ad = some u) (ho : oc u = true) (hn : n < cap) (hc : (w.cell? ⟨b, n, none⟩).isSome = true) (hf : w.frozen? ⟨b, n, none⟩ = false) :
    (execOp (ev f) ⟨dst, .call ⟨.builtin .append, #[x, y], #[t, t]⟩, ty, pos, af, gu⟩).run P w = .ok (.value (.slice (some ⟨b, 0, none⟩) (n + 1) cap)) (w.setCell ⟨b, n, none⟩ u) := by
  obtain ⟨hsl, i, hi, hsz, _, _⟩ := slz_spec ht
  have hr := run_append_room_cells (P := P) w t ty e i hsl hi b 0 n cap ad 1 c [u] (by simp [hsz]) (fun j v hj => by
    rcases j with _ | j
    · cases hj; rw [show ad.add 0 = ad from by cases ad; rfl]; exact hu
    · cases hj) (fun v hv => by simp at hv; subst hv; exact oc_oneCell' ho) (by omega) (fun j hj => by
    have hj : j < 1 := hj
    obtain rfl : j = 0 := by omega
    simpa [hsz] using hc) (fun j hj => by
    have hj : j < 1 := hj
    obtain rfl : j = 0 := by omega
    simpa [hsz] using hf)
  simp only [hsz, Nat.mul_one, Nat.zero_add, World.setCells] at hr
  simp only [execOp, resolve, invoke, builtin, Sem.run_bind, Sem.run_pure, Result.andThen_ok, List.map_toArray, List.map_cons, List.map_nil, hx, hy, hr]
theorem s_append_in {x y : Operand} {t e : TypeId} {by' b n cap c : Nat} {z u : Value} {ad : Addr} (hx : ev f x = .slice (some ⟨b, 0, none⟩) n cap) (hy : ev f y = .slice (some ad) 1 c) (ht : slz P t = some (e, 1, by', z))
    (hu : w.cell? ad = some u) (ho : oc u = true) (hn : n < cap) (hc : (w.cell? ⟨b, n, none⟩).isSome = true) (hf : w.frozen? ⟨b, n, none⟩ = false)
    (h : Fl P ops K rest (upd f d (.slice (some ⟨b, 0, none⟩) (n + 1) cap)) (w.setCell ⟨b, n, none⟩ u)) : Fl P ops K (⟨some d, .call ⟨.builtin .append, #[x, y], #[t, t]⟩, ty, pos, af, none⟩ :: rest) f w :=
  Fl_val rfl (r_append_in hx hy ht hu ho hn hc hf) h
/-- append(nil, of nothing). -/
theorem r_append_nil {x y : Operand} {t e : TypeId} {by' c : Nat} {z : Value} {ao : Option Addr} (hx : ev f x = .slice none 0 0) (hy : ev f y = .slice ao 0 c) (ht : slz P t = some (e, 1, by', z)) :
    (execOp (ev f) ⟨dst, .call ⟨.builtin .append, #[x, y], #[t, t]⟩, ty, pos, af, gu⟩).run P w = .ok (.value (.slice none 0 0)) w := by
  obtain ⟨hsl, i, hi, hsz, _, _⟩ := slz_spec ht
  have hr : (Builtin.append_ #[t, t] ty #[.slice none 0 0, .slice ao 0 c]).run P w = .ok (.slice none 0 0) w := by
    cases ao with
    | none => simp [Builtin.append_, run_underlying hsl, sizeOf, typeInfo, hi, Builtin.lenOf, Builtin.firstCells]
    | some a =>
      have hf := run_firstCells_some (P := P) w i.size 0 a 0 c [] (by simp) (by simp)
      simp [Builtin.append_, run_underlying hsl, sizeOf, typeInfo, hi, Builtin.lenOf, hf]
  simp only [execOp, resolve, invoke, builtin, Sem.run_bind, Sem.run_pure, Result.andThen_ok, List.map_toArray, List.map_cons, List.map_nil, hx, hy, hr]
end
theorem own_arr {w : World} {e : TypeId} {g n cap : Nat} {xs : List Value} (h : w.ownsRow 0 e 1 (.slice (some ⟨g, 0, none⟩) n cap) n xs) : ∃ F, arr w g e cap F ∧ n ≤ cap ∧ ∀ (i : Nat) u, xs[i]? = some u → F i = u := by
  rcases h.2 with ⟨h', _⟩ | ⟨g', cap', cur, h', _, hg, h1, _, h2, h3⟩
  · cases h'
  · cases h'
    refine ⟨fun i => cur.getD i undef, ⟨cur, hg, by omega, fun i hi => ?_⟩, h1, fun i u hu => ?_⟩
    · rw [Array.getElem?_eq_getElem (by omega)]
      simp [Array.getD, show i < cur.size by omega]
    · rw [← h3] at hu
      have hi : i < n := by
        have := (List.getElem?_eq_some_iff.1 hu).1
        simp at this; omega
      rw [List.getElem?_take, if_pos (by omega)] at hu
      have hc : i < cur.size := by omega
      simp [hc] at hu
      simp [Array.getD, hc, hu]
end Go.Fw
namespace Go.Proofs.Qxb6000043a
open Go.Fw Go.Proofs.Qxb6000043a.Pl
set_option maxRecDepth 10000

/-- What of a stepBound cliqueSteps does not touch. -/
structure CF where
  vE : Value
  vW : Value
  rt : Value
  vL : Value
  vO : Value
  vPa : Value
  vPs : Value
  vLn : Value
def CF.F (x : CF) (lim n BA BW : Nat) (wk : Int) (vC : Value) (mk : Nat) : Nat → Value := sbF x.vE x.vW (.int .i64 (lim : Int)) x.rt (.int .i64 wk) x.vL x.vO x.vPa x.vPs x.vLn vC (whole BA n) (whole BW n) (.int .i64 (mk : Int))
structure Cl (w : World) (B BA BW n lim : Nat) (x : CF) (wk : Int) (vC : Value) (mk : Nat) (ba wa : Nat → Nat) : Prop where
  st : arr w B 60 14 (x.F lim n BA BW wk vC mk)
  ba : arr w BA 3 n (fun v => .int .i64 (ba v : Int))
  bw : arr w BW 3 n (fun v => .int .i64 (wa v : Int))
  ne : B ≠ BA ∧ B ≠ BW ∧ BA ≠ BW
section
variable {w w' : World} {B BA BW n lim : Nat} {x : CF} {wk : Int} {vC : Value} {mk : Nat} {ba wa : Nat → Nat}
theorem Cl.keep (h : Cl w B BA BW n lim x wk vC mk ba wa) {ex : Nat → Prop} (hk : Keeps w w' ex) (h1 : ¬ ex B) (h2 : ¬ ex BA) (h3 : ¬ ex BW) : Cl w' B BA BW n lim x wk vC mk ba wa :=
  ⟨h.st.keep hk h1, h.ba.keep hk h2, h.bw.keep hk h3, h.ne⟩
theorem Cl.drew (h : Cl w B BA BW n lim x wk vC mk ba wa) : Cl w.drew B BA BW n lim x wk vC mk ba wa := ⟨h.st, h.ba, h.bw, h.ne⟩
theorem Cl.work (h : Cl w B BA BW n lim x wk vC mk ba wa) (z : Int) : Cl (w.setCell ⟨B, 4, none⟩ (.int .i64 z)) B BA BW n lim x z vC mk ba wa := by
  refine ⟨(h.st.set 4 _).congr (fun i hi => ?_), h.ba.other (a := ⟨B, 4, none⟩) (Ne.symm h.ne.1) _, h.bw.other (a := ⟨B, 4, none⟩) (Ne.symm h.ne.2.1) _, h.ne⟩
  match i, hi with
  | 0, _ | 1, _ | 2, _ | 3, _ | 4, _ | 5, _ | 6, _ | 7, _ | 8, _ | 9, _ | 10, _ | 11, _ | 12, _ | 13, _ => rfl
theorem Cl.cand (h : Cl w B BA BW n lim x wk vC mk ba wa) (z : Value) : Cl (w.setCell ⟨B, 10, none⟩ z) B BA BW n lim x wk z mk ba wa := by
  refine ⟨(h.st.set 10 _).congr (fun i hi => ?_), h.ba.other (a := ⟨B, 10, none⟩) (Ne.symm h.ne.1) _, h.bw.other (a := ⟨B, 10, none⟩) (Ne.symm h.ne.2.1) _, h.ne⟩
  match i, hi with
  | 0, _ | 1, _ | 2, _ | 3, _ | 4, _ | 5, _ | 6, _ | 7, _ | 8, _ | 9, _ | 10, _ | 11, _ | 12, _ | 13, _ => rfl
theorem Cl.mark (h : Cl w B BA BW n lim x wk vC mk ba wa) (z : Nat) : Cl (w.setCell ⟨B, 13, none⟩ (.int .i64 (z : Int))) B BA BW n lim x wk vC z ba wa := by
  refine ⟨(h.st.set 13 _).congr (fun i hi => ?_), h.ba.other (a := ⟨B, 13, none⟩) (Ne.symm h.ne.1) _, h.bw.other (a := ⟨B, 13, none⟩) (Ne.symm h.ne.2.1) _, h.ne⟩
  match i, hi with
  | 0, _ | 1, _ | 2, _ | 3, _ | 4, _ | 5, _ | 6, _ | 7, _ | 8, _ | 9, _ | 10, _ | 11, _ | 12, _ | 13, _ => rfl
theorem Cl.setA (h : Cl w B BA BW n lim x wk vC mk ba wa) (d z : Nat) : Cl (w.setCell ⟨BA, d, none⟩ (.int .i64 (z : Int))) B BA BW n lim x wk vC mk (setN ba d z) wa :=
  ⟨h.st.other (a := ⟨BA, d, none⟩) h.ne.1 _, arr_setN h.ba d z, h.bw.other (a := ⟨BA, d, none⟩) (Ne.symm h.ne.2.2) _, h.ne⟩
theorem Cl.setW (h : Cl w B BA BW n lim x wk vC mk ba wa) (d z : Nat) : Cl (w.setCell ⟨BW, d, none⟩ (.int .i64 (z : Int))) B BA BW n lim x wk vC mk ba (setN wa d z) :=
  ⟨h.st.other (a := ⟨BW, d, none⟩) h.ne.2.1 _, h.ba.other (a := ⟨BW, d, none⟩) h.ne.2.2 _, arr_setN h.bw d z, h.ne⟩
end

/-! ### the candidates -/
def kp (x : Nat) (C : List Nat) : List Nat := C.filter (fun c => c != x)
theorem kp_take (x : Nat) (C : List Nat) (i : Nat) (hi : i < C.length) : kp x (C.take (i + 1)) = if C[i] = x then kp x (C.take i) else kp x (C.take i) ++ [C[i]] := by
  unfold kp
  rw [← List.take_append_getElem hi, List.filter_append]
  by_cases h : C[i] = x
  · rw [if_pos h]; simp [h]
  · rw [if_neg h]; simp [h]
theorem kp_len (x : Nat) (C : List Nat) : (kp x C).length ≤ C.length := List.length_filter_le _ _
theorem kp_mem (x y : Nat) (C : List Nat) : y ∈ kp x C ↔ y ∈ C ∧ y ≠ x := by simp [kp]
theorem kp_drop (x : Nat) (C : List Nat) (h : C.Nodup) (hx : x ∈ C) : (kp x C).length + 1 = C.length := by
  have : kp x C = C.erase x := by unfold kp; rw [List.Nodup.erase_eq_filter h]
  rw [this, List.length_erase_of_mem hx]
  have := List.length_pos_of_mem hx
  omega
theorem kp_not (x : Nat) (C : List Nat) (hx : x ∉ C) : kp x C = C := by
  unfold kp
  rw [List.filter_eq_self]
  intro a ha
  simp
  exact fun e => hx (e ▸ ha)
/-- The loop's state after i candidates. -/
def Filt (w : World) (H : Nat) (vC vK : Value) (C : List Nat) (x i : Nat) : Prop :=
  (vC = .slice none 0 0 ∧ vK = .slice none 0 0 ∧ C = []) ∨ ∃ g cap F, vC = .slice (some ⟨g, 0, none⟩) C.length cap ∧ vK = .slice (some ⟨g, 0, none⟩) (kp x (C.take i)).length cap ∧ C.length ≤ cap ∧ H ≤ g ∧ arr w g 54 cap F ∧
    (∀ (p u : Nat), (kp x (C.take i))[p]? = some u → F p = .int .i32 (u : Int)) ∧ (∀ (p u : Nat), i ≤ p → C[p]? = some u → F p = .int .i32 (u : Int))
/-- What b.candidates holds. -/
def Cand (w : World) (H : Nat) (vC : Value) (C : List Nat) : Prop :=
  (vC = .slice none 0 0 ∧ C = []) ∨ ∃ g cap F, vC = .slice (some ⟨g, 0, none⟩) C.length cap ∧ C.length ≤ cap ∧ H ≤ g ∧ arr w g 54 cap F ∧ ∀ (p u : Nat), C[p]? = some u → F p = .int .i32 (u : Int)
theorem Cand.val {w : World} {H : Nat} {vC : Value} {C : List Nat} (h : Cand w H vC C) : ∃ a cap, vC = .slice a C.length cap := by
  rcases h with ⟨rfl, rfl⟩ | ⟨g, cap, F, rfl, _⟩
  · exact ⟨_, _, rfl⟩
  · exact ⟨_, _, rfl⟩
theorem Cand.keep {w w' : World} {H : Nat} {vC : Value} {C : List Nat} {ex : Nat → Prop} (h : Cand w H vC C) (hk : Keeps w w' ex) (hx : ∀ q, H ≤ q → ¬ ex q) : Cand w' H vC C := by
  rcases h with h | ⟨g, cap, F, h1, h2, h3, h4, h5⟩
  · exact .inl h
  · exact .inr ⟨g, cap, F, h1, h2, h3, h4.keep hk (hx g h3), h5⟩
theorem Filt.keep {w w' : World} {H : Nat} {vC vK : Value} {C : List Nat} {x i : Nat} {ex : Nat → Prop} (h : Filt w H vC vK C x i) (hk : Keeps w w' ex) (hx : ∀ q, H ≤ q → ¬ ex q) : Filt w' H vC vK C x i := by
  rcases h with h | ⟨g, cap, F, h1, h2, h3, h4, h5, h6⟩
  · exact .inl h
  · exact .inr ⟨g, cap, F, h1, h2, h3, h4, h5.keep hk (hx g h4), h6⟩
theorem Cand.filt {w : World} {H x : Nat} {vC : Value} {C : List Nat} (h : Cand w H vC C) {a : Option Addr} {cap : Nat} (hv : vC = .slice a C.length cap) : Filt w H vC (.slice a 0 cap) C x 0 := by
  rcases h with ⟨h, rfl⟩ | ⟨g, cap', F, h1, h2, h3, h4, h5⟩
  · rw [h] at hv; cases hv; exact .inl ⟨h, rfl, rfl⟩
  · rw [h1] at hv; cases hv
    exact .inr ⟨g, _, F, h1, rfl, h2, h3, h4, fun p u hu => by simp [kp] at hu, fun p u _ hu => h5 p u hu⟩
theorem Filt.done {w : World} {H x i : Nat} {vC vK : Value} {C : List Nat} (h : Filt w H vC vK C x i) (hi : i = C.length) : Cand w H vK (kp x C) := by
  subst hi
  rcases h with ⟨_, rfl, rfl⟩ | ⟨g, cap, F, h1, h2, h3, h4, h5, h6, _⟩
  · exact .inl ⟨rfl, rfl⟩
  · rw [List.take_length] at h2 h6
    exact .inr ⟨g, cap, F, h2, Nat.le_trans (kp_len x C) h3, h4, h5, h6⟩
theorem Filt.form {w : World} {H x i : Nat} {vC vK : Value} {C : List Nat} (h : Filt w H vC vK C x i) (hi : i < C.length) : ∃ g cap F, vC = .slice (some ⟨g, 0, none⟩) C.length cap ∧ vK = .slice (some ⟨g, 0, none⟩) (kp x (C.take i)).length cap ∧ C.length ≤ cap ∧ H ≤ g ∧ arr w g 54 cap F ∧
    (∀ (p u : Nat), (kp x (C.take i))[p]? = some u → F p = .int .i32 (u : Int)) ∧ (∀ (p u : Nat), i ≤ p → C[p]? = some u → F p = .int .i32 (u : Int)) := by
  rcases h with ⟨_, _, rfl⟩ | h
  · simp at hi
  · exact h
theorem kp_room (x i : Nat) (C : List Nat) (hi : i < C.length) : (kp x (C.take i)).length ≤ i := by
  have := kp_len x (C.take i)
  rw [List.length_take] at this
  omega
theorem Filt.pass {w : World} {H x i : Nat} {vC vK : Value} {C : List Nat} (h : Filt w H vC vK C x i) (hi : i < C.length) (he : C[i] = x) : Filt w H vC vK C x (i + 1) := by
  have hk := kp_take x C i hi
  rw [if_pos he] at hk
  obtain ⟨g, cap, F, h1, h2, h3, h4, h5, h6, h7⟩ := h.form hi
  refine .inr ⟨g, cap, F, h1, ?_, h3, h4, h5, ?_, fun p u hp hu => h7 p u (by omega) hu⟩
  · rw [hk]; exact h2
  · rw [hk]; exact h6
theorem Filt.put {w : World} {H x i g cap : Nat} {F : Nat → Value} {C : List Nat} (hi : i < C.length) (he : C[i] ≠ x) (h3 : C.length ≤ cap) (h4 : H ≤ g) (h5 : arr w g 54 cap F)
    (h6 : ∀ (p u : Nat), (kp x (C.take i))[p]? = some u → F p = .int .i32 (u : Int)) (h7 : ∀ (p u : Nat), i ≤ p → C[p]? = some u → F p = .int .i32 (u : Int)) :
    Filt (w.setCell ⟨g, (kp x (C.take i)).length, none⟩ (.int .i32 (C[i] : Int))) H (.slice (some ⟨g, 0, none⟩) C.length cap) (.slice (some ⟨g, 0, none⟩) ((kp x (C.take i)).length + 1) cap) C x (i + 1) := by
  have hk := kp_take x C i hi
  rw [if_neg he] at hk
  have hr := kp_room x i C hi
  refine .inr ⟨g, cap, _, rfl, ?_, h3, h4, h5.set _ _, fun p u hu => ?_, fun p u hp hu => ?_⟩
  · rw [hk]; simp
  · rw [hk] at hu
    by_cases hp : p = (kp x (C.take i)).length
    · subst hp
      rw [upd_same]
      rw [List.getElem?_append_right (Nat.le_refl _)] at hu
      simp at hu
      rw [hu]
    · rw [upd_ne _ _ hp]
      have hlt : p < (kp x (C.take i)).length := by
        have := (List.getElem?_eq_some_iff.1 hu).1
        simp at this
        omega
      rw [List.getElem?_append_left hlt] at hu
      exact h6 p u hu
  · rw [upd_ne _ _ (by omega)]
    exact h7 p u (by omega) hu
/-! ### the marks -/
structure Mk (e : Nat → Nat) (x mk t : Nat) (ba : Nat → Nat) : Prop where
  le : ∀ u, ba u ≤ mk
  own : ba x < mk
  dn : ∀ t', t' < t → ba (e t') = mk
theorem Mk.go {e : Nat → Nat} {x mk t : Nat} {ba : Nat → Nat} (h : Mk e x mk t ba) (hne : e t ≠ x) : Mk e x mk (t + 1) (setN ba (e t) mk) := by
  refine ⟨fun u => ?_, ?_, fun t' ht' => ?_⟩
  · unfold setN; split
    · omega
    · exact h.le u
  · unfold setN; rw [if_neg (fun e' => hne e'.symm)]; exact h.own
  · unfold setN; split
    · rfl
    · rename_i hn
      by_cases ht : t' = t
      · subst ht; exact (hn rfl).elim
      · exact h.dn t' (by omega)
theorem dn_go {e : Nat → Nat} {mk t : Nat} {wa : Nat → Nat} (h : ∀ t', t' < t → wa (e t') = mk) : ∀ t', t' < t + 1 → setN wa (e t) mk (e t') = mk := by
  intro t' ht'
  unfold setN; split
  · rfl
  · rename_i hn
    by_cases ht : t' = t
    · subst ht; exact (hn rfl).elim
    · exact h t' (by omega)
end Go.Proofs.Qxb6000043a
