/-
  WALKS, E: (*stepBound).search: what lies in memory. Own work.
-/
import Derived.Test.Qxb6000043aWaD
import Derived.Test.Qxb6000043aWaC
import Derived.Test.Qxb6000043aPlB
import Derived.WalkSmall
namespace Go.Proofs.Qxb6000043a
open Go.Fw Go.Proofs.Qxb6000043a.Pl Go.RowKit
set_option maxRecDepth 10000

def curs : List (Nat × Nat) → List Value
  | [] => []
  | p :: l => .int .i32 (p.1 : Int) :: .int .i64 (p.2 : Int) :: curs l
theorem curs_len : ∀ l, (curs l).length = l.length * 2
  | [] => rfl
  | p :: l => by simp [curs, curs_len l]; omega
theorem curs_append : ∀ a b, curs (a ++ b) = curs a ++ curs b
  | [], b => rfl
  | p :: a, b => by simp [curs, curs_append a b]
theorem curs_oc (l : List (Nat × Nat)) : ∀ u ∈ curs l, oc u = true := by
  induction l with
  | nil => intro u hu; simp [curs] at hu
  | cons p l ih =>
    intro u hu
    simp only [curs, List.mem_cons] at hu
    rcases hu with rfl | rfl | hu
    · rfl
    · rfl
    · exact ih u hu

/-- What of a stepBound the search does not touch: the fields but for work, order and path. -/
structure Fix where
  vE : Value
  vW : Value
  lim : Value
  rt : Value
  vPs : Value
  vLn : Value
  vC : Value
  vBA : Value
  vWA : Value
  mrk : Value
def Fix.F (x : Fix) (BL n : Nat) (wk : Int) (vO vPa : Value) : Nat → Value := sbF x.vE x.vW x.lim x.rt (.int .i64 wk) (whole BL n) vO vPa x.vPs x.vLn x.vC x.vBA x.vWA x.mrk

/-- The state of the search in memory. -/
structure Rep (w : World) (H B BL n : Nat) (x : Fix) (vO vPa : Value) (wk : Int) (s : St) : Prop where
  st : arr w B 60 14 (x.F BL n wk vO vPa)
  le : arr w BL 21 n (fun v => .int .i32 (s.left v))
  od : w.ownsRow 0 54 1 vO s.order.length (i32s s.order)
  pa : w.ownsRow 0 66 2 vPa s.path.length (curs s.path.reverse)
  oh : ∀ g, vO.ownBlock = some g → H ≤ g
  ph : ∀ g, vPa.ownBlock = some g → H ≤ g
  ap : ∀ g, vO.ownBlock = some g → vPa.ownBlock ≠ some g
  bh : B < H ∧ BL < H ∧ B ≠ BL
section
variable {w w' : World} {H B BL n : Nat} {x : Fix} {vO vPa : Value} {wk : Int} {s : St}
theorem Rep.drew (h : Rep w H B BL n x vO vPa wk s) : Rep w.drew H B BL n x vO vPa wk s := ⟨h.st, h.le, h.od, h.pa, h.oh, h.ph, h.ap, h.bh⟩
/-- left[v] = z. -/
theorem Rep.left (h : Rep w H B BL n x vO vPa wk s) (v : Nat) (z : Int) : Rep (w.setCell ⟨BL, v, none⟩ (.int .i32 z)) H B BL n x vO vPa wk ⟨setI s.left v z, s.order, s.path⟩ := by
  have hk := Keeps.setCell w ⟨BL, v, none⟩ (.int .i32 z)
  obtain ⟨h1, h2, h3⟩ := h.bh
  refine ⟨h.st.keep hk (fun e => h3 e), (h.le.set v _).congr (fun i _ => ?_), own_keep h.od hk (fun g hg e => ?_), own_keep h.pa hk (fun g hg e => ?_), h.oh, h.ph, h.ap, h.bh⟩
  · by_cases hi : i = v
    · subst hi; rw [upd_same]; simp [setI]
    · rw [upd_ne _ _ hi]; simp [setI, hi]
  · have := h.oh g hg
    have e : g = BL := e
    omega
  · have := h.ph g hg
    have e : g = BL := e
    omega
/-- work = z. -/
theorem Rep.work (h : Rep w H B BL n x vO vPa wk s) (z : Int) : Rep (w.setCell ⟨B, 4, none⟩ (.int .i64 z)) H B BL n x vO vPa z s := by
  have hk := Keeps.setCell w ⟨B, 4, none⟩ (.int .i64 z)
  obtain ⟨h1, h2, h3⟩ := h.bh
  refine ⟨(h.st.set 4 _).congr (fun i hi => ?_), h.le.keep hk (fun e => h3 e.symm), own_keep h.od hk (fun g hg e => ?_), own_keep h.pa hk (fun g hg e => ?_), h.oh, h.ph, h.ap, h.bh⟩
  · match i, hi with
    | 0, _ | 1, _ | 2, _ | 3, _ | 4, _ | 5, _ | 6, _ | 7, _ | 8, _ | 9, _ | 10, _ | 11, _ | 12, _ | 13, _ => rfl
  · have := h.oh g hg
    have e : g = B := e
    omega
  · have := h.ph g hg
    have e : g = B := e
    omega
/-- top.taken++. -/
theorem Rep.taken {g cap v t : Nat} {rest : List (Nat × Nat)} {left : Nat → Int} {order : List Nat} (h : Rep w H B BL n x vO (.slice (some ⟨g, 0, none⟩) (rest.length + 1) cap) wk ⟨left, order, (v, t) :: rest⟩) :
    Rep (w.setCell ⟨g, rest.length * 2 + 1, none⟩ (.int .i64 ((t + 1 : Nat) : Int))) H B BL n x vO (.slice (some ⟨g, 0, none⟩) (rest.length + 1) cap) wk ⟨left, order, (v, t + 1) :: rest⟩ := by
  have hk := Keeps.setCell w ⟨g, rest.length * 2 + 1, none⟩ (.int .i64 ((t + 1 : Nat) : Int))
  obtain ⟨h1, h2, h3⟩ := h.bh
  have hg := h.ph g rfl
  refine ⟨h.st.keep hk (fun e => ?_), h.le.keep hk (fun e => ?_), own_keep h.od hk (fun g' hg' e => ?_), ?_, h.oh, h.ph, h.ap, h.bh⟩
  · have e : B = g := e
    omega
  · have e : BL = g := e
    omega
  · have e : g' = g := e
    subst e
    exact h.ap g' hg' rfl
  · have := (h.pa.stored (rest.length * 2 + 1) (.int .i64 ((t + 1 : Nat) : Int))).1
    have e : (curs ((v, t) :: rest).reverse).set (rest.length * 2 + 1) (.int .i64 ((t + 1 : Nat) : Int)) = curs ((v, t + 1) :: rest).reverse := by
      simp only [List.reverse_cons, curs_append]
      rw [List.set_append_right _ _ (by rw [curs_len]; simp)]
      rw [curs_len, List.length_reverse, show rest.length * 2 + 1 - rest.length * 2 = 1 from by omega]
      rfl
    simp only [List.length_cons] at this ⊢
    rw [e] at this
    exact this
/-- path = path[:len(path)-1]. -/
theorem Rep.pop {g cap v t : Nat} {rest : List (Nat × Nat)} {left : Nat → Int} {order : List Nat} (h : Rep w H B BL n x vO (.slice (some ⟨g, 0, none⟩) (rest.length + 1) cap) wk ⟨left, order, (v, t) :: rest⟩) :
    Rep (w.setCell ⟨B, 7, none⟩ (.slice (some ⟨g, 0, none⟩) rest.length cap)) H B BL n x vO (.slice (some ⟨g, 0, none⟩) rest.length cap) wk ⟨left, order, rest⟩ := by
  have hk := Keeps.setCell w ⟨B, 7, none⟩ (.slice (some ⟨g, 0, none⟩) rest.length cap)
  obtain ⟨h1, h2, h3⟩ := h.bh
  refine ⟨(h.st.set 7 _).congr (fun i hi => ?_), h.le.keep hk (fun e => h3 e.symm), own_keep h.od hk (fun g hg e => ?_), ?_, h.oh, h.ph, h.ap, h.bh⟩
  · match i, hi with
    | 0, _ | 1, _ | 2, _ | 3, _ | 4, _ | 5, _ | 6, _ | 7, _ | 8, _ | 9, _ | 10, _ | 11, _ | 12, _ | 13, _ => rfl
  · have := h.oh g hg
    have e : g = B := e
    omega
  · have hp := h.pa
    simp only [List.reverse_cons, curs_append, List.length_cons] at hp
    have := ownsRow_pop (by rw [curs_len, List.length_reverse]) hp
    refine own_keep this hk (fun g' hg' e => ?_)
    have e : g' = B := e
    have := h.ph g' hg'
    omega
/-- path = append(path, {y, 0}), the field stored. -/
theorem Rep.push {w2 : World} {o : Obj} {g cap y : Nat} (h : Rep w H B BL n x vO vPa wk s)
    (ho : w2.ownsRow 0 66 2 (.slice (some ⟨g, 0, none⟩) (s.path.length + 1) cap) (s.path.length + 1) (curs s.path.reverse ++ [.int .i32 (y : Int), .int .i64 0])) (hk2 : Keeps (w.alloc o) w2 (fun k => some k = vPa.ownBlock))
    (hg : vPa.ownBlock = some g ∨ g = (w.alloc o).heap.size) (hH : H ≤ w.heap.size) :
    Rep (w2.setCell ⟨B, 7, none⟩ (.slice (some ⟨g, 0, none⟩) (s.path.length + 1) cap)) H B BL n x vO (.slice (some ⟨g, 0, none⟩) (s.path.length + 1) cap) wk ⟨s.left, s.order, (y, 0) :: s.path⟩ ∧
    Keeps w (w2.setCell ⟨B, 7, none⟩ (.slice (some ⟨g, 0, none⟩) (s.path.length + 1) cap)) (fun k => k = B ∨ H ≤ k) := by
  have hkw : Keeps w w2 (fun k => some k = vPa.ownBlock) := (Keeps.alloc w o noB).trans hk2 (fun _ _ h => h.elim) (fun _ _ h => h)
  have hks := Keeps.setCell w2 ⟨B, 7, none⟩ (.slice (some ⟨g, 0, none⟩) (s.path.length + 1) cap)
  obtain ⟨h1, h2, h3⟩ := h.bh
  have hgH : H ≤ g := by
    rcases hg with hg | hg
    · exact h.ph g hg
    · rw [size_alloc] at hg; omega
  refine ⟨⟨((h.st.keep hkw (fun e => ?_)).set 7 _).congr (fun i hi => ?_), (h.le.keep hkw (fun e => ?_)).keep hks (fun e => h3 e.symm), own_keep (own_keep h.od hkw (fun g' hg' e => h.ap g' hg' e.symm)) hks (fun g' hg' e => ?_), ?_, h.oh, fun g' hg' => ?_, fun g' hg' hp' => ?_, h.bh⟩, ?_⟩
  · have := h.ph B e.symm; omega
  · match i, hi with
    | 0, _ | 1, _ | 2, _ | 3, _ | 4, _ | 5, _ | 6, _ | 7, _ | 8, _ | 9, _ | 10, _ | 11, _ | 12, _ | 13, _ => rfl
  · have := h.ph BL e.symm; omega
  · have := h.oh g' hg'
    have e : g' = B := e
    omega
  · simp only [List.reverse_cons, curs_append, List.length_cons]
    refine own_keep ho hks (fun g' hg' e => ?_)
    simp [Value.ownBlock] at hg'
    have e : g' = B := e
    omega
  · simp [Value.ownBlock] at hg'; omega
  · simp [Value.ownBlock] at hp'
    subst hp'
    rcases hg with hg | hg
    · exact h.ap g hg' hg
    · have := own_lt h.od hg'
      rw [size_alloc] at hg
      omega
  · exact hkw.trans hks (fun k _ e => .inr (h.ph k e.symm)) (fun k _ e => .inl e)
/-- order = append(order, v), the field stored. -/
theorem Rep.leave {w2 : World} {o : Obj} {g cap y : Nat} (h : Rep w H B BL n x vO vPa wk s)
    (ho : w2.ownsRow 0 54 1 (.slice (some ⟨g, 0, none⟩) (s.order.length + 1) cap) (s.order.length + 1) (i32s s.order ++ [.int .i32 (y : Int)])) (hk2 : Keeps (w.alloc o) w2 (fun k => some k = vO.ownBlock))
    (hg : vO.ownBlock = some g ∨ g = (w.alloc o).heap.size) (hH : H ≤ w.heap.size) :
    Rep (w2.setCell ⟨B, 6, none⟩ (.slice (some ⟨g, 0, none⟩) (s.order.length + 1) cap)) H B BL n x (.slice (some ⟨g, 0, none⟩) (s.order.length + 1) cap) vPa wk ⟨s.left, s.order ++ [y], s.path⟩ ∧
    Keeps w (w2.setCell ⟨B, 6, none⟩ (.slice (some ⟨g, 0, none⟩) (s.order.length + 1) cap)) (fun k => k = B ∨ H ≤ k) := by
  have hkw : Keeps w w2 (fun k => some k = vO.ownBlock) := (Keeps.alloc w o noB).trans hk2 (fun _ _ h => h.elim) (fun _ _ h => h)
  have hks := Keeps.setCell w2 ⟨B, 6, none⟩ (.slice (some ⟨g, 0, none⟩) (s.order.length + 1) cap)
  obtain ⟨h1, h2, h3⟩ := h.bh
  have hgH : H ≤ g := by
    rcases hg with hg | hg
    · exact h.oh g hg
    · rw [size_alloc] at hg; omega
  refine ⟨⟨((h.st.keep hkw (fun e => ?_)).set 6 _).congr (fun i hi => ?_), (h.le.keep hkw (fun e => ?_)).keep hks (fun e => h3 e.symm), ?_, own_keep (own_keep h.pa hkw (fun g' hg' e => h.ap g' e.symm hg')) hks (fun g' hg' e => ?_), fun g' hg' => ?_, h.ph, fun g' hg' hp' => ?_, h.bh⟩, ?_⟩
  · have := h.oh B e.symm; omega
  · match i, hi with
    | 0, _ | 1, _ | 2, _ | 3, _ | 4, _ | 5, _ | 6, _ | 7, _ | 8, _ | 9, _ | 10, _ | 11, _ | 12, _ | 13, _ => rfl
  · have := h.oh BL e.symm; omega
  · have e2 : i32s (s.order ++ [y]) = i32s s.order ++ [.int .i32 (y : Int)] := by simp [i32s]
    simp only [List.length_append, List.length_cons, List.length_nil, Nat.zero_add, e2]
    refine own_keep ho hks (fun g' hg' e => ?_)
    simp [Value.ownBlock] at hg'
    have e : g' = B := e
    omega
  · have := h.ph g' hg'
    have e : g' = B := e
    omega
  · simp [Value.ownBlock] at hg'; omega
  · simp [Value.ownBlock] at hg'
    subst hg'
    rcases hg with hg | hg
    · exact h.ap g hg hp'
    · have := own_lt h.pa hp'
      rw [size_alloc] at hg
      omega
  · exact hkw.trans hks (fun k _ e => .inr (h.oh k e.symm)) (fun k _ e => .inl e)
end
end Go.Proofs.Qxb6000043a
