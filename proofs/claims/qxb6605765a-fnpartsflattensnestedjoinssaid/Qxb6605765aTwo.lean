/-
  The two rows that FnPartsOfFlatJoin fills: plain errors, and the errors that are joined. Plain, no walk.
-/
import Derived.Test.Qxb6605765aFlag
namespace Go.Proofs.Qxb6605765a
open Go.RowKit

/-- p is a plain error of text s; e is p, or p marked where f says so. All in blocks from B on. -/
def Item (w : World) (B : Nat) (s : ByteArray) (f : Bool) (p e : Value) : Prop :=
  ∃ b, B ≤ b ∧ p = .iface 52 (.pointer (some ⟨b, 0, none⟩)) ∧ w.cell? ⟨b, 0, none⟩ = some (.string s) ∧
    (f = true → ∃ b', B ≤ b' ∧ e = .iface 43 (.pointer (some ⟨b', 0, none⟩)) ∧ w.cell? ⟨b', 0, none⟩ = some p) ∧ (f = false → e = p)

def Items (w : World) (B : Nat) (xs ys : List Value) (k : Nat) (ps es : List Value) : Prop :=
  ∀ i, i < k → ∃ s, xs.getD i .nilIface = .string s ∧ Item w B s (flagAt ys i) (ps.getD i .nilIface) (es.getD i .nilIface)

theorem Item.kept {w w' : World} {B : Nat} (hc : ∀ b o, B ≤ b → b < w.heap.size → w'.cell? ⟨b, o, none⟩ = w.cell? ⟨b, o, none⟩) {s : ByteArray} {f : Bool} {p e : Value} (h : Item w B s f p e) : Item w' B s f p e := by
  obtain ⟨b, hb, hp, hcb, ht, hf⟩ := h
  have lt : ∀ {b o v}, w.cell? ⟨b, o, none⟩ = some v → b < w.heap.size := fun h => World.block_lt_of_cell? _ _ h
  refine ⟨b, hb, hp, (hc b 0 hb (lt hcb)).trans hcb, fun h => ?_, hf⟩
  obtain ⟨b', hb', he, hcb'⟩ := ht h
  exact ⟨b', hb', he, (hc b' 0 hb' (lt hcb')).trans hcb'⟩

theorem Items.kept {w w' : World} {B : Nat} (hc : ∀ b o, B ≤ b → b < w.heap.size → w'.cell? ⟨b, o, none⟩ = w.cell? ⟨b, o, none⟩) {xs ys ps es : List Value} {k : Nat} (h : Items w B xs ys k ps es) : Items w' B xs ys k ps es :=
  fun i hi => let ⟨s, e, hit⟩ := h i hi; ⟨s, e, hit.kept hc⟩

theorem Items.later {w w' : World} {B : Nat} (hb : Below w.heap.size w w') {xs ys ps es : List Value} {k : Nat} (h : Items w B xs ys k ps es) : Items w' B xs ys k ps es :=
  h.kept fun _ _ _ hl => hb.cell hl

/-- What the loop holds of the two rows, at the heads P and E. -/
def TwoOf (W wr : World) (P E n : Nat) (xs ys : List Value) (k : Nat) (ps es : List Value) : Prop :=
  wr.ownsRow W.heap.size 24 1 (.slice (some ⟨P, 0, none⟩) n n) n ps ∧ wr.ownsRow W.heap.size 24 1 (.slice (some ⟨E, 0, none⟩) n n) n es ∧ Items wr (E + 1) xs ys k ps es ∧ Below W.heap.size W wr ∧ P < E ∧ E < wr.heap.size

theorem getD_set_at (l : List Value) (k : Nat) (v d : Value) (h : k < l.length) : (l.set k v).getD k d = v := by
  simp [List.getD_eq_getElem?_getD, h]

theorem getD_set_other (l : List Value) (k i : Nat) (v d : Value) (h : k ≠ i) : (l.set k v).getD i d = l.getD i d := by
  simp [List.getD_eq_getElem?_getD, h]

theorem cell_set_other {w : World} {a : Addr} {u : Value} {b o : Nat} (h : b ≠ a.block) : (w.setCell a u).cell? ⟨b, o, none⟩ = w.cell? ⟨b, o, none⟩ :=
  World.cell?_of_block (w := w) (Below.heap_setCell _ _ _ _ h)

theorem two_step {W wr wf : World} {P E n k : Nat} {xs ys ps es : List Value} {p e : Value} {s : ByteArray} (h : TwoOf W wr P E n xs ys k ps es) (hk : k < n) (hx : xs.getD k .nilIface = .string s)
    (h1 : wf.ownsRow W.heap.size 24 1 (.slice (some ⟨P, 0, none⟩) n n) n (ps.set k p)) (h2 : wf.ownsRow W.heap.size 24 1 (.slice (some ⟨E, 0, none⟩) n n) n (es.set k e))
    (hc : ∀ b o, E + 1 ≤ b → b < wr.heap.size → wf.cell? ⟨b, o, none⟩ = wr.cell? ⟨b, o, none⟩) (hi : Item wf (E + 1) s (flagAt ys k) p e) (hb : Below W.heap.size W wf) (hE : E < wf.heap.size) :
    TwoOf W wf P E n xs ys (k + 1) (ps.set k p) (es.set k e) := by
  obtain ⟨a1, a2, a3, a4, a5, a6⟩ := h
  have l1 := own_len a1
  have l2 := own_len a2
  refine ⟨h1, h2, fun i hik => ?_, hb, a5, hE⟩
  by_cases ei : i = k
  · subst ei
    refine ⟨s, hx, ?_⟩
    rw [getD_set_at _ _ _ _ (by omega), getD_set_at _ _ _ _ (by omega)]
    exact hi
  · obtain ⟨s', e', hit⟩ := a3 i (by omega)
    refine ⟨s', e', ?_⟩
    rw [getD_set_other _ _ _ _ _ (fun h => ei h.symm), getD_set_other _ _ _ _ _ (fun h => ei h.symm)]
    exact hit.kept hc

section
variable {W wr w1 : World} {P E n k : Nat} {xs ys ps es : List Value} {s : ByteArray}

/-- Behind New and the first store: the rows, the frame. -/
theorem two_first (h : TwoOf W wr P E n xs ys k ps es) (hb1 : Below wr.heap.size wr w1) (p : Value) :
    (w1.setCell ⟨P, k, none⟩ p).ownsRow W.heap.size 24 1 (.slice (some ⟨P, 0, none⟩) n n) n (ps.set k p) ∧ (w1.setCell ⟨P, k, none⟩ p).ownsRow W.heap.size 24 1 (.slice (some ⟨E, 0, none⟩) n n) n es ∧
      Below W.heap.size W (w1.setCell ⟨P, k, none⟩ p) := by
  obtain ⟨a1, a2, a3, a4, a5, a6⟩ := h
  have R := (own_later a1 hb1).stored k p
  have hP : W.heap.size ≤ P := (a1.lt P rfl).1
  exact ⟨R.1, (own_later a2 hb1).kept R.2 (.inr (by simp [Value.ownBlock]; omega)), (a4.trans (hb1.mono a4.size)).setCell hP p⟩

theorem row_cell {w : World} {B P n k : Nat} {xs : List Value} (h : w.ownsRow B 24 1 (.slice (some ⟨P, 0, none⟩) n n) n xs) (hk : k < n) : ∃ u, w.cell? ⟨P, k, none⟩ = some u ∧ w.frozen? ⟨P, k, none⟩ = false := by
  have := own_len h
  exact ⟨_, (h.cellAt k (by omega)).trans (List.getElem?_eq_getElem (by omega)), h.frozenAt k⟩

/-- The error is not marked: it is stored as it is. -/
theorem two_plain (h : TwoOf W wr P E n xs ys k ps es) (hk : k < n) (hx : xs.getD k .nilIface = .string s) (hb1 : Below wr.heap.size wr w1)
    (hc1 : w1.cell? ⟨wr.heap.size, 0, none⟩ = some (.string s)) (hf : flagAt ys k = false) :
    TwoOf W ((w1.setCell ⟨P, k, none⟩ (.iface 52 (.pointer (some ⟨wr.heap.size, 0, none⟩)))).setCell ⟨E, k, none⟩ (.iface 52 (.pointer (some ⟨wr.heap.size, 0, none⟩)))) P E n xs ys (k + 1)
      (ps.set k (.iface 52 (.pointer (some ⟨wr.heap.size, 0, none⟩)))) (es.set k (.iface 52 (.pointer (some ⟨wr.heap.size, 0, none⟩)))) := by
  have F := two_first h hb1 (.iface 52 (.pointer (some ⟨wr.heap.size, 0, none⟩)))
  have hh := h
  obtain ⟨a1, a2, a3, a4, a5, a6⟩ := hh
  have R2 := F.2.1.stored k (.iface 52 (.pointer (some ⟨wr.heap.size, 0, none⟩)))
  have hE : W.heap.size ≤ E := (a2.lt E rfl).1
  refine two_step h hk hx (F.1.kept R2.2 (.inr (by simp [Value.ownBlock]; omega))) R2.1 (fun b o hb hl => ?_) ⟨wr.heap.size, a6, rfl, ?_, fun hft => (by rw [hf] at hft; cases hft), fun _ => rfl⟩ (F.2.2.setCell hE _) ?_
  · rw [cell_set_other (by simp; omega), cell_set_other (by simp; omega)]
    exact hb1.cell hl
  · rw [cell_set_other (by simp; omega), cell_set_other (by simp; omega)]
    exact hc1
  · have := hb1.size
    simp [World.setCell]
    omega

/-- The error is marked: a new block lies between the two stores. -/
theorem two_marked (h : TwoOf W wr P E n xs ys k ps es) (hk : k < n) (hx : xs.getD k .nilIface = .string s) (hb1 : Below wr.heap.size wr w1) {wm : World}
    (hbm : Below (w1.setCell ⟨P, k, none⟩ (.iface 52 (.pointer (some ⟨wr.heap.size, 0, none⟩)))).heap.size (w1.setCell ⟨P, k, none⟩ (.iface 52 (.pointer (some ⟨wr.heap.size, 0, none⟩)))) wm)
    (hc1 : w1.cell? ⟨wr.heap.size, 0, none⟩ = some (.string s)) (hcm : wm.cell? ⟨w1.heap.size, 0, none⟩ = some (.iface 52 (.pointer (some ⟨wr.heap.size, 0, none⟩)))) (hf : flagAt ys k = true) :
    TwoOf W (wm.setCell ⟨E, k, none⟩ (.iface 43 (.pointer (some ⟨w1.heap.size, 0, none⟩)))) P E n xs ys (k + 1)
      (ps.set k (.iface 52 (.pointer (some ⟨wr.heap.size, 0, none⟩)))) (es.set k (.iface 43 (.pointer (some ⟨w1.heap.size, 0, none⟩)))) := by
  have F := two_first h hb1 (.iface 52 (.pointer (some ⟨wr.heap.size, 0, none⟩)))
  have hh := h
  obtain ⟨a1, a2, a3, a4, a5, a6⟩ := hh
  have hs1 := hb1.size
  have hlt1 : wr.heap.size < w1.heap.size := World.block_lt_of_cell? _ _ hc1
  have hsz : (w1.setCell ⟨P, k, none⟩ (.iface 52 (.pointer (some ⟨wr.heap.size, 0, none⟩)))).heap.size = w1.heap.size := by simp [World.setCell]
  have R2 := (own_later F.2.1 hbm).stored k (.iface 43 (.pointer (some ⟨w1.heap.size, 0, none⟩)))
  have hE : W.heap.size ≤ E := (a2.lt E rfl).1
  refine two_step h hk hx ((own_later F.1 hbm).kept R2.2 (.inr (by simp [Value.ownBlock]; omega))) R2.1 (fun b o hb hl => ?_) ⟨wr.heap.size, a6, rfl, ?_, fun _ => ⟨w1.heap.size, by omega, rfl, ?_⟩, fun hft => (by rw [hf] at hft; cases hft)⟩ ((F.2.2.trans (hbm.mono F.2.2.size)).setCell hE _) ?_
  · rw [cell_set_other (by simp; omega), hbm.cell (by rw [hsz]; show b < w1.heap.size; omega), cell_set_other (by simp; omega)]
    exact hb1.cell hl
  · rw [cell_set_other (by simp; omega), hbm.cell (by rw [hsz]; exact hlt1), cell_set_other (by simp; omega)]
    exact hc1
  · rw [cell_set_other (by simp; omega)]
    exact hcm
  · have := hbm.size
    simp [World.setCell] at this ⊢
    omega
end

/-- The row E, all filled: no nil among its errors. -/
theorem two_live {w : World} {B : Nat} {xs ys ps es : List Value} {n : Nat} (hl : es.length = n) (h : Items w B xs ys n ps es) : live es = es ∧ ∀ v ∈ es, IsErr v := by
  have hv : ∀ v ∈ es, ∃ t x, v = .iface t x := by
    intro v hv
    obtain ⟨i, hi, rfl⟩ := List.getElem_of_mem hv
    obtain ⟨s, _, b, _, hp, _, ht, hf⟩ := h i (by omega)
    rw [List.getD_eq_getElem?_getD, List.getElem?_eq_getElem hi] at ht hf
    cases hfl : flagAt ys i with
    | true => obtain ⟨b', _, he, _⟩ := ht hfl; exact ⟨_, _, he⟩
    | false => have := hf hfl; rw [hp] at this; exact ⟨_, _, this⟩
  refine ⟨?_, fun v h => .inr (hv v h)⟩
  rw [live, List.filter_eq_self]
  intro v h
  obtain ⟨t, x, rfl⟩ := hv v h
  rfl

theorem flatten_single (es : List Value) : (es.map fun e => [e]).flatten = es := by
  induction es with
  | nil => rfl
  | cons a l ih => simp [ih]

theorem two_parts {w : World} {B : Nat} {xs ys ps es : List Value} {n : Nat} {v : Value} (hl : es.length = n) (h : Items w B xs ys n ps es) (hn : 0 < n) (hj : IsJoin w v es) : PartsOf 1 w v es := by
  refine .inr ⟨es, es.map fun e => [e], hj, by simp, fun i hi => ?_, (flatten_single es).symm, fun e => by rw [e] at hl; simp at hl; omega⟩
  obtain ⟨s, _, b, _, hp, _, ht, hf⟩ := h i (by omega)
  have e1 : (es.map fun e => [e]).getD i [] = [es.getD i .nilIface] := by
    simp [List.getD_eq_getElem?_getD, List.getElem?_eq_getElem hi]
  rw [e1]
  cases hfl : flagAt ys i with
  | true => obtain ⟨b', _, he, _⟩ := ht hfl; exact .inr (.inl ⟨_, he, rfl⟩)
  | false => have := hf hfl; rw [hp] at this; exact .inr (.inr ⟨_, this, rfl⟩)
end Go.Proofs.Qxb6605765a
