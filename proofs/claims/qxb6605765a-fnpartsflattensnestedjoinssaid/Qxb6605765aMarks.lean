/-
  Marks w v0 k v: the value v is v0 under k marks of Retryable, as the memory of w has it.
-/
import Derived.Test.Qxb6605765aParts1
import Derived.Below
namespace Go.Proofs.Qxb6605765a
open Go.RowKit

theorem cell_alloc {w : World} {a : Addr} {v : Value} (o : Obj) (h : w.cell? a = some v) : (w.alloc o).cell? a = some v :=
  cell_later ((Below.refl _ _).alloc (Nat.le_refl _) o) h

def Marks (w : World) (v0 : Value) : Nat → Value → Prop
  | 0, v => v = v0
  | k + 1, v => ∃ b o u, v = .iface 43 (.pointer (some ⟨b, o, none⟩)) ∧ w.cell? ⟨b, o, none⟩ = some u ∧ Marks w v0 k u

theorem Marks.later {w w' : World} (hb : Below w.heap.size w w') {v0 : Value} : ∀ {k : Nat} {v : Value}, Marks w v0 k v → Marks w' v0 k v := by
  intro k
  induction k with
  | zero => intro v h; exact h
  | succ k ih =>
    rintro v ⟨b, o, u, rfl, hc, h⟩
    exact ⟨b, o, u, rfl, cell_later hb hc, ih h⟩

theorem Marks.iface {w : World} {v0 : Value} (h0 : ∃ t x, v0 = .iface t x) : ∀ {k : Nat} {v : Value}, Marks w v0 k v → ∃ t x, v = .iface t x := by
  intro k
  cases k with
  | zero => intro v h; obtain ⟨t, x, rfl⟩ := h0; exact ⟨t, x, h⟩
  | succ k => rintro v ⟨b, o, u, rfl, hc, h⟩; exact ⟨_, _, rfl⟩

theorem Marks.lay {w : World} {v0 : Value} {s : ByteArray} (h0 : Lay w s 0 v0) : ∀ {k : Nat} {v : Value}, Marks w v0 k v → Lay w s k v := by
  intro k
  induction k with
  | zero => intro v h; have e : v = v0 := h; rw [e]; exact h0
  | succ k ih =>
    rintro v ⟨b, o, u, rfl, hc, h⟩
    exact ⟨b, o, u, rfl, hc, ih h⟩

/-- One mark more. -/
theorem Marks.mark {w : World} {v0 : Value} {k : Nat} {t : TypeId} {x : Value} (h : Marks w v0 k (.iface t x)) :
    Marks (w.alloc (.cells #[.iface t x] 45)) v0 (k + 1) (.iface 43 (.pointer (some ⟨w.heap.size, 0, none⟩))) :=
  ⟨w.heap.size, 0, .iface t x, rfl, by simp, h.later ((Below.refl _ _).alloc (Nat.le_refl _) _)⟩
end Go.Proofs.Qxb6605765a
