/-
  Groups joined one on another: what Parts makes of them. Plain, but for two contracts that put the cases together.
-/
import Derived.Test.Qxb6605765aCloneG
namespace Go.Proofs.Qxb6605765a
open Go.RowKit

theorem retryable_any (v : Value) (w : World) (h : IsErr v) :
    Calls Try.prog 8 #[v] w fun e w' => ∃ v', e = .returned v' ∧ ((v = .nilIface ∧ v' = .nilIface) ∨ (∃ t x, v = .iface t x ∧ v' = .iface 43 (.pointer (some ⟨w.heap.size, 0, none⟩)) ∧ w'.cell? ⟨w.heap.size, 0, none⟩ = some v)) ∧ Below w.heap.size w w' := by
  rcases h with rfl | ⟨t, x, rfl⟩
  · exact (retryable_nil w).mono fun e w' ⟨he, hw⟩ => by subst hw; exact ⟨_, he, .inl ⟨rfl, rfl⟩, Below.refl _ _⟩
  · exact (retryable_some t x w).mono fun e w' ⟨he, hw⟩ => by subst hw; exact ⟨_, he, .inr ⟨t, x, rfl, rfl, by simp⟩, (Below.refl _ _).alloc (Nat.le_refl _) _⟩

theorem zzjoin2_any (a b : Value) (w : World) (ha : IsErr a) (hb : IsErr b) :
    Calls Try.prog 16 #[a, b] w fun e w' => ∃ v, e = .returned v ∧ ((a = .nilIface ∧ b = .nilIface ∧ v = .nilIface) ∨ (live [a, b] ≠ [] ∧ IsJoin w' v (live [a, b]))) ∧ Below w.heap.size w w' := by
  by_cases h0 : live [a, b] = []
  · rcases ha with rfl | ⟨t, x, rfl⟩
    · rcases hb with rfl | ⟨t, x, rfl⟩
      · exact (zzjoin2_none w).mono fun e w' ⟨he, hw⟩ => ⟨_, he, .inl ⟨rfl, rfl, rfl⟩, hw⟩
      · exact absurd h0 (live_snoc _ _ _)
    · exact absurd h0 (by simp [live, List.filter_cons, some?])
  · exact (zzjoin2_some a b w ha hb h0).mono fun e w' ⟨v, he, hj, hw⟩ => ⟨v, he, .inr ⟨h0, hj⟩, hw⟩

theorem PartsOf.nil_inv {w : World} : ∀ {d : Nat} {ps : List Value}, PartsOf d w .nilIface ps → ps = [] := by
  intro d
  induction d with
  | zero =>
    rintro ps (⟨_, rfl⟩ | ⟨x, e, _⟩ | ⟨x, e, _⟩)
    · rfl
    · cases e
    · cases e
  | succ d ih =>
    rintro ps (h | ⟨vs, pss, ⟨b, g, c, e, _⟩, _⟩)
    · exact ih h
    · cases e

theorem PartsOf.some_inv {w : World} : ∀ {d : Nat} {t : TypeId} {x : Value} {ps : List Value}, PartsOf d w (.iface t x) ps → ps ≠ [] := by
  intro d
  induction d with
  | zero =>
    rintro t x ps (⟨e, _⟩ | ⟨x, _, rfl⟩ | ⟨x, _, rfl⟩)
    · cases e
    · simp
    · simp
  | succ d ih =>
    rintro t x ps (h | ⟨vs, pss, _, _, _, _, hn⟩)
    · exact ih h
    · exact hn

/-- Parts of the join of two. -/
theorem parts_two {w w' : World} (hb : Below w.heap.size w w') {a b v : Value} {d e : Nat} {pa pb : List Value} (ha : PartsOf d w a pa) (hpb : PartsOf e w b pb) (h0 : live [a, b] ≠ []) (hj : IsJoin w' v (live [a, b])) : PartsOf (max d e + 1) w' v (pa ++ pb) := by
  have ha' := (ha.later hb).up (Nat.le_max_left d e)
  have hb' := (hpb.later hb).up (Nat.le_max_right d e)
  refine .inr ?_
  rcases ha.isErr with rfl | ⟨t, x, rfl⟩
  · obtain rfl := ha.nil_inv
    rcases hpb.isErr with rfl | ⟨t, x, rfl⟩
    · exact absurd rfl h0
    · refine ⟨[.iface t x], [pb], hj, rfl, fun i hi => ?_, by simp, by simpa using hpb.some_inv⟩
      obtain rfl : i = 0 := by simpa using hi
      exact hb'
  · rcases hpb.isErr with rfl | ⟨t', x', rfl⟩
    · obtain rfl := hpb.nil_inv
      refine ⟨[.iface t x], [pa], hj, rfl, fun i hi => ?_, by simp, by simpa using ha.some_inv⟩
      obtain rfl : i = 0 := by simpa using hi
      exact ha'
    · refine ⟨[.iface t x, .iface t' x'], [pa, pb], hj, rfl, fun i hi => ?_, by simp, fun e => ha.some_inv (List.append_eq_nil_iff.1 e).1⟩
      by_cases e : i = 0
      · subst e
        exact ha'
      · obtain rfl : i = 1 := by simp at hi; omega
        exact hb'

/-- What Parts gives for one group: nothing; its plain errors; or the marked join alone. -/
def GPart (w : World) (grp : List Value) (f : Bool) (ps : List Value) : Prop :=
  (grp.length = 0 ∧ ps = []) ∨
  (0 < grp.length ∧ f = true ∧ ∃ b u es, ps = [.iface 43 (.pointer (some ⟨b, 0, none⟩))] ∧ w.cell? ⟨b, 0, none⟩ = some u ∧ ChainOf w grp grp.length u es) ∨
  (0 < grp.length ∧ f = false ∧ ps.length = grp.length ∧ ∀ i, i < grp.length → ∃ s, grp.getD i .nilIface = .string s ∧ Lay w s 0 (ps.getD i .nilIface))

theorem GPart.later {w w' : World} (hb : Below w.heap.size w w') {grp : List Value} {f : Bool} {ps : List Value} (h : GPart w grp f ps) : GPart w' grp f ps := by
  rcases h with h | ⟨h1, h2, b, u, es, e, hc, hch⟩ | ⟨h1, h2, h3, h4⟩
  · exact .inl h
  · exact .inr (.inl ⟨h1, h2, b, u, es, e, cell_later hb hc, hch.later hb⟩)
  · exact .inr (.inr ⟨h1, h2, h3, fun i hi => let ⟨s, e, hl⟩ := h4 i hi; ⟨s, e, hl.later0 hb⟩⟩)

theorem GPart.le {w : World} {grp : List Value} {f : Bool} {ps : List Value} (h : GPart w grp f ps) : ps.length ≤ grp.length := by
  rcases h with ⟨_, rfl⟩ | ⟨h1, _, b, u, es, rfl, _⟩ | ⟨_, _, h3, _⟩
  · simp
  · simp only [List.length_cons, List.length_nil]
    omega
  · omega

def GParts (w : World) (gs : List (List Value)) (ys : List Value) (k : Nat) (pss : List (List Value)) : Prop :=
  pss.length = k ∧ ∀ g, g < k → GPart w (gs.getD g []) (flagAt ys g) (pss.getD g [])

theorem GParts.later {w w' : World} (hb : Below w.heap.size w w') {gs : List (List Value)} {ys : List Value} {k : Nat} {pss : List (List Value)} (h : GParts w gs ys k pss) : GParts w' gs ys k pss :=
  ⟨h.1, fun g hg => (h.2 g hg).later hb⟩

def AccOf (w : World) (gs : List (List Value)) (ys : List Value) (k : Nat) (v : Value) : Prop :=
  ∃ d pss, GParts w gs ys k pss ∧ PartsOf d w v pss.flatten

theorem AccOf.zero (w : World) (gs : List (List Value)) (ys : List Value) : AccOf w gs ys 0 .nilIface :=
  ⟨0, [], ⟨rfl, fun _ hg => absurd hg (Nat.not_lt_zero _)⟩, .inl ⟨rfl, rfl⟩⟩

theorem AccOf.isErr {w : World} {gs : List (List Value)} {ys : List Value} {k : Nat} {v : Value} (h : AccOf w gs ys k v) : IsErr v :=
  let ⟨_, _, _, hp⟩ := h; hp.isErr

theorem getDs_snoc_lt (l : List (List Value)) (x d : List Value) (i : Nat) (h : i < l.length) : (l ++ [x]).getD i d = l.getD i d := by
  simp [List.getD_eq_getElem?_getD, List.getElem?_append_left h]

theorem getDs_snoc_at (l : List (List Value)) (x d : List Value) : (l ++ [x]).getD l.length d = x := by
  simp [List.getD_eq_getElem?_getD]

/-- The group's own error, marked or not: what it gives to Parts. -/
theorem group_part {wr w2 : World} {grp : List Value} {f : Bool} {ge ge' : Value} (hb : Below wr.heap.size wr w2) (h : Chain wr grp grp.length ge)
    (hf : f = false → ge' = ge) (ht : f = true → ((ge = .nilIface ∧ ge' = .nilIface) ∨ (∃ t x, ge = .iface t x ∧ ge' = .iface 43 (.pointer (some ⟨wr.heap.size, 0, none⟩)) ∧ w2.cell? ⟨wr.heap.size, 0, none⟩ = some ge))) :
    ∃ d ps, GPart w2 grp f ps ∧ PartsOf d w2 ge' ps := by
  obtain ⟨es, he⟩ := h
  have he2 := he.later hb
  by_cases h0 : grp.length = 0
  · have hn := he.2.2.2.1 h0
    subst hn
    have hn' : ge' = .nilIface := by
      cases f with
      | false => exact hf rfl
      | true =>
        rcases ht rfl with ⟨_, e⟩ | ⟨t, x, e, _⟩
        · exact e
        · cases e
    subst hn'
    exact ⟨0, [], .inl ⟨h0, rfl⟩, .inl ⟨rfl, rfl⟩⟩
  · obtain ⟨a, rfl⟩ := he.2.2.2.2 (by omega)
    cases f with
    | false =>
      obtain rfl := hf rfl
      exact ⟨grp.length, es, .inr (.inr ⟨by omega, rfl, he.1, he2.2.1⟩), he2.2.2.1⟩
    | true =>
      rcases ht rfl with ⟨e, _⟩ | ⟨t, x, _, e, hc⟩
      · cases e
      · subst e
        exact ⟨0, _, .inr (.inl ⟨by omega, rfl, wr.heap.size, _, es, rfl, hc, he2⟩), .inr (.inl ⟨_, rfl, rfl⟩)⟩

theorem acc_step {wo wr w2 w3 : World} {gs : List (List Value)} {ys : List Value} {k : Nat} {acc ge ge' v : Value} (h : AccOf wo gs ys k acc) (hbo : Below wo.heap.size wo wr) (hch : Chain wr (gs.getD k []) (gs.getD k []).length ge) (hb2 : Below wr.heap.size wr w2)
    (hf : flagAt ys k = false → ge' = ge) (ht : flagAt ys k = true → ((ge = .nilIface ∧ ge' = .nilIface) ∨ (∃ t x, ge = .iface t x ∧ ge' = .iface 43 (.pointer (some ⟨wr.heap.size, 0, none⟩)) ∧ w2.cell? ⟨wr.heap.size, 0, none⟩ = some ge)))
    (hj : (acc = .nilIface ∧ ge' = .nilIface ∧ v = .nilIface) ∨ (live [acc, ge'] ≠ [] ∧ IsJoin w3 v (live [acc, ge']))) (hb3 : Below w2.heap.size w2 w3) : AccOf w3 gs ys (k + 1) v := by
  obtain ⟨d, pss, hg, hp⟩ := h
  obtain ⟨e, ps, hgp, hpp⟩ := group_part hb2 hch hf ht
  have hb02 : Below wo.heap.size wo w2 := hbo.trans (hb2.mono hbo.size)
  have hg3 : GParts w3 gs ys (k + 1) (pss ++ [ps]) := by
    refine ⟨by simp [hg.1], fun g hgk => ?_⟩
    by_cases eg : g < k
    · rw [getDs_snoc_lt _ _ _ _ (by rw [hg.1]; exact eg)]
      exact ((hg.2 g eg).later hb02).later hb3
    · obtain rfl : g = pss.length := by rw [hg.1]; omega
      rw [getDs_snoc_at]
      rw [hg.1]
      exact hgp.later hb3
  rcases hj with ⟨rfl, rfl, rfl⟩ | ⟨h0, hj⟩
  · refine ⟨0, _, hg3, .inl ⟨rfl, ?_⟩⟩
    rw [List.flatten_append, hp.nil_inv, hpp.nil_inv]
    rfl
  · refine ⟨max d e + 1, _, hg3, ?_⟩
    rw [List.flatten_append, List.flatten_singleton]
    exact parts_two hb3 (hp.later hb02) hpp h0 hj

/-! ### lengths and places in a list of lists -/
theorem flatten_len_le : ∀ (a b : List (List Value)), a.length = b.length → (∀ g, g < a.length → (a.getD g []).length ≤ (b.getD g []).length) → a.flatten.length ≤ b.flatten.length := by
  intro a
  induction a with
  | nil => intro b _ _; simp
  | cons x l ih =>
    intro b hl h
    cases b with
    | nil => simp at hl
    | cons y m =>
      have h0 := h 0 (by simp)
      have hr := ih m (by simpa using hl) (fun g hg => by simpa using h (g + 1) (by simpa using hg))
      simp only [List.getD_cons_zero] at h0
      rw [List.flatten_cons, List.flatten_cons, List.length_append, List.length_append]
      omega

theorem flat_part_le (pss : List (List Value)) (g : Nat) (hg : g < pss.length) : (pss.getD g []).length ≤ pss.flatten.length := by
  have h1 := flatten_take_le pss (g + 1)
  rw [flatten_take pss g hg, List.length_append] at h1
  omega

theorem flat_get (pss : List (List Value)) (g j : Nat) (d : Value) (hg : g < pss.length) (hj : j < (pss.getD g []).length) :
    (pss.take g).flatten.length + j < pss.flatten.length ∧ pss.flatten.getD ((pss.take g).flatten.length + j) d = (pss.getD g []).getD j d := by
  have e : pss.flatten = (pss.take g).flatten ++ (pss.getD g [] ++ (pss.drop (g + 1)).flatten) := by
    conv => lhs; rw [← List.take_append_drop (g + 1) pss]
    rw [List.flatten_append, flatten_take pss g hg, List.append_assoc]
  constructor
  · rw [e, List.length_append, List.length_append]
    omega
  · rw [List.getD_eq_getElem?_getD, List.getD_eq_getElem?_getD (l := pss.getD g [])]
    rw [e, List.getElem?_append_right (by omega), Nat.add_sub_cancel_left, List.getElem?_append_left hj]
end Go.Proofs.Qxb6605765a
