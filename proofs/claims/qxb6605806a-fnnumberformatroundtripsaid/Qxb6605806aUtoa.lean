/-
  zzUtoa, by its contract.
-/
import Derived.Test.Qxb6605806aNumber
import Derived.Laws.IdiomStrings
namespace Go.Proofs.Qxb6605806a
open Go.RowKit

def DigL (ds : List UInt8) : Prop := ∀ c ∈ ds, Dig c

theorem pos_nonneg : ∀ (ds : List UInt8), DigL ds → 0 ≤ pos ds
  | [], _ => by simp [pos]
  | c :: t, h => by
    have h1 := (h c (by simp)).1
    have h2 := pos_nonneg t (fun x hx => h x (by simp [hx]))
    have h3 : 0 ≤ ((c.toNat : Int) - 48) * 10 ^ t.length := Int.mul_nonneg (by omega) (Int.pow_nonneg (by omega))
    simp only [pos]
    omega

theorem pow_lt (v j : Nat) (h1 : 1 ≤ v) (x : Int) (hx : (v : Int) * 10 ^ j ≤ x) (hb : x ≤ 9223372036854775807) : j < 19 := by
  rcases Nat.lt_or_ge j 19 with h | h
  · exact h
  · exfalso
    have h2 : (10 : Int) ^ 19 ≤ 10 ^ j := by
      have := Nat.pow_le_pow_right (show 0 < 10 by omega) h
      exact_mod_cast this
    have h3 : (10 : Int) ^ j ≤ (v : Int) * 10 ^ j := by
      have h4 : 0 ≤ ((v : Int) - 1) * 10 ^ j := Int.mul_nonneg (by omega) (Int.pow_nonneg (by omega))
      rw [Int.sub_mul, Int.one_mul] at h4
      omega
    have h5 : (10 : Int) ^ 19 = 10000000000000000000 := by decide +kernel
    omega

theorem digit_byte (v : Nat) : (UInt8.ofNat (48 + v % 10)).toNat = 48 + v % 10 := by
  rw [UInt8.toNat_ofNat']
  omega

/-- One digit more. -/
theorem digit_step (v : Nat) (ds : List UInt8) (x : Int) (hx : x = (v : Int) * 10 ^ ds.length + pos ds) : x = ((v / 10 : Nat) : Int) * 10 ^ (UInt8.ofNat (48 + v % 10) :: ds).length + pos (UInt8.ofNat (48 + v % 10) :: ds) := by
  simp only [pos, List.length_cons, digit_byte, Int.pow_succ]
  rw [hx]
  have e : (v : Int) = ((v / 10 : Nat) : Int) * 10 + ((v % 10 : Nat) : Int) := by omega
  have e2 : ((48 + v % 10 : Nat) : Int) - 48 = ((v % 10 : Nat) : Int) := by omega
  rw [e2]
  conv => lhs; rw [e]
  rw [Int.add_mul, Int.mul_assoc, Int.mul_comm 10 ((10 : Int) ^ ds.length)]
  omega

/-- The buffer at block H, its last cells the digits ds. -/
def Buf (wr : World) (H : Nat) (ds : List UInt8) : Prop :=
  ∃ cur : Array Value, wr.heap[H]? = some (.cells cur 37) ∧ cur.size = 24 ∧ ∀ i (hi : i < ds.length), cur[24 - ds.length + i]? = some (.int .u8 (ds[i].toNat : Int))

theorem Buf.cell {wr : World} {H : Nat} {ds : List UInt8} (h : Buf wr H ds) {k : Nat} (hk : k < 24) : ∃ u, wr.cell? ⟨H, k, none⟩ = some u ∧ wr.frozen? ⟨H, k, none⟩ = false := by
  obtain ⟨cur, h1, h2, _⟩ := h
  exact ⟨cur[k]'(by omega), by simp [World.cell?, h1, h2, hk], frozen_of_row _ _ _ _ _ h1⟩

theorem Buf.store {wr : World} {H : Nat} {ds : List UInt8} (h : Buf wr H ds) {k : Nat} (hk : k + 1 + ds.length = 24) (b : UInt8) : Buf (wr.setCell ⟨H, k, none⟩ (.int .u8 (b.toNat : Int))) H (b :: ds) := by
  obtain ⟨cur, h1, h2, h3⟩ := h
  refine ⟨cur.setIfInBounds k (.int .u8 (b.toNat : Int)), heap_setCell_same _ _ _ _ _ _ h1, by simpa using h2, fun i hi => ?_⟩
  have e : 24 - (b :: ds).length + i = k + i := by simp only [List.length_cons]; omega
  rw [e]
  cases i with
  | zero => simp [Array.getElem?_setIfInBounds]; omega
  | succ i =>
    have hi' : i < ds.length := by simpa using hi
    have h4 := h3 i hi'
    rw [show 24 - ds.length + i = k + (i + 1) by omega] at h4
    rw [Array.getElem?_setIfInBounds_ne (by omega), h4]
    simp

theorem Buf.read {wr : World} {H k : Nat} {ds : List UInt8} (h : Buf wr H ds) (hk : k + ds.length = 24) : ∀ j (hj : j < ds.length), wr.cell? ((⟨H, k, none⟩ : Addr).add j) = some (.int .u8 (ds[j].toNat : Int)) := by
  obtain ⟨cur, h1, h2, h3⟩ := h
  intro j hj
  have hadd : (⟨H, k, none⟩ : Addr).add j = ⟨H, k + j, none⟩ := by unfold Addr.add; split <;> simp_all
  have h4 := h3 j hj
  rw [show 24 - ds.length + j = k + j by omega] at h4
  rw [hadd]
  simpa [World.cell?, h1] using h4

theorem size5 : (Try.prog.info? 5).map (·.size) = some 1 := by kernel_rfl
theorem arr37 : Try.prog.underlying 37 = some (.array (Try.prog.arrayLen 37) (Try.prog.elem 37)) := by kernel_rfl
theorem len37 : Try.prog.arrayLen 37 = 24 := by kernel_rfl
theorem elem37 : Try.prog.elem 37 = 5 := by kernel_rfl

theorem slice37 (H k : Nat) (w : World) (hk : k < 24) : (Instr.sliceAt 37 (.pointer (some ⟨H, 0, none⟩)) (some (.int .i64 (k : Int))) none none).run Try.prog w = .ok (.slice (some ⟨H, k, none⟩) (24 - k) (24 - k)) w := by
  obtain ⟨i, hi, hs⟩ := Option.map_eq_some_iff.1 size5
  rw [run_sliceAt_array_l w 37 ⟨H, 0, none⟩ arr37 .i64 k (by omega) (by rw [len37]; omega), len37, elem37]
  have hne : ¬ 24 = k := by omega
  have hadd : (⟨H, 0, none⟩ : Addr).add k = ⟨H, k, none⟩ := by unfold Addr.add; split <;> simp_all
  simp [sizeOf, typeInfo, hi, hs, slicedAt, hne, hadd]

/-- What zzUtoa hands back: digits that write u. -/
def Writes (w : World) (u : Nat) (e : Ending) (w' : World) : Prop :=
  ∃ ds : List UInt8, e = .returned (.string ⟨ds.toArray⟩) ∧ DigL ds ∧ pos ds = (u : Int) ∧ ds.length ≤ 24 ∧ Below w.heap.size w w'

set_option maxRecDepth 100000 in
theorem utoa_any (u : Nat) (w : World) (h1 : u ≤ 9223372036854775807) :
    Calls Try.prog 11 #[.int .u64 u] w (Writes w u) := by
  by_cases h0 : u = 0
  · subst h0
    go_enter Try.func11, Try.ntmps11
    go_wp2
    go_ret
    exact ⟨[48], rfl, fun c hc => by simp at hc; subst hc; exact ⟨by decide, by decide⟩, by decide, by simp, Below.refl _ _⟩
  · have hne : ((u : Int) == 0) = false := by simp; omega
    go_enter Try.func11, Try.ntmps11
    go_wp2_with fail
    go_loopw [0, 4] (fun q i wr => ∃ (k v : Nat) (ds : List UInt8), k + ds.length = 24 ∧ i = .int .i64 k ∧ q = .int .u64 v ∧ (u : Int) = (v : Int) * 10 ^ ds.length + pos ds ∧ DigL ds ∧ Buf wr w.heap.size ds ∧ Below w.heap.size w wr) (fun q _ _ => (intOf q).toNat)
    case atStart =>
      refine ⟨24, u, [], rfl, rfl, rfl, by simp [pos], fun c hc => by simp at hc, ⟨_, heap_alloc_new w _, rfl, fun i hi => by simp at hi⟩, (Below.refl _ _).alloc (Nat.le_refl _) _⟩
    case round =>
      obtain ⟨k, v, ds, hk, rfl, rfl, hu, hdg, hbuf, hb⟩ := hrel
      by_cases hv : v = 0
      · subst hv
        have hcv := run_convert_bytes_back (P := Try.prog) wr 24 9 5 ⟨w.heap.size, k, none⟩ (24 - k) ds Try.underlying24 Try.underlying5 Try.underlying9 (hbuf.read hk)
        rw [show ds.length = 24 - k by omega] at hcv
        have HU : Hid ((u : Int) = ((0 : Nat) : Int) * 10 ^ ds.length + pos ds) := hu
        have HK : Hid (k + ds.length = 24) := hk
        have hk24 : k ≤ 24 := by omega
        have HDG : Hid (DigL ds) := hdg
        clear hu hk hdg hbuf
        have hkl : k < 24 := by
          rcases Nat.lt_or_ge k 24 with h | h
          · exact h
          · have e : ds = [] := List.eq_nil_of_length_eq_zero (by have := HK.out; omega)
            have := HU.out
            rw [e] at this
            simp [pos] at this
            omega
        have hsl := slice37 w.heap.size k wr hkl
        go_wp2_with fail
        go_ret
        exact ⟨ds, rfl, HDG.out, by have := HU.out; simp at this; exact this.symm, by have := HK.out; omega, hb⟩
      · obtain ⟨k, rfl⟩ : ∃ k', k = k' + 1 := by
          have := pow_lt v ds.length (by omega) u (by have := pos_nonneg ds hdg; omega) (by omega)
          exact ⟨k - 1, by omega⟩
        have hst := digit_step v ds u hu
        have hbs := hbuf.store (k := k) (by omega) (UInt8.ofNat (48 + v % 10))
        rw [digit_byte] at hbs
        obtain ⟨uc, hcell, hfz⟩ := hbuf.cell (k := k) (by omega)
        have HU : Hid (_ = _) := hst
        have HB : Hid (Buf _ w.heap.size _) := hbs
        have HDG : Hid (DigL (UInt8.ofNat (48 + v % 10) :: ds)) := by
          intro c hc
          rcases List.mem_cons.1 hc with rfl | hc
          · exact ⟨by rw [digit_byte]; omega, by rw [digit_byte]; omega⟩
          · exact hdg c hc
        have hb2 : Below w.heap.size w (wr.setCell ⟨w.heap.size, k, none⟩ (.int .u8 ((48 + v % 10 : Nat) : Int))) := hb.setCell (Nat.le_refl _) _
        have hkb : k + 1 ≤ 24 := by omega
        have HK : Hid (k + (UInt8.ofNat (48 + v % 10) :: ds).length = 24) := show _ = _ by simp only [List.length_cons]; omega
        have hvb : (v : Int) ≤ 9223372036854775807 := by
          have h5 := pos_nonneg ds hdg
          have h6 : (v : Int) ≤ (v : Int) * 10 ^ ds.length := by
            have h7 : (1 : Int) ≤ 10 ^ ds.length := by
              have := Nat.pow_le_pow_right (show 0 < 10 by omega) (Nat.zero_le ds.length)
              exact_mod_cast this
            have h8 : 0 ≤ (v : Int) * ((10 : Int) ^ ds.length - 1) := Int.mul_nonneg (by omega) (by omega)
            rw [Int.mul_sub, Int.mul_one] at h8
            omega
          omega
        clear hu hk hdg hbuf hst hbs
        have hv1 : (0 : Int) < (v : Int) := by omega
        rw [show ((k + 1 : Nat) : Int) = (k : Int) + 1 by omega]
        go_wp2_with fail
        go_roundw
        case rel => exact ⟨k, v / 10, _, HK.out, rfl, by go_num, HU.out, HDG.out, HB.out, hb2⟩
        case measure => simp [intOf]; omega
end Go.Proofs.Qxb6605806a
