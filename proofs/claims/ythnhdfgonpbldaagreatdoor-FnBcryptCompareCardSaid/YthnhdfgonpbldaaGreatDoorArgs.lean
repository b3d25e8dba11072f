/- What the arguments of the statements on bcrypt give a walk: a password, a salt; and all data at once. -/
import Derived.Test.YthnhdfgonpbldaaGreatDoorDatas
namespace Go.Proofs.YthnhdfgonpbldaaGreatDoor
open Go.RowKit Go.Lib Go.Great Go.ChangeShapes
theorem data_all {w : World} (m : laidMet Tryz.prog Great.laidD w) (h7 : w.cell? ⟨7, 0, none⟩ = some (.iface 111 (.agg #[.pointer (some ⟨14, 54, none⟩)]))) : ∃ a0 a1, Data w tabT a0 a1 := by
  obtain ⟨a0, a1, s⟩ := sen_of m h7
  refine ⟨a0, a1, ⟨?_, ?_, s⟩⟩
  · exact tabs_of (Lib.laidMet.reads m (List.mem_of_getElem? (i := 9) rfl)) (Lib.laidMet.reads m (List.mem_of_getElem? (i := 5) rfl)) (Lib.laidMet.reads m (List.mem_of_getElem? (i := 6) rfl)) (Lib.laidMet.reads m (List.mem_of_getElem? (i := 7) rfl)) (Lib.laidMet.reads m (List.mem_of_getElem? (i := 8) rfl))
  · exact mag_of (Lib.laidMet.reads m (List.mem_of_getElem? (i := 12) rfl))
theorem u8_range {z : Int} (h : (Lit.int .u8 z).wf = true) : 0 ≤ z ∧ z < 256 := by
  have h2 : (0 : Int) ≤ z ∧ z ≤ 255 := by
    simpa [Lit.wf, IntKind.min, IntKind.max, IntKind.signed, IntKind.bits] using h
  omega
set_option maxRecDepth 100000 in
/-- A slice of bytes as a password. -/
theorem pass_of {H : Type} {enc : TypeId × Value → H} {w : World} {a : Option Addr} {n c : Nat} {d : DataW H} {p : List MemPlace} (h : DataW.Trod enc Tryz.prog w 0 (fun _ => true) true 22 (.slice a n c) d p) : ∃ pw : List Nat, pw.length = n ∧ Pass w a c pw := by
  obtain ⟨fuel, h⟩ := h
  rcases open_ints Tryz.underlying22 Tryz.underlying5 cells5' h with ⟨e, _⟩ | ⟨a', len, cap, zs, e, _, hl, hm, hz, _, hc, hw⟩
  · simp [Value.cells] at e
    obtain ⟨rfl, rfl, rfl⟩ := e
    exact ⟨[], rfl, ⟨fun _ => ⟨rfl, rfl⟩, (fun b e => by cases e)⟩, (fun x hx => by cases hx), Nat.le_refl _, by omega⟩
  · simp [Value.cells] at e
    obtain ⟨rfl, rfl, rfl⟩ := e
    simp only [if_true] at hz
    have hr : ∀ j, j < c → 0 ≤ zs.getD j 0 ∧ zs.getD j 0 < 256 := fun j hj => by
      have hm : zs.getD j 0 ∈ zs := by
        rw [List.getD, List.getElem?_eq_getElem (by omega : j < zs.length)]
        exact List.getElem_mem _
      have := hw _ hm
      generalize zs.getD j 0 = z at this ⊢
      exact u8_range this
    have hl2 : ((zs.take n).map Int.toNat).length = n := by simp; omega
    have hg : ∀ j, j < n → ((zs.take n).map Int.toNat).getD j 0 = (zs.getD j 0).toNat := fun j hj => by
      simp [List.getD, List.getElem?_take_of_lt hj, show j < zs.length by omega]
    refine ⟨(zs.take n).map Int.toNat, hl2, ⟨(fun e => by cases e), fun b e j hj => ?_⟩, fun x hx => ?_, by rw [hl2]; exact hl, by unfold maxLen at hm; omega⟩
    · obtain rfl := Option.some.inj e
      rw [hl2] at hj
      rw [hg j hj, hc j (by omega), Int.toNat_of_nonneg (hr j (by omega)).1]
    · obtain ⟨z, hz', rfl⟩ := List.mem_map.1 hx
      have := u8_range (hw z (List.mem_of_mem_take hz'))
      omega
set_option maxRecDepth 100000 in
theorem okWide38 {w : World} {r : Reach} {b0 : Nat} {v : Value} (h : Value.okWide Tryz.prog w r b0 38 v) : ∃ xs : Array Value, v = .agg xs ∧ xs.size = 16 := by
  simp only [Value.okWide, Tryz.underlying38] at h
  obtain ⟨cs, h1, h2, _⟩ := h
  exact ⟨cs, h1, by rw [h2]; kernel_rfl⟩
theorem under38 : Tryz.prog.underlying 38 = some (.array 16 5) := by kernel_rfl
set_option maxRecDepth 100000 in
/-- An array of 16 bytes as a salt. -/
theorem salt_of {H : Type} {enc : TypeId × Value → H} {w : World} {xs : Array Value} {d : DataW H} {p : List MemPlace} (hs : xs.size = 16) (h : DataW.Trod enc Tryz.prog w 0 (fun _ => true) true 38 (.agg xs) d p) :
    ∃ sl : List Nat, sl.length = 16 ∧ (∀ x ∈ sl, x < 256) ∧ xs = (bcells sl).toArray := by
  obtain ⟨fuel, h⟩ := h
  obtain ⟨ys, m, _, _, _, hy, he⟩ := DataW.trod_array under38 h
  rw [cells5'] at he
  have key : ∀ i, i < 16 → ∃ z : Nat, z < 256 ∧ xs[i]? = some (.int .u8 (z : Int)) := fun i hi => by
    have e := he i hi
    rw [List.getElem?_eq_getElem (by omega)] at e
    obtain ⟨z, hc, _, hw⟩ := DataW.trod_int Tryz.underlying5 e
    have hr := u8_range hw
    refine ⟨z.toNat, by omega, ?_⟩
    have h0 := congrArg (·[0]?) hc
    simp only [Nat.mul_one, List.getElem?_take_of_lt (show 0 < 1 by decide), List.getElem?_drop, Nat.add_zero, List.getElem?_cons_zero] at h0
    rw [Int.toNat_of_nonneg hr.1, ← h0]
    simp [Value.cells]
  have hch : ∃ f : Nat → Nat, ∀ i, i < 16 → f i < 256 ∧ xs[i]? = some (.int .u8 (f i : Int)) := by
    refine ⟨fun i => if h : i < 16 then Classical.choose (key i h) else 0, fun i hi => ?_⟩
    have := Classical.choose_spec (key i hi)
    simpa [hi] using this
  obtain ⟨f, hf⟩ := hch
  refine ⟨(List.range 16).map f, by simp, fun x hx => ?_, ?_⟩
  · obtain ⟨i, hi, rfl⟩ := List.mem_map.1 hx
    exact (hf i (List.mem_range.1 hi)).1
  · apply Array.ext_getElem?
    intro i
    by_cases hi : i < 16
    · rw [(hf i hi).2]
      simp [bcells, hi]
    · rw [Array.getElem?_eq_none (by omega), Array.getElem?_eq_none (by simp [bcells]; omega)]
end Go.Proofs.YthnhdfgonpbldaaGreatDoor
