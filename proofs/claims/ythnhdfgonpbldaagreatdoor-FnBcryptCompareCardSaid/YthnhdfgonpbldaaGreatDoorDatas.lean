/- What the rows' listed variables give a walk: blowfish's tables, the text that is encrypted, the sentinels. -/
import Derived.Test.YthnhdfgonpbldaaGreatDoorWit
import Derived.Test.YthnhdfgonpbldaaGreatDoorMid
import Derived.Lib.LaidU8
import Derived.Lib.LaidTab
namespace Go.Proofs.YthnhdfgonpbldaaGreatDoor
open Go.RowKit Go.Lib
def numOf (d : DataW Unit) : Nat := match d with
  | .lit (.int _ z) => z.toNat
  | _ => 0
def numsOf (d : DataW Unit) : List Nat := match d with
  | .agg l => l.map numOf
  | _ => []
theorem cell_obj {w : World} {g j : Nat} {v : Value} (h : w.cell? ⟨g, j, none⟩ = some v) : ∃ cs t fr, w.heap[g]? = some (.cells cs t fr) ∧ cs[j]? = some v := by
  unfold World.cell? at h
  simp only at h
  cases ho : w.heap[g]? with
  | none => simp [ho] at h
  | some o =>
    cases o <;> simp_all
theorem row_of_cells {w : World} {g n : Nat} {f : Nat → Value} (h0 : 0 < n) (h : ∀ j, j < n → w.cell? ⟨g, j, none⟩ = some (f j)) : ∃ cs t fr, w.heap[g]? = some (.cells cs t fr) ∧ ∀ j, j < n → cs[j]? = some (f j) := by
  obtain ⟨cs, t, fr, e, _⟩ := cell_obj (h 0 h0)
  refine ⟨cs, t, fr, e, fun j hj => ?_⟩
  obtain ⟨cs', t', fr', e', h'⟩ := cell_obj (h j hj)
  rw [e] at e'
  cases e'
  exact h'
/-- An array of integers that is listed, cell for cell. -/
theorem tab_cells {name : String} {d : DataW Unit} {w : World} {g t e n : Nat} {k : IntKind} {zs : List Nat} (h : VarReads Tryz.prog w name d) (hg : Tryz.prog.globalNamed name = some g) (ht : (Tryz.prog.globals[g]?).map (·.type) = some t)
    (h1 : Tryz.prog.underlying t = some (.array n e)) (h2 : Tryz.prog.underlying e = some (.int k)) (h3 : Tryz.prog.cellsOf e = 1) (h4 : Tryz.prog.cellsOf t = n) (hd : d = tabData k (zs.map fun (x : Nat) => (x : Int))) (hn : zs.length = n) (h0 : 0 < n) :
    ∃ cs t' fr, w.heap[g]? = some (.cells cs t' fr) ∧ ∀ j, j < n → cs[j]? = some (.int k ((zs.getD j 0 : Nat) : Int)) := by
  obtain ⟨g', t', cs, fuel, p, hg', hty, hvar, hr⟩ := h
  obtain rfl := Option.some.inj (hg.symm.trans hg')
  obtain rfl := Option.some.inj (ht.symm.trans hty)
  rw [hd] at hr
  have hcs := cells_of_tab h1 h2 h3 h4 hr
  refine row_of_cells h0 fun j hj => ?_
  rw [World.var?_cell hg hvar j, ← Array.getElem?_toList, hcs]
  simp [List.getD, show j < zs.length by omega]
def nP : List Nat := numsOf Rows.laid_pub_wardkeep_pub_crypto_blowfish_p
def nS0 : List Nat := numsOf Rows.laid_pub_wardkeep_pub_crypto_blowfish_s0
def nS1 : List Nat := numsOf Rows.laid_pub_wardkeep_pub_crypto_blowfish_s1
def nS2 : List Nat := numsOf Rows.laid_pub_wardkeep_pub_crypto_blowfish_s2
def nS3 : List Nat := numsOf Rows.laid_pub_wardkeep_pub_crypto_blowfish_s3
/-- The five tables, one behind the other. -/
def tabT (j : Nat) : Nat := (nP ++ (nS0 ++ (nS1 ++ (nS2 ++ nS3)))).getD j 0
theorem nP_length : nP.length = 18 := by decide +kernel
theorem nS0_length : nS0.length = 256 := by decide +kernel
theorem nS1_length : nS1.length = 256 := by decide +kernel
theorem nS2_length : nS2.length = 256 := by decide +kernel
theorem nS3_length : nS3.length = 256 := by decide +kernel
theorem all_lt : ((nP ++ (nS0 ++ (nS1 ++ (nS2 ++ nS3)))).all fun x => decide (x < 4294967296)) = true := by decide +kernel
theorem tabT_lt (j : Nat) : tabT j < 4294967296 := by
  unfold tabT
  by_cases h : j < (nP ++ (nS0 ++ (nS1 ++ (nS2 ++ nS3)))).length
  · have hm : (nP ++ (nS0 ++ (nS1 ++ (nS2 ++ nS3)))).getD j 0 ∈ nP ++ (nS0 ++ (nS1 ++ (nS2 ++ nS3))) := by
      rw [List.getD, List.getElem?_eq_getElem h]
      exact List.getElem_mem _
    have := List.all_eq_true.1 all_lt _ hm
    simpa using this
  · rw [List.getD, List.getElem?_eq_none (by omega)]
    decide
theorem getD_app (a b : List Nat) (j : Nat) : (a ++ b).getD (a.length + j) 0 = b.getD j 0 := by
  rw [List.getD, List.getElem?_append_right (by omega), Nat.add_sub_cancel_left]
  rfl
theorem getD_left (a b : List Nat) (j : Nat) (h : j < a.length) : (a ++ b).getD j 0 = a.getD j 0 := by
  rw [List.getD, List.getElem?_append_left h]
  rfl
theorem dP : (Rows.laid_pub_wardkeep_pub_crypto_blowfish_p : DataW Unit) = tabData .u32 (nP.map fun (x : Nat) => (x : Int)) := by kernel_rfl
theorem dS0 : (Rows.laid_pub_wardkeep_pub_crypto_blowfish_s0 : DataW Unit) = tabData .u32 (nS0.map fun (x : Nat) => (x : Int)) := by kernel_rfl
theorem dS1 : (Rows.laid_pub_wardkeep_pub_crypto_blowfish_s1 : DataW Unit) = tabData .u32 (nS1.map fun (x : Nat) => (x : Int)) := by kernel_rfl
theorem dS2 : (Rows.laid_pub_wardkeep_pub_crypto_blowfish_s2 : DataW Unit) = tabData .u32 (nS2.map fun (x : Nat) => (x : Int)) := by kernel_rfl
theorem dS3 : (Rows.laid_pub_wardkeep_pub_crypto_blowfish_s3 : DataW Unit) = tabData .u32 (nS3.map fun (x : Nat) => (x : Int)) := by kernel_rfl
theorem dM : (Rows.laid_pub_wardkeep_pub_crypto_bcrypt_magicCipherData : DataW Unit) = tabData .u8 (magicB.map fun (x : Nat) => (x : Int)) := by kernel_rfl
theorem tabs_of {w : World} (hp : VarReads Tryz.prog w "pub-wardkeep/pub/crypto/blowfish.p" Rows.laid_pub_wardkeep_pub_crypto_blowfish_p) (h0 : VarReads Tryz.prog w "pub-wardkeep/pub/crypto/blowfish.s0" Rows.laid_pub_wardkeep_pub_crypto_blowfish_s0)
    (h1 : VarReads Tryz.prog w "pub-wardkeep/pub/crypto/blowfish.s1" Rows.laid_pub_wardkeep_pub_crypto_blowfish_s1) (h2 : VarReads Tryz.prog w "pub-wardkeep/pub/crypto/blowfish.s2" Rows.laid_pub_wardkeep_pub_crypto_blowfish_s2)
    (h3 : VarReads Tryz.prog w "pub-wardkeep/pub/crypto/blowfish.s3" Rows.laid_pub_wardkeep_pub_crypto_blowfish_s3) : Tabs w tabT := by
  have c29 : Tryz.prog.cellsOf 29 = 1 := by kernel_rfl
  have u29 : Tryz.prog.underlying 29 = some (.int .u32) := by kernel_rfl
  have u30 : Tryz.prog.underlying 30 = some (.array 18 29) := by kernel_rfl
  have u31 : Tryz.prog.underlying 31 = some (.array 256 29) := by kernel_rfl
  have c30 : Tryz.prog.cellsOf 30 = 18 := by kernel_rfl
  have c31 : Tryz.prog.cellsOf 31 = 256 := by kernel_rfl
  obtain ⟨x0, t0, f0, a0, b0⟩ := tab_cells (g := 2) (t := 30) hp (by kernel_rfl) (by kernel_rfl) u30 u29 c29 c30 dP nP_length (by decide)
  obtain ⟨x1, t1, f1, a1, b1⟩ := tab_cells (g := 3) (t := 31) h0 (by kernel_rfl) (by kernel_rfl) u31 u29 c29 c31 dS0 nS0_length (by decide)
  obtain ⟨x2, t2, f2, a2, b2⟩ := tab_cells (g := 4) (t := 31) h1 (by kernel_rfl) (by kernel_rfl) u31 u29 c29 c31 dS1 nS1_length (by decide)
  obtain ⟨x3, t3, f3, a3, b3⟩ := tab_cells (g := 5) (t := 31) h2 (by kernel_rfl) (by kernel_rfl) u31 u29 c29 c31 dS2 nS2_length (by decide)
  obtain ⟨x4, t4, f4, a4, b4⟩ := tab_cells (g := 6) (t := 31) h3 (by kernel_rfl) (by kernel_rfl) u31 u29 c29 c31 dS3 nS3_length (by decide)
  have l0 := nP_length
  have l1 := nS0_length
  have l2 := nS1_length
  have l3 := nS2_length
  have e0 : ∀ j, j < 18 → tabT (0 + j) = nP.getD j 0 := fun j hj => by
    rw [Nat.zero_add]
    exact getD_left _ _ _ (by omega)
  have e1 : ∀ j, j < 256 → tabT (18 + j) = nS0.getD j 0 := fun j hj => by
    unfold tabT
    rw [show 18 + j = nP.length + j by omega, getD_app, getD_left _ _ _ (by omega)]
  have e2 : ∀ j, j < 256 → tabT (274 + j) = nS1.getD j 0 := fun j hj => by
    unfold tabT
    rw [show 274 + j = nP.length + (nS0.length + j) by omega, getD_app, getD_app, getD_left _ _ _ (by omega)]
  have e3 : ∀ j, j < 256 → tabT (530 + j) = nS2.getD j 0 := fun j hj => by
    unfold tabT
    rw [show 530 + j = nP.length + (nS0.length + (nS1.length + j)) by omega, getD_app, getD_app, getD_app, getD_left _ _ _ (by omega)]
  have e4 : ∀ j, j < 256 → tabT (786 + j) = nS3.getD j 0 := fun j hj => by
    unfold tabT
    rw [show 786 + j = nP.length + (nS0.length + (nS1.length + (nS2.length + j))) by omega, getD_app, getD_app, getD_app, getD_app]
  exact ⟨tabT_lt, ⟨x0, t0, f0, a0, fun j hj => by rw [b0 j hj, e0 j hj]⟩, ⟨x1, t1, f1, a1, fun j hj => by rw [b1 j hj, e1 j hj]⟩, ⟨x2, t2, f2, a2, fun j hj => by rw [b2 j hj, e2 j hj]⟩, ⟨x3, t3, f3, a3, fun j hj => by rw [b3 j hj, e3 j hj]⟩, ⟨x4, t4, f4, a4, fun j hj => by rw [b4 j hj, e4 j hj]⟩⟩
theorem mag_of {w : World} (h : VarReads Tryz.prog w "pub-wardkeep/pub/crypto/bcrypt.magicCipherData" Rows.laid_pub_wardkeep_pub_crypto_bcrypt_magicCipherData) : MagAt w :=
  tab_cells (g := 8) (t := 96) h (by kernel_rfl) (by kernel_rfl) (e := 5) (by kernel_rfl) (by kernel_rfl) (by kernel_rfl) (by kernel_rfl) dM (by decide) (by decide)
end Go.Proofs.YthnhdfgonpbldaaGreatDoor
