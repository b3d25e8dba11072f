/- What the statements on bcrypt call, at the hash that they made themselves: by contracts on lists. -/
import Derived.Test.YthnhdfgonpbldaaGreatDoorHashed
namespace Go.Proofs.YthnhdfgonpbldaaGreatDoor
open Go.RowKit Go.Lib
/-- The values of a salt's letters. -/
def valsOf (sl : List Nat) : List Nat := (List.range 22).map (sext sl)
theorem valsOf_get (sl : List Nat) (i : Nat) (h : i < 22) : (valsOf sl).getD i 0 = sext sl i := by simp [valsOf, List.getD, h]
theorem valsOf_past (sl : List Nat) (i : Nat) (h : 22 ≤ i) : (valsOf sl).getD i 0 = 0 := getD_past (by simpa [valsOf] using h)
theorem valsOf_lt (sl : List Nat) (i : Nat) : (valsOf sl).getD i 0 < 64 := by
  by_cases h : i < 22
  · rw [valsOf_get sl i h]; exact sext_lt sl i
  · rw [valsOf_past sl i (by omega)]; decide
theorem encL_vals {sl : List Nat} (hl : sl.length = 16) (i : Nat) (h : i < 22) : (encL sl).getD i 0 = alN ((valsOf sl).getD i 0) := by
  rw [valsOf_get sl i h, encL, List.getD_eq_getElem?_getD, List.getElem?_map, List.getElem?_range (by rw [hl]; exact h)]
  rfl
theorem encL16 {sl : List Nat} (hl : sl.length = 16) : (encL sl).length = 22 := by rw [encL_length, hl]; rfl
/-- All that the walks ask of the data in the world. -/
structure Data (w : World) (T : Nat → Nat) (a0 a1 : Addr) : Prop where
  t : Tabs w T
  m : MagAt w
  s : Sen w a0 a1
theorem Data.below {w w' : World} {T : Nat → Nat} {a0 a1 : Addr} (d : Data w T a0 a1) (h : Below w.heap.size w w') : Data w' T a0 a1 := by
  have b := But.of_below (S := fun _ => False) h
  exact ⟨d.t.but b (fun _ _ h => h), d.m.but b (fun h => h), d.s.below h⟩
/-- A password in memory, and what is known of its bytes. -/
structure Pass (w : World) (a : Option Addr) (c : Nat) (pw : List Nat) : Prop where
  at' : PwAt w a c pw
  lt : ∀ x ∈ pw, x < 256
  cap : pw.length ≤ c
  cap2 : c ≤ 9223372036854775807
theorem Pass.below {w w' : World} {a : Option Addr} {c : Nat} {pw : List Nat} (p : Pass w a c pw) (h : Below w.heap.size w w') : Pass w' a c pw :=
  ⟨p.at'.but (But.of_below (S := fun _ => False) h) (fun _ _ h => h), p.lt, p.cap, p.cap2⟩
theorem Pass.apart {w : World} {a : Option Addr} {c : Nat} {pw : List Nat} (p : Pass w a c pw) (b : Addr) (e : a = some b) (h : 0 < pw.length) : b.block < w.heap.size := by
  have := World.block_lt_of_cell? _ _ (p.at'.2 b e 0 h)
  have e2 : (b.add 0).block = b.block := by unfold Addr.add; split <;> rfl
  rw [e2] at this
  exact this
/-- impl.Bcrypt at a salt that 'salted' made: w0 the world before, w the world behind. -/
theorem impl_bcrypt (T : Nat → Nat) (pw : List Nat) (ka : Option Addr) (kc k g1 : Nat) (sl : List Nat) (a0 a1 : Addr) (w0 w : World) (h4 : 4 ≤ k) (h6 : k ≤ 6) (hl : sl.length = 16) (hpl : pw.length ≤ 72) (d0 : Data w0 T a0 a1)
    (p0 : Pass w0 ka kc pw) (hb : Below w0.heap.size w0 w) (hg : w0.heap.size ≤ g1) (ho : LRow w g1 24 (encL sl)) :
    Calls Tryz.prog 14 #[.slice ka pw.length kc, .int .i64 (k : Int), .slice (some ⟨g1, 0, none⟩) 22 24] w (BPost T pw k (valsOf sl) g1 w) := by
  have z := d0.m.lt
  have d := d0.below hb
  have p := p0.below hb
  exact implBcrypt_any T pw k (valsOf sl) g1 w _ _ _ (bcrypt_any T pw ka kc k (valsOf sl) g1 w h4 h6 p.lt hpl p.cap p.cap2 p.at' (ho.salt (encL16 hl) (fun i hi => encL_vals hl i hi)) (by omega)
    (fun b e h => by have := p0.apart b e h; omega) (valsOf_lt sl) (valsOf_past sl 22 (by omega)) (valsOf_past sl 23 (by omega)) d.t d.m)
/-- BcryptCompare at a hash that 'hashed' made. -/
theorem compare_hashed (T : Nat → Nat) (pw : List Nat) (ka : Option Addr) (kc k g cap : Nat) (sl lh : List Nat) (a0 a1 : Addr) (w : World) (h4 : 4 ≤ k) (h6 : k ≤ 6) (hl : sl.length = 16) (hpl : pw.length ≤ 72) (d : Data w T a0 a1) (p : Pass w ka kc pw)
    (hlh : lh.length = 31) (hb : ∀ i, lh.getD i 0 < 256) (hc : 60 ≤ cap) (hc2 : cap ≤ 9223372036854775807) (h : ∀ i, i < 60 → w.cell? ⟨g, 0 + i, none⟩ = some (.int .u8 (((hashL k (encL sl) lh).getD i 0 : Nat) : Int)))
    (r : Int) (hr : (lh = hashN T pw k (valsOf sl) → r = 0) ∧ (¬ lh = hashN T pw k (valsOf sl) → r = 1)) :
    Calls Tryz.prog 12 #[.slice (some ⟨g, 0, none⟩) 60 cap, .slice ka pw.length kc] w (IntBelow w r) := by
  have e22 := encL16 hl
  refine bcompare_fine _ _ (lh = hashN T pw k (valsOf sl)) a0 a1 w d.s ?_ r hr
  exact compare_fine T pw ka kc k (valsOf sl) (hashL k (encL sl) lh) (encL sl) lh g 0 cap a0 a1 w h4 h6 p.lt hpl p.cap p.cap2 p.at' (valsOf_lt sl) (valsOf_past sl 22 (by omega)) (valsOf_past sl 23 (by omega)) d.t d.m d.s hc hc2
    (hashL_length e22 hlh) h rfl rfl rfl rfl rfl e22 (fun i hi => (hashL_salt e22 i hi).symm) hlh (fun i _ => (hashL_hash e22 i).symm) hb (fun i hi => encL_vals hl i hi)
/-- BcryptCost at a hash that 'hashed' made. -/
theorem cost_hashed (k g cap : Nat) (sl lh : List Nat) (w : World) (h4 : 4 ≤ k) (h6 : k ≤ 6) (hl : sl.length = 16) (hlh : lh.length = 31) (hc : 60 ≤ cap) (hc2 : cap ≤ 9223372036854775807)
    (h : ∀ i, i < 60 → w.cell? ⟨g, 0 + i, none⟩ = some (.int .u8 (((hashL k (encL sl) lh).getD i 0 : Nat) : Int))) :
    Calls Tryz.prog 18 #[.slice (some ⟨g, 0, none⟩) 60 cap] w (Ret w (.tuple #[.int .i64 (k : Int), .int .i64 0])) := by
  have e22 := encL16 hl
  exact bcost_any k _ w (cost_any k (encL sl) lh _ w (nfh_fine g 0 cap k (hashL k (encL sl) lh) (encL sl) lh w hc hc2 h4 h6 (hashL_length e22 hlh) h rfl rfl rfl rfl rfl e22 (fun i hi => (hashL_salt e22 i hi).symm) hlh (fun i _ => (hashL_hash e22 i).symm)))
end Go.Proofs.YthnhdfgonpbldaaGreatDoor
