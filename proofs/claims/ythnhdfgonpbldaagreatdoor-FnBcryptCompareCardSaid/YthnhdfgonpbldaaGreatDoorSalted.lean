/- blowfish.NewSaltedCipher at a key and a salt that are not empty. -/
import Derived.Test.YthnhdfgonpbldaaGreatDoorSalt
import Derived.Test.YthnhdfgonpbldaaGreatDoorInit
import Derived.Outline
namespace Go.Proofs.YthnhdfgonpbldaaGreatDoor
open Go.RowKit Go.Lib
def CiphPost (T : Nat → Nat) (w : World) (e : Ending) (w' : World) : Prop :=
  ∃ B, e = .returned (.tuple #[.pointer (some ⟨B, 0, none⟩), .nilIface]) ∧ w.heap.size ≤ B ∧ Below w.heap.size w w' ∧ Ciph w' B T
set_option maxRecDepth 100000 in
theorem newSalted (bs ss : List Nat) (b o c b2 o2 c2 : Nat) (T : Nat → Nat) (w : World) (h0 : 0 < bs.length) (hm : bs.length ≤ 1000000000000) (hb : Bytes bs) (g0 : 0 < ss.length) (gm : ss.length ≤ 1000000000000) (gb : Bytes ss)
    (hT : Tabs w T) (hz : 7 ≤ w.heap.size)
    (hc : ∀ i, i < bs.length → w.cell? ⟨b, o + i, none⟩ = some (.int .u8 ((bs.getD i 0 : Nat) : Int))) (gc : ∀ i, i < ss.length → w.cell? ⟨b2, o2 + i, none⟩ = some (.int .u8 ((ss.getD i 0 : Nat) : Int))) :
    Calls Tryz.prog 65 #[.slice (some ⟨b, o, none⟩) bs.length c, .slice (some ⟨b2, o2, none⟩) ss.length c2] w (CiphPost (expS bs ss T) w) := by
  have HT := Lib.hid hT; clear hT
  have Hc := Lib.hid hc; clear hc
  have Gc := Lib.hid gc; clear gc
  have Hb := Lib.hid hb; clear hb
  have Gb := Lib.hid gb; clear gb
  obtain ⟨n, hn⟩ : ∃ n, n = bs.length := ⟨_, rfl⟩
  rw [← hn] at h0 hm ⊢
  have Hn := Lib.hid hn; clear hn
  obtain ⟨n2, hn2⟩ : ∃ n2, n2 = ss.length := ⟨_, rfl⟩
  rw [← hn2] at g0 gm ⊢
  have Hn2 := Lib.hid hn2; clear hn2
  go_enter Tryz.func65, Tryz.ntmps65
  go_wp2_with fail
  refine (initCipher_any T w.heap.size _ _ (HT.out.but (But.alloc (But.refl (fun _ => False) w) _) (fun _ _ h => h)) (by kernel_rfl) hz (heap_alloc_at w _)).mono ?_
  rintro e w1 ⟨rfl, hb1, hr1⟩
  have bb : But (fun k => k = w.heap.size) w w1 := (But.alloc (But.refl _ w) _).trans hb1 (fun _ _ h => h) (fun i hi h => h)
  have z1 : w.heap.size < w1.heap.size := by have := hb1.size; simp at this; omega
  have HBB := Lib.hid bb; clear bb hb1
  have hci : Ciph w1 w.heap.size T := ⟨_, hr1, by unfold laidT; simp only [putAll_size]; kernel_rfl, fun j hj => laidT_get T _ (by kernel_rfl) j hj⟩
  have HCI := Lib.hid hci; clear hci hr1
  have hlt : ∀ {p : Addr} {v : Value}, w.cell? p = some v → p.block ≠ w.heap.size := fun {p v} h => by have := World.block_lt_of_cell? _ _ h; omega
  have ne1 : b ≠ w.heap.size := hlt (Hc.out 0 (by rw [← Hn.out]; exact h0))
  have ne2 : b2 ≠ w.heap.size := hlt (Gc.out 0 (by rw [← Hn2.out]; exact g0))
  clear hlt
  have call := expandSalt_any bs ss b o c b2 o2 c2 w.heap.size T w1 (by rw [← Hn.out]; exact h0) (by rw [← Hn.out]; exact hm) Hb.out (by rw [← Hn2.out]; exact g0) (by rw [← Hn2.out]; exact gm) Gb.out HT.out.lt ne1 ne2 z1
    (fun i hi => HBB.out.cell (Hc.out i hi) ne1) (fun i hi => HBB.out.cell (Gc.out i hi) ne2) HCI.out
  rw [← Hn.out, ← Hn2.out] at call
  have Call := Lib.hid call; clear call
  go_wp2_with fail
  refine Call.out.mono ?_
  rintro e w2 ⟨rfl, hb2, hc2⟩
  have H2 := Lib.hid hb2; clear hb2
  have C2 := Lib.hid hc2; clear hc2
  go_wp2_with fail
  go_ret2
  refine ⟨w.heap.size, rfl, Nat.le_refl _, ?_, C2.out⟩
  exact (HBB.out.trans H2.out (fun _ _ h => h) (fun _ _ h => h)).below (Nat.le_refl _) (fun k hk => by omega)
end Go.Proofs.YthnhdfgonpbldaaGreatDoor
