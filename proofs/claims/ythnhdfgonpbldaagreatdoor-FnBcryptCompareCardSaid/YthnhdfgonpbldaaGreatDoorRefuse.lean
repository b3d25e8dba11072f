/- A hash that is refused at once: newFromHash, Cost, CompareHashAndPassword and the thin package's two calls. -/
import Derived.Test.YthnhdfgonpbldaaGreatDoorKind
namespace Go.Proofs.YthnhdfgonpbldaaGreatDoor
open Go.RowKit Go.Lib
def Ret (w : World) (v : Value) (e : Ending) (w' : World) : Prop := e = .returned v ∧ Below w.heap.size w w'
theorem below_drewN (w : World) (n : Nat) : Below w.heap.size w (w.drewN n) := ⟨rfl, rfl, rfl, Nat.le_refl _, fun _ _ => rfl⟩
/-- 'v' is refused with the error 'er'. -/
def Refused (w : World) (v er : Value) : Prop := Calls Tryz.prog 33 #[v] w (Ret w (.tuple #[.pointer none, er]))
theorem nfh_short (a : Option Addr) (n c : Nat) (a0 a1 : Addr) (w : World) (s : Sen w a0 a1) (h : n < 59) : Refused w (.slice a n c) (.iface 180 (.pointer (some a1))) := by
  have q1 := s.c1
  unfold Refused
  go_enter Tryz.func33, Tryz.ntmps33
  go_wp2_with fail
  go_quiet (fail)
  go_wp2_with fail
  go_ret2
  exact ⟨rfl, below_drewN _ _⟩
theorem ver_prefix (p : Value) (b o n c : Nat) (x : Nat) (w : World) (h : 59 ≤ n) (hx : w.cell? ⟨b, o, none⟩ = some (.int .u8 (x : Int))) (hne : x ≠ 36) :
    Calls Tryz.prog 48 #[p, .slice (some ⟨b, o, none⟩) n c] w (Ret w (.tuple #[.int .i64 (-1), .iface 62 (.int .u8 (x : Int))])) := by
  have t : ((x : Int) != 36) = true := by simp; omega
  clear hne
  have b0 : 0 < n := by omega
  go_enter Tryz.func48, Tryz.ntmps48
  go_wp2_with fail
  go_quiet (fail)
  go_wp2_with fail
  go_ret2
  exact ⟨rfl, below_drewN _ _⟩
theorem ver_new (p : Value) (b o n c : Nat) (y : Nat) (w : World) (h : 59 ≤ n) (hx : w.cell? ⟨b, o, none⟩ = some (.int .u8 36)) (hy : w.cell? ⟨b, o + 1, none⟩ = some (.int .u8 (y : Int))) (hgt : 50 < y) :
    Calls Tryz.prog 48 #[p, .slice (some ⟨b, o, none⟩) n c] w (Ret w (.tuple #[.int .i64 (-1), .iface 63 (.int .u8 (y : Int))])) := by
  have b0 : 0 < n := by omega
  have b1 : 1 < n := by omega
  have b2 : (1 : Int) < (n : Int) := by omega
  go_enter Tryz.func48, Tryz.ntmps48
  go_wp2_with fail
  go_quiet (fail)
  go_wp2_with fail
  go_ret2
  exact ⟨rfl, below_drewN _ _⟩
theorem nfh_ver (b o n c : Nat) (u : TypeId) (x : Value) (w : World) (h : 59 ≤ n)
    (hv : ∀ W : World, Below w.heap.size w W → ∀ p, Calls Tryz.prog 48 #[p, .slice (some ⟨b, o, none⟩) n c] W (Ret W (.tuple #[.int .i64 (-1), .iface u x]))) : Refused w (.slice (some ⟨b, o, none⟩) n c) (.iface u x) := by
  unfold Refused
  go_enter Tryz.func33, Tryz.ntmps33
  go_wp2_with fail
  have hb := below_alloc w (.cells #[.slice none 0 0, .slice none 0 0, .int .i64 0, .int .u8 0, .int .u8 0] 74)
  refine (hv _ hb _).mono ?_
  rintro e w1 ⟨rfl, h1⟩
  have H := Lib.hid (Below.trans' hb h1); clear h1 hb
  go_wp2_with fail
  go_ret2
  exact ⟨rfl, H.out⟩
theorem cost_ref (v : Value) (u : TypeId) (x : Value) (w : World) (h : Refused w v (.iface u x)) : Calls Tryz.prog 25 #[v] w (Ret w (.tuple #[.int .i64 0, .iface u x])) := by
  go_enter Tryz.func25, Tryz.ntmps25
  go_wp2_with fail
  refine (h).mono ?_
  rintro e w1 ⟨rfl, h1⟩
  have H := Lib.hid h1; clear h1
  go_wp2_with fail
  go_ret2
  exact ⟨rfl, H.out⟩
theorem compare_ref (v p : Value) (u : TypeId) (x : Value) (w : World) (h : Refused w v (.iface u x)) : Calls Tryz.prog 23 #[v, p] w (Ret w (.iface u x)) := by
  go_enter Tryz.func23, Tryz.ntmps23
  go_wp2_with fail
  refine (h).mono ?_
  rintro e w1 ⟨rfl, h1⟩
  have H := Lib.hid h1; clear h1
  go_wp2_with fail
  go_ret
  exact ⟨rfl, H.out⟩
theorem bcost_ref (v : Value) (u : TypeId) (x : Value) (k : Int) (a0 a1 : Addr) (w : World) (s : Sen w a0 a1) (h : Refused w v (.iface u x)) (hk : ∀ W, Sen W a0 a1 → Calls Tryz.prog 22 #[.iface u x] W (IntBelow W k)) :
    Calls Tryz.prog 18 #[v] w (Ret w (.tuple #[.int .i64 0, .int .i64 k])) := by
  have hc := cost_ref v u x w h
  have Hk := Lib.hid hk; clear hk h
  go_enter Tryz.func18, Tryz.ntmps18
  go_wp2_with fail
  refine hc.mono ?_
  rintro e w1 ⟨rfl, h1⟩
  have H := Lib.hid h1; clear h1
  clear hc
  go_wp2_with fail
  refine (Hk.out w1 (s.below H.out)).mono ?_
  rintro e w2 ⟨rfl, h2⟩
  have H2 := Lib.hid h2; clear h2
  go_wp2_with fail
  go_ret2
  exact ⟨rfl, Below.trans' H.out H2.out⟩
theorem bcompare_ref (v p : Value) (u : TypeId) (x : Value) (k : Int) (a0 a1 : Addr) (w : World) (s : Sen w a0 a1) (h : Refused w v (.iface u x)) (hk : ∀ W, Sen W a0 a1 → Calls Tryz.prog 22 #[.iface u x] W (IntBelow W k)) :
    Calls Tryz.prog 12 #[v, p] w (Ret w (.int .i64 k)) := by
  have hc := compare_ref v p u x w h
  have Hk := Lib.hid hk; clear hk h
  go_enter Tryz.func12, Tryz.ntmps12
  go_wp2_with fail
  refine hc.mono ?_
  rintro e w1 ⟨rfl, h1⟩
  have H := Lib.hid h1; clear h1
  clear hc
  go_wp2_with fail
  refine (Hk.out w1 (s.below H.out)).mono ?_
  rintro e w2 ⟨rfl, h2⟩
  have H2 := Lib.hid h2; clear h2
  go_wp2_with fail
  go_ret
  exact ⟨rfl, Below.trans' H.out H2.out⟩
end Go.Proofs.YthnhdfgonpbldaaGreatDoor
