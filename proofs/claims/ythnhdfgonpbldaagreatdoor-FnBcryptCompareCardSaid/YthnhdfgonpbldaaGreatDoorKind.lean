/- impl.bcryptKind at each error that bcrypt hands back. -/
import Derived.Test.YthnhdfgonpbldaaGreatDoorErrs
namespace Go.Proofs.YthnhdfgonpbldaaGreatDoor
open Go.RowKit Go.Lib
/-- What the walks ask of the sentinels and of the type's handle. -/
structure Sen (w : World) (a0 a1 : Addr) : Prop where
  c0 : w.cell? ⟨0, 0, none⟩ = some (.iface 180 (.pointer (some a0)))
  c1 : w.cell? ⟨1, 0, none⟩ = some (.iface 180 (.pointer (some a1)))
  c7 : w.cell? ⟨7, 0, none⟩ = some (.iface 111 (.agg #[.pointer (some ⟨14, 54, none⟩)]))
  ne : a0 ≠ a1
  h0 : ∃ c t, w.heap[a0.block]? = some (.cells c t (0, 0))
  h1 : ∃ c t, w.heap[a1.block]? = some (.cells c t (0, 0))
theorem Sen.below {w w' : World} {a0 a1 : Addr} (s : Sen w a0 a1) (h : Below w.heap.size w w') : Sen w' a0 a1 := by
  have b := But.of_below (S := fun _ => False) h
  obtain ⟨c, t, e0⟩ := s.h0
  obtain ⟨c', t', e1⟩ := s.h1
  exact ⟨b.cell s.c0 id, b.cell s.c1 id, b.cell s.c7 id, s.ne, ⟨c, t, b.row e0 id⟩, ⟨c', t', b.row e1 id⟩⟩
def IntBelow (w : World) (k : Int) (e : Ending) (w' : World) : Prop := e = .returned (.int .i64 k) ∧ Below w.heap.size w w'
theorem But.belowF {w w' : World} (h : But (fun _ => False) w w') : Below w.heap.size w w' := h.below (Nat.le_refl _) (fun _ _ x => x)
theorem below_alloc (w : World) (o : Obj) : Below w.heap.size w (w.alloc o) := Below.alloc (Below.refl _ _) (Nat.le_refl _) _
theorem Below.trans' {a b c : World} (h : Below a.heap.size a b) (k : Below b.heap.size b c) : Below a.heap.size a c := h.trans (k.mono h.size)
def kw (w : World) : World := ((w.alloc (.cells #[.int .u8 0] 62)).alloc (.cells #[.int .u8 0] 63)).alloc (.cells #[.int .i64 0] 64)
theorem kw_below (w : World) : Below w.heap.size w (kw w) := Below.trans' (Below.trans' (below_alloc w _) (below_alloc _ _)) (below_alloc _ _)
theorem heap_alloc_at' (w : World) (o : Obj) (n : Nat) (h : n = w.heap.size) : (w.alloc o).heap[n]? = some o := by subst h; exact heap_alloc_at w o
theorem kind_nil (w : World) : Calls Tryz.prog 22 #[.nilIface] w (IntBelow w 0) := by
  have hb := kw_below w
  unfold kw at hb
  have Hb := Lib.hid hb; clear hb
  go_enter Tryz.func22, Tryz.ntmps22
  go_wp2_with fail
  go_ret
  exact ⟨rfl, Hb.out⟩
theorem kind_other (w : World) (a0 a1 : Addr) (s : Sen w a0 a1) : Calls Tryz.prog 22 #[.iface 180 (.pointer (some a0))] w (IntBelow w 1) := by
  have hb := kw_below w
  have s3 := s.below hb
  have q := s3.c0
  unfold kw at hb q
  have Hb := Lib.hid hb; clear hb
  go_enter Tryz.func22, Tryz.ntmps22
  go_wp2_with fail
  refine (is_same a0 _).mono ?_
  rintro e w' ⟨rfl, rfl⟩
  go_wp2_with fail
  go_ret
  exact ⟨rfl, Hb.out⟩
theorem kind_short (w : World) (a0 a1 : Addr) (s : Sen w a0 a1) : Calls Tryz.prog 22 #[.iface 180 (.pointer (some a1))] w (IntBelow w 2) := by
  have hb := kw_below w
  have s3 := s.below hb
  have q := s3.c0
  have q1 := s3.c1
  unfold kw at hb q q1
  have Hb := Lib.hid hb; clear hb
  go_enter Tryz.func22, Tryz.ntmps22
  go_wp2_with fail
  obtain ⟨c, t, e0⟩ := s3.h0
  obtain ⟨c', t', e1⟩ := s3.h1
  refine (is_other a1 a0 c' c t' t _ (fun e => s3.ne e.symm) e1 e0).mono ?_
  rintro e w' ⟨rfl, rfl⟩
  clear e0 e1 q q1
  have q1 := s3.c1
  go_wp2_with fail
  refine (is_same a1 _).mono ?_
  rintro e w' ⟨rfl, rfl⟩
  go_wp2_with fail
  go_ret
  exact ⟨rfl, Hb.out⟩
theorem kind_prefix (n : Int) (w : World) (a0 a1 : Addr) (s : Sen w a0 a1) : Calls Tryz.prog 22 #[.iface 62 (.int .u8 n)] w (IntBelow w 3) := by
  have hb := kw_below w
  have s3 := s.below hb
  have q := s3.c0
  have q1 := s3.c1
  have q7 := s3.c7
  have r62 : (kw w).heap[w.heap.size]? = some (.cells #[.int .u8 0] 62 (0, 0)) := by
    unfold kw; rw [heap_alloc_ne _ _ _ (by simp; omega), heap_alloc_ne _ _ _ (by simp)]; exact heap_alloc_at w _
  have r63 : (kw w).heap[w.heap.size + 1]? = some (.cells #[.int .u8 0] 63 (0, 0)) := by
    unfold kw; rw [heap_alloc_ne _ _ _ (by simp)]; exact heap_alloc_at' _ _ _ (by simp)
  have r64 : (kw w).heap[w.heap.size + 1 + 1]? = some (.cells #[.int .i64 0] 64 (0, 0)) := by
    unfold kw; exact heap_alloc_at' _ _ _ (by simp)
  have hb' := hb
  unfold kw at hb q q1
  have Hb := Lib.hid hb; clear hb
  have R62 := Lib.hid r62; clear r62
  have R63 := Lib.hid r63; clear r63
  have R64 := Lib.hid r64; clear r64
  have Q7 := Lib.hid q7; clear q7
  have HB := Lib.hid hb'; clear hb'
  go_enter Tryz.func22, Tryz.ntmps22
  go_wp2_with fail
  refine (is_not62 _ a0 _).mono ?_
  rintro e w' ⟨rfl, rfl⟩
  go_wp2_with fail
  refine (is_not62 _ a1 _).mono ?_
  rintro e w' ⟨rfl, rfl⟩
  clear q q1
  go_wp2_with fail
  have rw_ := R62.out
  refine (as_hit62 n ⟨w.heap.size, 0, none⟩ (.int .u8 0) _ Q7.out (cell_row rw_ rfl) (frozen_row rw_ 0)).mono ?_
  rintro e wf ⟨rfl, hbf⟩
  have HF := Lib.hid hbf; clear hbf
  clear rw_
  go_wp2_with fail
  go_ret
  refine ⟨rfl, ?_⟩
  exact Hb.out.trans (HF.out.below (by have := Hb.out.size; exact this) (fun k hk e => by have e : k = w.heap.size := e; omega))
theorem kind_version (n : Int) (w : World) (a0 a1 : Addr) (s : Sen w a0 a1) : Calls Tryz.prog 22 #[.iface 63 (.int .u8 n)] w (IntBelow w 4) := by
  have hb := kw_below w
  have s3 := s.below hb
  have q := s3.c0
  have q1 := s3.c1
  have q7 := s3.c7
  have r62 : (kw w).heap[w.heap.size]? = some (.cells #[.int .u8 0] 62 (0, 0)) := by
    unfold kw; rw [heap_alloc_ne _ _ _ (by simp; omega), heap_alloc_ne _ _ _ (by simp)]; exact heap_alloc_at w _
  have r63 : (kw w).heap[w.heap.size + 1]? = some (.cells #[.int .u8 0] 63 (0, 0)) := by
    unfold kw; rw [heap_alloc_ne _ _ _ (by simp)]; exact heap_alloc_at' _ _ _ (by simp)
  have r64 : (kw w).heap[w.heap.size + 1 + 1]? = some (.cells #[.int .i64 0] 64 (0, 0)) := by
    unfold kw; exact heap_alloc_at' _ _ _ (by simp)
  have hb' := hb
  unfold kw at hb q q1
  have Hb := Lib.hid hb; clear hb
  have R62 := Lib.hid r62; clear r62
  have R63 := Lib.hid r63; clear r63
  have R64 := Lib.hid r64; clear r64
  have Q7 := Lib.hid q7; clear q7
  have HB := Lib.hid hb'; clear hb'
  go_enter Tryz.func22, Tryz.ntmps22
  go_wp2_with fail
  refine (is_not63 _ a0 _).mono ?_
  rintro e w' ⟨rfl, rfl⟩
  go_wp2_with fail
  refine (is_not63 _ a1 _).mono ?_
  rintro e w' ⟨rfl, rfl⟩
  clear q q1
  go_wp2_with fail
  refine (as_miss63_62 _ _ _ Q7.out).mono ?_
  rintro e w0 ⟨rfl, hb0⟩
  have hc0 := hb0.cell Q7.out (fun x => x)
  have C0 := Lib.hid hc0; clear hc0
  have HB0 := Lib.hid hb0; clear hb0
  go_wp2_with fail
  have rw_ := (HB0.out.row R63.out (fun x => x))
  refine (as_hit63 n ⟨w.heap.size + 1, 0, none⟩ (.int .u8 0) _ C0.out (cell_row rw_ rfl) (frozen_row rw_ 0)).mono ?_
  rintro e wf ⟨rfl, hbf⟩
  have HF := Lib.hid hbf; clear hbf
  clear rw_
  go_wp2_with fail
  go_ret
  refine ⟨rfl, ?_⟩
  exact (Below.trans' Hb.out HB0.out.belowF).trans (HF.out.below (by have := (Below.trans' Hb.out HB0.out.belowF).size; exact this) (fun k hk e => by have e : k = w.heap.size + 1 := e; omega))
theorem kind_cost (n : Int) (w : World) (a0 a1 : Addr) (s : Sen w a0 a1) : Calls Tryz.prog 22 #[.iface 64 (.int .i64 n)] w (IntBelow w 5) := by
  have hb := kw_below w
  have s3 := s.below hb
  have q := s3.c0
  have q1 := s3.c1
  have q7 := s3.c7
  have r62 : (kw w).heap[w.heap.size]? = some (.cells #[.int .u8 0] 62 (0, 0)) := by
    unfold kw; rw [heap_alloc_ne _ _ _ (by simp; omega), heap_alloc_ne _ _ _ (by simp)]; exact heap_alloc_at w _
  have r63 : (kw w).heap[w.heap.size + 1]? = some (.cells #[.int .u8 0] 63 (0, 0)) := by
    unfold kw; rw [heap_alloc_ne _ _ _ (by simp)]; exact heap_alloc_at' _ _ _ (by simp)
  have r64 : (kw w).heap[w.heap.size + 1 + 1]? = some (.cells #[.int .i64 0] 64 (0, 0)) := by
    unfold kw; exact heap_alloc_at' _ _ _ (by simp)
  have hb' := hb
  unfold kw at hb q q1
  have Hb := Lib.hid hb; clear hb
  have R62 := Lib.hid r62; clear r62
  have R63 := Lib.hid r63; clear r63
  have R64 := Lib.hid r64; clear r64
  have Q7 := Lib.hid q7; clear q7
  have HB := Lib.hid hb'; clear hb'
  go_enter Tryz.func22, Tryz.ntmps22
  go_wp2_with fail
  refine (is_not64 _ a0 _).mono ?_
  rintro e w' ⟨rfl, rfl⟩
  go_wp2_with fail
  refine (is_not64 _ a1 _).mono ?_
  rintro e w' ⟨rfl, rfl⟩
  clear q q1
  go_wp2_with fail
  refine (as_miss64_62 _ _ _ Q7.out).mono ?_
  rintro e w0 ⟨rfl, hb0⟩
  have hc0 := hb0.cell Q7.out (fun x => x)
  have C0 := Lib.hid hc0; clear hc0
  have HB0 := Lib.hid hb0; clear hb0
  go_wp2_with fail
  refine (as_miss64_63 _ _ _ C0.out).mono ?_
  rintro e w1 ⟨rfl, hb1⟩
  have hc1 := hb1.cell C0.out (fun x => x)
  have C1 := Lib.hid hc1; clear hc1
  have HB1 := Lib.hid hb1; clear hb1
  go_wp2_with fail
  have rw_ := (HB1.out.row (HB0.out.row R64.out (fun x => x)) (fun x => x))
  refine (as_hit64 n ⟨w.heap.size + 1 + 1, 0, none⟩ (.int .i64 0) _ C1.out (cell_row rw_ rfl) (frozen_row rw_ 0)).mono ?_
  rintro e wf ⟨rfl, hbf⟩
  have HF := Lib.hid hbf; clear hbf
  clear rw_
  go_wp2_with fail
  go_ret
  refine ⟨rfl, ?_⟩
  exact (Below.trans' (Below.trans' Hb.out HB0.out.belowF) HB1.out.belowF).trans (HF.out.below (by have := (Below.trans' (Below.trans' Hb.out HB0.out.belowF) HB1.out.belowF).size; exact this) (fun k hk e => by have e : k = w.heap.size + 1 + 1 := e; omega))
end Go.Proofs.YthnhdfgonpbldaaGreatDoor
