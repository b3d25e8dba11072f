/- encoding/base64's small parts at bcrypt's alphabet: letters joined into words, words laid as bytes, the length. (Written by wip/gen_asm.py.) -/
import Derived.Test.YthnhdfgonpbldaaGreatDoorBenc
import Derived.Test.YthnhdfgonpbldaaGreatDoorInit
import Derived.Test.YthnhdfgonpbldaaGreatDoorDeco
import Derived.Laws.BitsAllLaws
namespace Go.Proofs.YthnhdfgonpbldaaGreatDoor
open Go.RowKit Go.Lib
def Is (w : World) (v : Value) (e : Ending) (w' : World) : Prop := e = .returned v ∧ w' = w
theorem assemble64 (a b c d e f g h : Nat) (w : World) (ha : a < 64) (hb : b < 64) (hc : c < 64) (hd : d < 64) (he : e < 64) (hf : f < 64) (hg : g < 64) (hh : h < 64) :
    Calls Tryz.prog 86 #[.int .u8 (a : Int), .int .u8 (b : Int), .int .u8 (c : Int), .int .u8 (d : Int), .int .u8 (e : Int), .int .u8 (f : Int), .int .u8 (g : Int), .int .u8 (h : Int)] w (Is w (.tuple #[.int .u64 ((v64 (q4 a b c d) (q4 e f g h) : Nat) : Int), .bool true])) := by
  obtain ⟨o1, ho1⟩ : ∃ o1, o1 = a ||| b := ⟨_, rfl⟩
  have lo1 : o1 < 64 := by rw [ho1]; exact or8_lt ha hb
  have eo1 : bits .or .u8 (a : Int) (b : Int) = (o1 : Int) := by rw [ho1]; exact u8_or_nat _ _ (by omega) (by omega)
  clear ho1
  obtain ⟨o2, ho2⟩ : ∃ o2, o2 = o1 ||| c := ⟨_, rfl⟩
  have lo2 : o2 < 64 := by rw [ho2]; exact or8_lt lo1 hc
  have eo2 : bits .or .u8 (o1 : Int) (c : Int) = (o2 : Int) := by rw [ho2]; exact u8_or_nat _ _ (by omega) (by omega)
  clear ho2
  obtain ⟨o3, ho3⟩ : ∃ o3, o3 = o2 ||| d := ⟨_, rfl⟩
  have lo3 : o3 < 64 := by rw [ho3]; exact or8_lt lo2 hd
  have eo3 : bits .or .u8 (o2 : Int) (d : Int) = (o3 : Int) := by rw [ho3]; exact u8_or_nat _ _ (by omega) (by omega)
  clear ho3
  obtain ⟨o4, ho4⟩ : ∃ o4, o4 = o3 ||| e := ⟨_, rfl⟩
  have lo4 : o4 < 64 := by rw [ho4]; exact or8_lt lo3 he
  have eo4 : bits .or .u8 (o3 : Int) (e : Int) = (o4 : Int) := by rw [ho4]; exact u8_or_nat _ _ (by omega) (by omega)
  clear ho4
  obtain ⟨o5, ho5⟩ : ∃ o5, o5 = o4 ||| f := ⟨_, rfl⟩
  have lo5 : o5 < 64 := by rw [ho5]; exact or8_lt lo4 hf
  have eo5 : bits .or .u8 (o4 : Int) (f : Int) = (o5 : Int) := by rw [ho5]; exact u8_or_nat _ _ (by omega) (by omega)
  clear ho5
  obtain ⟨o6, ho6⟩ : ∃ o6, o6 = o5 ||| g := ⟨_, rfl⟩
  have lo6 : o6 < 64 := by rw [ho6]; exact or8_lt lo5 hg
  have eo6 : bits .or .u8 (o5 : Int) (g : Int) = (o6 : Int) := by rw [ho6]; exact u8_or_nat _ _ (by omega) (by omega)
  clear ho6
  obtain ⟨o7, ho7⟩ : ∃ o7, o7 = o6 ||| h := ⟨_, rfl⟩
  have lo7 : o7 < 64 := by rw [ho7]; exact or8_lt lo6 hh
  have eo7 : bits .or .u8 (o6 : Int) (h : Int) = (o7 : Int) := by rw [ho7]; exact u8_or_nat _ _ (by omega) (by omega)
  clear ho7
  have tst : ((o7 : Int) == 255) = false := by simp; omega
  obtain ⟨s1, hs1⟩ : ∃ s1, s1 = a * 288230376151711744 + b * 4503599627370496 := ⟨_, rfl⟩
  have es1 : bits .or .u64 ((a : Int) * 288230376151711744) ((b : Int) * 4503599627370496) = (s1 : Int) := by
    have := or_join64 58 (a * 288230376151711744) (b * 4503599627370496) (by omega) (by omega) (by omega) (by omega)
    rw [← hs1] at this
    simpa using this
  obtain ⟨s2, hs2⟩ : ∃ s2, s2 = s1 + c * 70368744177664 := ⟨_, rfl⟩
  have es2 : bits .or .u64 (s1 : Int) ((c : Int) * 70368744177664) = (s2 : Int) := by
    have := or_join64 52 (s1) (c * 70368744177664) (by omega) (by omega) (by omega) (by omega)
    rw [← hs2] at this
    simpa using this
  obtain ⟨s3, hs3⟩ : ∃ s3, s3 = s2 + d * 1099511627776 := ⟨_, rfl⟩
  have es3 : bits .or .u64 (s2 : Int) ((d : Int) * 1099511627776) = (s3 : Int) := by
    have := or_join64 46 (s2) (d * 1099511627776) (by omega) (by omega) (by omega) (by omega)
    rw [← hs3] at this
    simpa using this
  obtain ⟨s4, hs4⟩ : ∃ s4, s4 = s3 + e * 17179869184 := ⟨_, rfl⟩
  have es4 : bits .or .u64 (s3 : Int) ((e : Int) * 17179869184) = (s4 : Int) := by
    have := or_join64 40 (s3) (e * 17179869184) (by omega) (by omega) (by omega) (by omega)
    rw [← hs4] at this
    simpa using this
  obtain ⟨s5, hs5⟩ : ∃ s5, s5 = s4 + f * 268435456 := ⟨_, rfl⟩
  have es5 : bits .or .u64 (s4 : Int) ((f : Int) * 268435456) = (s5 : Int) := by
    have := or_join64 34 (s4) (f * 268435456) (by omega) (by omega) (by omega) (by omega)
    rw [← hs5] at this
    simpa using this
  obtain ⟨s6, hs6⟩ : ∃ s6, s6 = s5 + g * 4194304 := ⟨_, rfl⟩
  have es6 : bits .or .u64 (s5 : Int) ((g : Int) * 4194304) = (s6 : Int) := by
    have := or_join64 28 (s5) (g * 4194304) (by omega) (by omega) (by omega) (by omega)
    rw [← hs6] at this
    simpa using this
  obtain ⟨s7, hs7⟩ : ∃ s7, s7 = s6 + h * 65536 := ⟨_, rfl⟩
  have es7 : bits .or .u64 (s6 : Int) ((h : Int) * 65536) = (s7 : Int) := by
    have := or_join64 22 (s6) (h * 65536) (by omega) (by omega) (by omega) (by omega)
    rw [← hs7] at this
    simpa using this
  have fin : s7 = v64 (q4 a b c d) (q4 e f g h) := by rw [v64_sum]; omega
  clear hs1
  clear hs2
  clear hs3
  clear hs4
  clear hs5
  clear hs6
  clear hs7
  have Fin := Lib.hid fin; clear fin
  go_enter Tryz.func86, Tryz.ntmps86
  go_wp2_with fail
  go_ret2
  rw [Fin.out]
  exact ⟨rfl, rfl⟩
theorem assemble32 (a b c d : Nat) (w : World) (ha : a < 64) (hb : b < 64) (hc : c < 64) (hd : d < 64) :
    Calls Tryz.prog 89 #[.int .u8 (a : Int), .int .u8 (b : Int), .int .u8 (c : Int), .int .u8 (d : Int)] w (Is w (.tuple #[.int .u32 ((w32 (q4 a b c d) : Nat) : Int), .bool true])) := by
  obtain ⟨o1, ho1⟩ : ∃ o1, o1 = a ||| b := ⟨_, rfl⟩
  have lo1 : o1 < 64 := by rw [ho1]; exact or8_lt ha hb
  have eo1 : bits .or .u8 (a : Int) (b : Int) = (o1 : Int) := by rw [ho1]; exact u8_or_nat _ _ (by omega) (by omega)
  clear ho1
  obtain ⟨o2, ho2⟩ : ∃ o2, o2 = o1 ||| c := ⟨_, rfl⟩
  have lo2 : o2 < 64 := by rw [ho2]; exact or8_lt lo1 hc
  have eo2 : bits .or .u8 (o1 : Int) (c : Int) = (o2 : Int) := by rw [ho2]; exact u8_or_nat _ _ (by omega) (by omega)
  clear ho2
  obtain ⟨o3, ho3⟩ : ∃ o3, o3 = o2 ||| d := ⟨_, rfl⟩
  have lo3 : o3 < 64 := by rw [ho3]; exact or8_lt lo2 hd
  have eo3 : bits .or .u8 (o2 : Int) (d : Int) = (o3 : Int) := by rw [ho3]; exact u8_or_nat _ _ (by omega) (by omega)
  clear ho3
  have tst : ((o3 : Int) == 255) = false := by simp; omega
  obtain ⟨s1, hs1⟩ : ∃ s1, s1 = a * 67108864 + b * 1048576 := ⟨_, rfl⟩
  have es1 : bits .or .u32 ((a : Int) * 67108864) ((b : Int) * 1048576) = (s1 : Int) := by
    have := or_join32 26 (a * 67108864) (b * 1048576) (by omega) (by omega) (by omega) (by omega)
    rw [← hs1] at this
    simpa using this
  obtain ⟨s2, hs2⟩ : ∃ s2, s2 = s1 + c * 16384 := ⟨_, rfl⟩
  have es2 : bits .or .u32 (s1 : Int) ((c : Int) * 16384) = (s2 : Int) := by
    have := or_join32 20 (s1) (c * 16384) (by omega) (by omega) (by omega) (by omega)
    rw [← hs2] at this
    simpa using this
  obtain ⟨s3, hs3⟩ : ∃ s3, s3 = s2 + d * 256 := ⟨_, rfl⟩
  have es3 : bits .or .u32 (s2 : Int) ((d : Int) * 256) = (s3 : Int) := by
    have := or_join32 14 (s2) (d * 256) (by omega) (by omega) (by omega) (by omega)
    rw [← hs3] at this
    simpa using this
  have fin : s3 = w32 (q4 a b c d) := by unfold w32 q4; omega
  clear hs1
  clear hs2
  clear hs3
  have Fin := Lib.hid fin; clear fin
  go_enter Tryz.func89, Tryz.ntmps89
  go_wp2_with fail
  go_ret2
  rw [Fin.out]
  exact ⟨rfl, rfl⟩
theorem putAll8 (cur : Array Value) (o : Nat) (v0 v1 v2 v3 v4 v5 v6 v7 : Value) : putAll cur o [v0, v1, v2, v3, v4, v5, v6, v7] = ((((((((cur).setIfInBounds (o) v0).setIfInBounds (o + 1) v1).setIfInBounds (o + 2) v2).setIfInBounds (o + 3) v3).setIfInBounds (o + 4) v4).setIfInBounds (o + 5) v5).setIfInBounds (o + 6) v6).setIfInBounds (o + 7) v7 := rfl
def put64B (x : Nat) : List Value := [.int .u8 ((x : Int) / 72057594037927936), .int .u8 ((x : Int) / 281474976710656 % 256), .int .u8 ((x : Int) / 1099511627776 % 256), .int .u8 ((x : Int) / 4294967296 % 256), .int .u8 ((x : Int) / 16777216 % 256), .int .u8 ((x : Int) / 65536 % 256), .int .u8 ((x : Int) / 256 % 256), .int .u8 ((x : Int) % 256)]
def put64Post (g o x : Nat) (cur : Array Value) (w : World) (e : Ending) (w' : World) : Prop := e = .returned (.tuple #[]) ∧ But (· = g) w w' ∧ w'.heap[g]? = some (.cells (putAll cur o (put64B x)) 5 (0, 0))
set_option maxRecDepth 100000 in
theorem put64 (g o n c x : Nat) (cur : Array Value) (w : World) (hx : x < 18446744073709551616) (hn : 8 ≤ n) (hn2 : n ≤ 1000000) (hc : o + n ≤ cur.size) (hg : w.heap[g]? = some (.cells cur 5 (0, 0))) :
    Calls Tryz.prog 87 #[.slice (some ⟨g, o, none⟩) n c, .int .u64 (x : Int)] w (put64Post g o x cur w) := by
  obtain ⟨y0, hy0⟩ := cell_row_ex hg (show o < cur.size by omega)
  have f0 := frozen_row hg (o)
  have b0 : 0 < n := by omega
  have i0 : (0 : Int) < (n : Int) := by omega
  obtain ⟨y1, hy1⟩ := cell_row_ex hg (show o + 1 < cur.size by omega)
  have f1 := frozen_row hg (o + 1)
  have b1 : 1 < n := by omega
  have i1 : (1 : Int) < (n : Int) := by omega
  obtain ⟨y2, hy2⟩ := cell_row_ex hg (show o + 2 < cur.size by omega)
  have f2 := frozen_row hg (o + 2)
  have b2 : 2 < n := by omega
  have i2 : (2 : Int) < (n : Int) := by omega
  obtain ⟨y3, hy3⟩ := cell_row_ex hg (show o + 3 < cur.size by omega)
  have f3 := frozen_row hg (o + 3)
  have b3 : 3 < n := by omega
  have i3 : (3 : Int) < (n : Int) := by omega
  obtain ⟨y4, hy4⟩ := cell_row_ex hg (show o + 4 < cur.size by omega)
  have f4 := frozen_row hg (o + 4)
  have b4 : 4 < n := by omega
  have i4 : (4 : Int) < (n : Int) := by omega
  obtain ⟨y5, hy5⟩ := cell_row_ex hg (show o + 5 < cur.size by omega)
  have f5 := frozen_row hg (o + 5)
  have b5 : 5 < n := by omega
  have i5 : (5 : Int) < (n : Int) := by omega
  obtain ⟨y6, hy6⟩ := cell_row_ex hg (show o + 6 < cur.size by omega)
  have f6 := frozen_row hg (o + 6)
  have b6 : 6 < n := by omega
  have i6 : (6 : Int) < (n : Int) := by omega
  obtain ⟨y7, hy7⟩ := cell_row_ex hg (show o + 7 < cur.size by omega)
  have f7 := frozen_row hg (o + 7)
  have b7 : 7 < n := by omega
  have i7 : (7 : Int) < (n : Int) := by omega
  have Hg := Lib.hid hg; clear hg
  go_enter Tryz.func87, Tryz.ntmps87
  go_wp2_with fail
  go_end0
  refine ⟨rfl, ?_, ?_⟩
  · exact But.setCell (But.setCell (But.setCell (But.setCell (But.setCell (But.setCell (But.setCell (But.setCell (But.refl (· = g) w) (fun _ => rfl) _) (fun _ => rfl) _) (fun _ => rfl) _) (fun _ => rfl) _) (fun _ => rfl) _) (fun _ => rfl) _) (fun _ => rfl) _) (fun _ => rfl) _
  · rw [put64B, putAll8]
    exact setCell_row _ g _ _ 5 (0, 0) _ (setCell_row _ g _ _ 5 (0, 0) _ (setCell_row _ g _ _ 5 (0, 0) _ (setCell_row _ g _ _ 5 (0, 0) _ (setCell_row _ g _ _ 5 (0, 0) _ (setCell_row _ g _ _ 5 (0, 0) _ (setCell_row _ g _ _ 5 (0, 0) _ (setCell_row _ g _ _ 5 (0, 0) _ (Hg.out))))))))
theorem putAll4 (cur : Array Value) (o : Nat) (v0 v1 v2 v3 : Value) : putAll cur o [v0, v1, v2, v3] = ((((cur).setIfInBounds (o) v0).setIfInBounds (o + 1) v1).setIfInBounds (o + 2) v2).setIfInBounds (o + 3) v3 := rfl
def put32B (x : Nat) : List Value := [.int .u8 ((x : Int) / 16777216), .int .u8 ((x : Int) / 65536 % 256), .int .u8 ((x : Int) / 256 % 256), .int .u8 ((x : Int) % 256)]
def put32Post (g o x : Nat) (cur : Array Value) (w : World) (e : Ending) (w' : World) : Prop := e = .returned (.tuple #[]) ∧ But (· = g) w w' ∧ w'.heap[g]? = some (.cells (putAll cur o (put32B x)) 5 (0, 0))
set_option maxRecDepth 100000 in
theorem put32 (g o n c x : Nat) (cur : Array Value) (w : World) (hx : x < 4294967296) (hn : 4 ≤ n) (hn2 : n ≤ 1000000) (hc : o + n ≤ cur.size) (hg : w.heap[g]? = some (.cells cur 5 (0, 0))) :
    Calls Tryz.prog 90 #[.slice (some ⟨g, o, none⟩) n c, .int .u32 (x : Int)] w (put32Post g o x cur w) := by
  obtain ⟨y0, hy0⟩ := cell_row_ex hg (show o < cur.size by omega)
  have f0 := frozen_row hg (o)
  have b0 : 0 < n := by omega
  have i0 : (0 : Int) < (n : Int) := by omega
  obtain ⟨y1, hy1⟩ := cell_row_ex hg (show o + 1 < cur.size by omega)
  have f1 := frozen_row hg (o + 1)
  have b1 : 1 < n := by omega
  have i1 : (1 : Int) < (n : Int) := by omega
  obtain ⟨y2, hy2⟩ := cell_row_ex hg (show o + 2 < cur.size by omega)
  have f2 := frozen_row hg (o + 2)
  have b2 : 2 < n := by omega
  have i2 : (2 : Int) < (n : Int) := by omega
  obtain ⟨y3, hy3⟩ := cell_row_ex hg (show o + 3 < cur.size by omega)
  have f3 := frozen_row hg (o + 3)
  have b3 : 3 < n := by omega
  have i3 : (3 : Int) < (n : Int) := by omega
  have Hg := Lib.hid hg; clear hg
  go_enter Tryz.func90, Tryz.ntmps90
  go_wp2_with fail
  go_end0
  refine ⟨rfl, ?_, ?_⟩
  · exact But.setCell (But.setCell (But.setCell (But.setCell (But.refl (· = g) w) (fun _ => rfl) _) (fun _ => rfl) _) (fun _ => rfl) _) (fun _ => rfl) _
  · rw [put32B, putAll4]
    exact setCell_row _ g _ _ 5 (0, 0) _ (setCell_row _ g _ _ 5 (0, 0) _ (setCell_row _ g _ _ 5 (0, 0) _ (setCell_row _ g _ _ 5 (0, 0) _ (Hg.out))))
theorem decodedLen_nat (b n dl : Nat) (w : World) (hd : dl = n / 4 * 3) (h1 : n ≤ 1000000) (hp : w.cell? ⟨b, 320, none⟩ = some (.int .i32 61)) :
    Calls Tryz.prog 73 #[.pointer (some ⟨b, 0, none⟩), .int .i64 n] w fun e w' => e = .returned (.int .i64 (dl : Int)) ∧ w = w' := by
  have Hd := Lib.hid hd; clear hd
  go_enter Tryz.func73, Tryz.ntmps73
  go_wp2
  go_ret
  exact ⟨ret_int (by have := Hd.out; omega), rfl⟩
end Go.Proofs.YthnhdfgonpbldaaGreatDoor
