/- The specification's high, highs and Crypted. -/
import Derived.Test.YthnhdfgonpbldaaGreatDoorComA
import Derived.BigQuiet
import Derived.Test.YthnhdfgonpbldaaGreatDoorCrypt
import Derived.Test.YthnhdfgonpbldaaGreatDoorCopy
import Derived.ArgAppend
import Derived.Laws.AppendOwnNone
import Derived.Test.YthnhdfgonpbldaaGreatDoorSetup
import Derived.Lib.SlBytesConst
import Derived.Deep.Cut
import Derived.Deep.CutRange
import Derived.Deep.RegionWith
import Derived.IntWalk
/- The specification's high: four bytes as a word. -/
namespace Go.Proofs.YthnhdfgonpbldaaGreatDoor
open Go.RowKit Go.Lib
def HighPost (x : Nat) (w : World) (e : Ending) (w' : World) : Prop := e = .returned (.int .u32 (x : Int)) ∧ ∃ m, w' = w.drewN m
set_option maxRecDepth 100000 in
set_option maxHeartbeats 2000000 in
theorem high_any (b o n c : Nat) (y0 y1 y2 y3 : Nat) (w : World) (hn : 4 ≤ n) (l0 : y0 < 256) (l1 : y1 < 256) (l2 : y2 < 256) (l3 : y3 < 256)
    (h0 : w.cell? ⟨b, o, none⟩ = some (.int .u8 (y0 : Int))) (h1 : w.cell? ⟨b, o + 1, none⟩ = some (.int .u8 (y1 : Int))) (h2 : w.cell? ⟨b, o + 2, none⟩ = some (.int .u8 (y2 : Int))) (h3 : w.cell? ⟨b, o + 3, none⟩ = some (.int .u8 (y3 : Int))) :
    Calls Tryz.prog 39 #[.slice (some ⟨b, o, none⟩) n c] w (HighPost (y0 * 16777216 + y1 * 65536 + y2 * 256 + y3) w) := by
  have g0 : 0 < n := by omega
  have g1 : 1 < n := by omega
  have g2 : 2 < n := by omega
  have g3 : 3 < n := by omega
  have e1 : bits .or .u32 ((y0 : Int) * 16777216) ((y1 : Int) * 65536) = ((y0 * 16777216 + y1 * 65536 : Nat) : Int) := by
    have := or_join32 24 (y0 * 16777216) (y1 * 65536) (by omega) (by omega) (by omega) (by omega)
    simpa using this
  have e2 : bits .or .u32 ((y0 * 16777216 + y1 * 65536 : Nat) : Int) ((y2 : Int) * 256) = ((y0 * 16777216 + y1 * 65536 + y2 * 256 : Nat) : Int) := by
    have := or_join32 16 (y0 * 16777216 + y1 * 65536) (y2 * 256) (by omega) (by omega) (by omega) (by omega)
    simpa using this
  have e3 : bits .or .u32 ((y0 * 16777216 + y1 * 65536 + y2 * 256 : Nat) : Int) (y3 : Int) = ((y0 * 16777216 + y1 * 65536 + y2 * 256 + y3 : Nat) : Int) := by
    have := or_join32 8 (y0 * 16777216 + y1 * 65536 + y2 * 256) y3 (by omega) (by omega) (by omega) (by omega)
    simpa using this
  have m0 : (y0 : Int) * 16777216 % 4294967296 = (y0 : Int) * 16777216 := Int.emod_eq_of_lt (by omega) (by omega)
  have m1 : (y1 : Int) * 65536 % 4294967296 = (y1 : Int) * 65536 := Int.emod_eq_of_lt (by omega) (by omega)
  have m2 : (y2 : Int) * 256 % 4294967296 = (y2 : Int) * 256 := Int.emod_eq_of_lt (by omega) (by omega)
  obtain ⟨x1, hx1⟩ : ∃ x, x = y0 * 16777216 + y1 * 65536 := ⟨_, rfl⟩
  obtain ⟨x2, hx2⟩ : ∃ x, x = x1 + y2 * 256 := ⟨_, rfl⟩
  obtain ⟨x3, hx3⟩ : ∃ x, x = x2 + y3 := ⟨_, rfl⟩
  rw [← hx1] at e1 e2 e3 ⊢
  rw [← hx2] at e2 e3 ⊢
  rw [← hx3] at e3 ⊢
  clear hx1 hx2 hx3
  go_enter Tryz.func39, Tryz.ntmps39
  go_wp2_with fail
  go_quiet (fail)
  go_wp2_with fail
  go_ret
  exact ⟨rfl, _, rfl⟩
end Go.Proofs.YthnhdfgonpbldaaGreatDoor
/- The specification's highs: two words as eight bytes. -/
namespace Go.Proofs.YthnhdfgonpbldaaGreatDoor
open Go.RowKit Go.Lib
theorem But.of_owned {w w' : World} {base : Nat} {e : TypeId} {size n : Nat} {v : Value} {xs : List Value} (o : w.ownsRow base e size v n xs) (g : w.grownBy w' v.ownBlock) : But (fun i => base ≤ i) w w' :=
  ⟨g.os, g.tape, g.output, g.size, fun k hk hs => g.block k hk (fun e => hs (o.lt k e.symm).1)⟩
def HighsPost (p : Nat × Nat) (w : World) (e : Ending) (w' : World) : Prop := ∃ v, e = .returned v ∧ w'.ownsRow w.heap.size 5 1 v 8 (bcells ((List.range 8).map (by8 p))) ∧ Below w.heap.size w w'
def bw (p : Nat × Nat) (k : Nat) : List Nat := (List.range (4 * k)).map (by8 p)
theorem bw_next (p : Nat × Nat) (k : Nat) : bw p (k + 1) = bw p k ++ [by8 p (4 * k), by8 p (4 * k + 1), by8 p (4 * k + 2), by8 p (4 * k + 3)] := by
  unfold bw
  rw [show 4 * (k + 1) = 4 * k + 1 + 1 + 1 + 1 by omega, List.range_succ, List.range_succ, List.range_succ, List.range_succ]
  simp
theorem news_new (w : World) (cs : List Value) (t : TypeId) : ∀ j u, cs[j]? = some u → (w.alloc (.cells cs.toArray t)).cell? ((⟨w.heap.size, 0, none⟩ : Addr).add j) = some u := fun j u hu => by
  rw [addr_add]
  refine cell_row (heap_alloc_at w _) ?_
  rw [Nat.zero_add]
  simpa using hu
set_option maxRecDepth 100000 in
set_option maxHeartbeats 2000000 in
theorem highs_any (b o c l r : Nat) (w : World) (hl : l < 4294967296) (hr : r < 4294967296)
    (h0 : w.cell? ⟨b, o, none⟩ = some (.int .u32 (l : Int))) (h1 : w.cell? ⟨b, o + 1, none⟩ = some (.int .u32 (r : Int))) :
    Calls Tryz.prog 41 #[.slice (some ⟨b, o, none⟩) 2 c] w (HighsPost (l, r) w) := by
  obtain ⟨i0, hi, hz0, hz1, hz2⟩ := info_parts info5
  have Hi := Lib.hid hi; clear hi
  have Hz := Lib.hid (And.intro hz0 (And.intro hz1 hz2)); clear hz0 hz1 hz2
  have hbl : b < w.heap.size := World.block_lt_of_cell? _ _ h0
  have C0 := Lib.hid h0; clear h0
  have C1 := Lib.hid h1; clear h1
  go_enter Tryz.func41, Tryz.ntmps41
  go_wp2_with fail
  go_loopw [3, 8] (fun v i wr => ∃ k : Nat, k ≤ 2 ∧ i = .int .i64 k ∧ wr.ownsRow w.heap.size 5 1 v (4 * k) (bcells (bw (l, r) k)) ∧ But (fun i => w.heap.size ≤ i) w wr) (fun _ i _ => 2 - (intOf i).toNat)
  case atStart => exact ⟨0, by omega, rfl, World.ownsRow_nil _ _ _ _, But.refl _ _⟩
  case round =>
    obtain ⟨k, hk, rfl, hown, hbut⟩ := hrel
    by_cases hlt : k < 2
    · obtain ⟨x, hx⟩ : ∃ x, x = if k = 0 then l else r := ⟨_, rfl⟩
      have lx : x < 4294967296 := by rw [hx]; split <;> assumption
      have cx : wr.cell? ⟨b, o + k, none⟩ = some (.int .u32 (x : Int)) := by
        refine hbut.cell ?_ (by show ¬ _ ≤ b; omega)
        rcases (show k = 0 ∨ k = 1 by omega) with rfl | rfl
        · rw [hx]; exact C0.out
        · rw [hx]; exact C1.out
      have bx : [by8 (l, r) (4 * k), by8 (l, r) (4 * k + 1), by8 (l, r) (4 * k + 2), by8 (l, r) (4 * k + 3)] = [by4 x 0, by4 x 1, by4 x 2, by4 x 3] := by
        rcases (show k = 0 ∨ k = 1 by omega) with rfl | rfl
        · rw [hx]; rfl
        · rw [hx]; rfl
      obtain ⟨y0, hy0⟩ : ∃ y, y = by4 x 0 := ⟨_, rfl⟩
      obtain ⟨y1, hy1⟩ : ∃ y, y = by4 x 1 := ⟨_, rfl⟩
      obtain ⟨y2, hy2⟩ : ∃ y, y = by4 x 2 := ⟨_, rfl⟩
      obtain ⟨y3, hy3⟩ : ∃ y, y = by4 x 3 := ⟨_, rfl⟩
      rw [← hy0, ← hy1, ← hy2, ← hy3] at bx
      have s0 : (x : Int) / 16777216 = (y0 : Int) := by rw [hy0]; unfold by4; simp only [Nat.sub_zero, Nat.reducePow]; omega
      have s1 : (x : Int) / 65536 % 256 = (y1 : Int) := by rw [hy1]; unfold by4; simp
      have s2 : (x : Int) / 256 % 256 = (y2 : Int) := by rw [hy2]; unfold by4; simp
      have s3 : (x : Int) % 256 = (y3 : Int) := by rw [hy3]; unfold by4; simp
      have BX := Lib.hid bx; clear bx
      have Own := Lib.hid hown; clear hown
      have HBut := Lib.hid hbut; clear hbut
      clear hx hy0 hy1 hy2 hy3
      have nw := news_new wr [.int .u8 (y0 : Int), .int .u8 (y1 : Int), .int .u8 (y2 : Int), .int .u8 (y3 : Int)] 5
      have n1 : ∀ u ∈ [Value.int .u8 (y0 : Int), .int .u8 (y1 : Int), .int .u8 (y2 : Int), .int .u8 (y3 : Int)], u.oneCell' = true := bcells_one [y0, y1, y2, y3]
      have NW := Lib.hid nw; clear nw
      have N1 := Lib.hid n1; clear n1
      have zb := Lib.hid (Nat.le_trans HBut.out.size (show wr.heap.size ≤ (wr.alloc (.cells #[.int .u8 (y0 : Int), .int .u8 (y1 : Int), .int .u8 (y2 : Int), .int .u8 (y3 : Int)] 5)).heap.size by simp))
      go_wp2_with (at_builtin; refine wpList_append_own _ rfl (.tmp 12) (.tmp 24) 22 rfl w.heap.size 5 i0 (.int .u8 0) 1 1 Tryz.underlying22 Hi.out Hz.out.1 Hz.out.2.1 Hz.out.2.2 rfl (by decide) _ (4 * k) _ rfl (Own.out.alloc _) ⟨wr.heap.size, 0, none⟩ 4 4 [.int .u8 (y0 : Int), .int .u8 (y1 : Int), .int .u8 (y2 : Int), .int .u8 (y3 : Int)] rfl rfl NW.out N1.out (by unfold maxLen; omega) (by omega) zb.out ?_; intro v4 w4 O4 G4 _)
      go_roundw
      case rel =>
        refine ⟨k + 1, by omega, by go_num, ?_, ?_⟩
        · rw [bw_next, BX.out]
          have : bcells (bw (l, r) k ++ [y0, y1, y2, y3]) = bcells (bw (l, r) k) ++ [.int .u8 (y0 : Int), .int .u8 (y1 : Int), .int .u8 (y2 : Int), .int .u8 (y3 : Int)] := by simp [bcells]
          rw [this, show 4 * (k + 1) = 4 * k + 4 by omega]
          exact O4
        · exact (HBut.out.alloc _).then (But.trans (But.of_owned (Own.out.alloc _) G4) (But.refl (fun i => w.heap.size ≤ i) w4) (fun _ _ h => h) (fun _ _ h => h))
      case measure => simp [intOf]; omega
    · obtain rfl : k = 2 := by omega
      go_wp2_with fail
      go_ret
      exact ⟨_, rfl, hown, hbut.below (Nat.le_refl _) (fun k hk h => absurd hk (Nat.not_lt.2 h))⟩
end Go.Proofs.YthnhdfgonpbldaaGreatDoor
/- append to an owned row of a slice that may be nil. -/
namespace Go.Proofs.YthnhdfgonpbldaaGreatDoor
open Go.RowKit Go.Lib
theorem wpList_append_own_opt {P : Program} {w : World} {ops : Array Oper} {rest : List Oper} {o : Oper} {a : Act} {Q : Exit → Act → World → Prop} (hgd : o.guard = none) (s x : Operand) (t : TypeId)
    (ho : o.op = .call { callee := .builtin .append, args := #[s, x], argTypes := #[t, t] })
    (base : Nat) (e : TypeId) (i : TypeInfo) (z : Value) (size bytes : Nat) (ht : P.underlying t = some (.slice e)) (hi : P.info? e = some i) (hz : i.zero = some z)
    (hsize : i.size = size) (hby : i.bytes = bytes) (hzs : z.cells.size = size) (hsz : 0 < size)
    (v : Value) (n : Nat) (xs : List Value) (hs : a.eval s = v) (hown : w.ownsRow base e size v n xs)
    (ao : Option Addr) (m c : Nat) (news : List Value) (hx : a.eval x = .slice ao m c) (hnone : ao = none → m = 0 ∧ c = 0) (hl : news.length = m * size)
    (hnews : ∀ ad, ao = some ad → ∀ j u, news[j]? = some u → w.cell? (ad.add j) = some u) (h1 : ∀ u ∈ news, u.oneCell' = true)
    (h63 : n + m ≤ maxLen) (hbytes : (n + m) * bytes ≤ 140737488355328) (hbase : base ≤ w.heap.size)
    (h : ∀ v' w', w'.ownsRow base e size v' (n + m) (xs ++ news) → w.grownBy w' v.ownBlock → wpList P ops Q rest (a.put o.dst v') w') : wpList P ops Q (o :: rest) a w := by
  cases ao with
  | some ad => exact wpList_append_own _ hgd s x t ho base e i z size bytes ht hi hz hsize hby hzs hsz v n xs hs hown ad m c news hx hl (hnews ad rfl) h1 h63 hbytes hbase fun v' w' k1 k2 _ => h v' w' k1 k2
  | none =>
    obtain ⟨rfl, rfl⟩ := hnone rfl
    have e0 : news = [] := List.length_eq_zero_iff.1 (by rw [hl]; simp)
    subst e0
    refine wpList_append_own_none hgd s x t ho base e i size ht hi v n xs hs hown hx (h v w ?_ ⟨rfl, rfl, rfl, Nat.le_refl _, fun _ _ _ => rfl⟩)
    rw [List.append_nil, Nat.add_zero]
    exact hown
theorem owned_slice {w : World} {base n : Nat} {v : Value} {bs : List Nat} (h : w.ownsRow base 5 1 v n (bcells bs)) (hn : 0 < n) :
    ∃ g cap, v = .slice (some ⟨g, 0, none⟩) n cap ∧ base ≤ g ∧ g < w.heap.size ∧ n = bs.length ∧ n ≤ cap ∧ cap ≤ maxLen ∧ ∀ i, i < bs.length → w.cell? ⟨g, 0 + i, none⟩ = some (.int .u8 ((bs.getD i 0 : Nat) : Int)) := by
  have hl : n = bs.length := by
    have := h.1
    simp [bcells] at this
    omega
  have hc := fun g (hg : v.ownBlock = some g) => h.cells hg
  obtain ⟨_, ⟨rfl, rfl⟩ | ⟨g, cap, cur, rfl, hb, hg, h1, h2, h3, h4⟩⟩ := h
  · omega
  · refine ⟨g, cap, rfl, hb, (Array.getElem?_eq_some_iff.1 hg).1, hl, h1, h2, fun i hi => ?_⟩
    have := hc g rfl i (.int .u8 ((bs.getD i 0 : Nat) : Int)) (by simp [bcells, List.getD, hi])
    rw [addr_add] at this
    exact this
end Go.Proofs.YthnhdfgonpbldaaGreatDoor
/- The specification's Crypted. -/
namespace Go.Proofs.YthnhdfgonpbldaaGreatDoor
open Go.RowKit Go.Lib
def CrypSPost (S : Nat → Nat) (w : World) (e : Ending) (w' : World) : Prop :=
  ∃ g cap, e = .returned (.slice (some ⟨g, 0, none⟩) 23 cap) ∧ (∀ i, i < 23 → w'.cell? ⟨g, 0 + i, none⟩ = some (.int .u8 (((crypt S).getD i 0 : Nat) : Int))) ∧ Below w.heap.size w w'
theorem ownsRow_drewN {w : World} {base n : Nat} {e : TypeId} {size : Nat} {v : Value} {xs : List Value} (h : w.ownsRow base e size v n xs) (q : Nat) : (w.drewN q).ownsRow base e size v n xs := by
  unfold World.ownsRow at h ⊢
  simpa using h
theorem ownsRow_below {w w' : World} {base n : Nat} {e : TypeId} {size : Nat} {v : Value} {xs : List Value} (h : w.ownsRow base e size v n xs) (b : Below w.heap.size w w') : w'.ownsRow base e size v n xs :=
  h.kept (row := none) ⟨b.os, b.tape, b.output, b.size, fun k hk _ => b.block k hk⟩ (by cases v.ownBlock <;> simp)
theorem But.setRowOf (w : World) (B : Nat) (cells old : Array Value) (t : TypeId) (fr : Nat × Nat) (_h : w.heap[B]? = some (.cells old t fr)) : But (· = B) w (w.setRow B cells) :=
  ⟨rfl, rfl, rfl, by simp, fun k _ hs => setRow_other _ _ _ _ hs⟩
theorem magic_lit : (#[.int .u8 79, .int .u8 114, .int .u8 112, .int .u8 104, .int .u8 101, .int .u8 97, .int .u8 110, .int .u8 66, .int .u8 101, .int .u8 104, .int .u8 111, .int .u8 108, .int .u8 100, .int .u8 101, .int .u8 114, .int .u8 83, .int .u8 99, .int .u8 114, .int .u8 121, .int .u8 68, .int .u8 111, .int .u8 117, .int .u8 98, .int .u8 116] : Array Value) = (bcells magicB).toArray := rfl
def cd (S : Nat → Nat) (p : Nat) : List Nat := (List.range p).map (cdat S 192)
theorem cd_next (S : Nat → Nat) (m : Nat) (hm : m < 3) : cd S (8 * (m + 1)) = cd S (8 * m) ++ (List.range 8).map (by8 (blks S 64 (pair m))) := by
  have e : ∀ i, i < 8 → cdat S 192 (8 * m + i) = by8 (blks S 64 (pair m)) i := fun i hi => by
    unfold cdat
    rw [show (8 * m + i) / 8 = m by omega, show (8 * m + i) % 8 = i by omega, show min 64 (192 - 64 * m) = 64 by omega]
  unfold cd
  rw [show 8 * (m + 1) = 8 * m + 8 by omega, List.range_add, List.map_append, List.map_map]
  congr 1
  apply List.map_congr_left
  intro i hi
  exact e i (List.mem_range.1 hi)
theorem pair_high (m : Nat) (hm : m < 3) : magicB.getD (8 * m) 0 * 16777216 + magicB.getD (8 * m + 1) 0 * 65536 + magicB.getD (8 * m + 2) 0 * 256 + magicB.getD (8 * m + 3) 0 = (pair m).1 ∧
    magicB.getD (8 * m + 4) 0 * 16777216 + magicB.getD (8 * m + 4 + 1) 0 * 65536 + magicB.getD (8 * m + 4 + 2) 0 * 256 + magicB.getD (8 * m + 4 + 3) 0 = (pair m).2 :=
  (by decide : ∀ m : Fin 3, magicB.getD (8 * m.1) 0 * 16777216 + magicB.getD (8 * m.1 + 1) 0 * 65536 + magicB.getD (8 * m.1 + 2) 0 * 256 + magicB.getD (8 * m.1 + 3) 0 = (pair m.1).1 ∧
    magicB.getD (8 * m.1 + 4) 0 * 16777216 + magicB.getD (8 * m.1 + 4 + 1) 0 * 65536 + magicB.getD (8 * m.1 + 4 + 2) 0 * 256 + magicB.getD (8 * m.1 + 4 + 3) 0 = (pair m.1).2) ⟨m, hm⟩
theorem magicB_lt (j : Nat) : magicB.getD j 0 < 256 := by
  by_cases h : j < 24
  · exact (by decide : ∀ i : Fin 24, magicB.getD i.1 0 < 256) ⟨j, h⟩
  · rw [getD_past (by show 24 ≤ j; omega)]; decide
theorem sliceLo (g t : Nat) (h : t < 24) (W : World) : (Instr.slice 22 (.slice (some ⟨g, 0, none⟩) 24 24) (some (.int .i64 (t : Int))) none none).run Tryz.prog W = .ok (.slice (some ⟨g, t, none⟩) (24 - t) (24 - t)) W := by
  have he : Tryz.prog.elem 22 = 5 := by kernel_rfl
  have hsz : ∀ w, (sizeOf 5).run Tryz.prog w = .ok 1 w := fun w => by
    obtain ⟨i0, hi, _, hz1, _⟩ := info_parts info5
    simp [sizeOf, typeInfo, hi, hz1]
  have hs := run_slice_l (P := Tryz.prog) W 22 (some ⟨g, 0, none⟩) 24 24 (by rw [he]; exact Tryz.underlying22) .i64 (t : Int) (by omega) (by omega)
  rw [hs, he, hsz]
  simp only [Result.andThen, sliced, Int.toNat_natCast, Nat.mul_one]
  rw [if_neg (by omega)]
  simp only [Option.map, addr_add, Nat.zero_add]
theorem wrapN (cost : Nat) (h4 : 4 ≤ cost) (h6 : cost ≤ 6) : wrap64 ((2 : Int) ^ cost) = ((2 ^ cost : Nat) : Int) := by
  rcases (show cost = 4 ∨ cost = 5 ∨ cost = 6 by omega) with rfl | rfl | rfl <;> simp [wrap64]
structure CRel (tB : Nat) (W : World) (S : Nat → Nat) (w : World) : Prop where
  but : But (· = tB) W w
  t : FishAt w tB S
theorem CRel.store {tB : Nat} {W w w1 : World} {S U : Nat → Nat} (h : CRel tB W S w) (b : Below w.heap.size w w1) : CRel tB W U (w1.setRow tB (fishA U)) := by
  have tl : tB < w.heap.size := (Array.getElem?_eq_some_iff.1 h.t).1
  have t1 : w1.heap[tB]? = some (.cells (fishA S) 34 (0, 0)) := by rw [b.block tB tl]; exact h.t
  exact ⟨(h.but.then (But.of_below b)).then (But.setRowOf _ _ _ _ _ _ t1), setRow_heap _ _ _ _ _ _ t1⟩
set_option maxRecDepth 100000 in
set_option maxHeartbeats 4000000 in
theorem crypted_any (T : Nat → Nat) (pw : List Nat) (ka : Option Addr) (kc cost : Nat) (ss : List Nat) (b o c : Nat) (w : World) (h4 : 4 ≤ cost) (h6 : cost ≤ 6) (hp : ∀ x ∈ pw, x < 256) (hl : pw.length ≤ 72)
    (hk : PwAt w ka kc pw) (hs : ss.length = 16) (hb : Bytes ss) (hc : ∀ i, i < ss.length → w.cell? ⟨b, o + i, none⟩ = some (.int .u8 ((ss.getD i 0 : Nat) : Int))) (hT : W32 T) :
    Calls Tryz.prog 29 #[.agg (fishA T), .slice ka pw.length kc, .slice (some ⟨b, o, none⟩) 16 c, .int .i64 (cost : Int)] w (CrypSPost (setup T pw cost ss) w) := by
  obtain ⟨i0, hi, hz0, hz1, hz2⟩ := info_parts info5
  obtain ⟨n, hn⟩ : ∃ n, n = pw.length := ⟨_, rfl⟩
  rw [← hn] at hl ⊢
  have Hi := Lib.hid hi; clear hi
  have Hz := Lib.hid (And.intro hz0 (And.intro hz1 hz2)); clear hz0 hz1 hz2
  obtain ⟨A, hA⟩ : ∃ A, A = fishA T := ⟨_, rfl⟩
  rw [← hA]
  have HA := Lib.hid hA; clear hA
  have HK := Lib.hid hk; clear hk
  have HC := Lib.hid hc; clear hc
  have HT := Lib.hid hT; clear hT
  have HB := Lib.hid hb; clear hb
  have HP := Lib.hid hp; clear hp
  have HS := Lib.hid hs; clear hs
  have Hn := Lib.hid hn; clear hn
  go_enter Tryz.func29, Tryz.ntmps29
  obtain ⟨W0, hW0⟩ : ∃ W0, W0 = w.alloc (.cells A 34) := ⟨_, rfl⟩
  have b0 : But (fun i => w.heap.size ≤ i) w W0 := by rw [hW0]; exact (But.refl _ w).alloc _
  have t0 : FishAt W0 w.heap.size T := by unfold FishAt; rw [hW0, HA.out]; exact heap_alloc_at w _
  have z0 : w.heap.size + 1 ≤ W0.heap.size := by rw [hW0]; simp
  have p0 : PwAt W0 ka kc pw := HK.out.but b0 (fun i hi h => absurd hi (Nat.not_lt.2 h))
  have q1 : ka = none → n = 0 ∧ kc = 0 := fun e => by rw [Hn.out]; exact p0.1 e
  have q2 : (bcells pw).length = n * 1 := by rw [Hn.out]; simp [bcells]
  have q3 : ∀ ad, ka = some ad → ∀ j u, (bcells pw)[j]? = some u → W0.cell? (ad.add j) = some u := fun ad e j u hu => by
    have hj : j < pw.length := by
      have := (List.getElem?_eq_some_iff.1 hu).1
      simpa [bcells] using this
    rw [p0.2 ad e j hj]
    simp [bcells, hj] at hu
    rw [← hu]
    simp [List.getD, hj]
  have Q1 := Lib.hid q1; clear q1
  have Q2 := Lib.hid q2; clear q2
  have Q3 := Lib.hid q3; clear q3
  have B0 := Lib.hid b0; clear b0 p0
  have T0 := Lib.hid t0; clear t0
  have Z0 := Lib.hid z0; clear z0
  have HW0 := Lib.hid hW0
  go_upto_region 2 with (first
    | (simp only [← hW0]; clear hW0; at_builtin; refine wpList_append_own_opt rfl (.const (.slice none 0 0)) (.tmp 17) 22 rfl (w.heap.size + 1) 5 i0 (.int .u8 0) 1 1 Tryz.underlying22 Hi.out Hz.out.1 Hz.out.2.1 Hz.out.2.2 rfl (by decide) (.slice none 0 0) 0 [] rfl (World.ownsRow_nil _ _ _ _) ka n kc (bcells pw) rfl Q1.out Q2.out Q3.out (bcells_one _) (by unfold maxLen; omega) (by omega) Z0.out ?_; intro v1 w1 O1 G1; have O1' := Lib.hid O1; clear O1; have G1' := Lib.hid G1; clear G1)
    | (at_builtin; refine wpList_append_own _ rfl (.tmp 18) (.tmp 19) 22 rfl (w.heap.size + 1) 5 i0 (.int .u8 0) 1 1 Tryz.underlying22 Hi.out Hz.out.1 Hz.out.2.1 Hz.out.2.2 rfl (by decide) _ (0 + n) _ rfl (O1'.out.alloc _) ⟨w1.heap.size, 0, none⟩ 1 1 [.int .u8 0] rfl rfl (news_new w1 [.int .u8 0] 5) (bcells_one [0]) (by unfold maxLen; omega) (by omega) (Nat.le_trans Z0.out (Nat.le_trans G1'.out.size (by simp))) ?_; intro v2 w2 O2 G2 _))
  have o2 : w2.ownsRow (w.heap.size + 1) 5 1 v2 (n + 1) (bcells (pw ++ [0])) := by
    have := O2
    rw [Nat.zero_add] at this
    simpa [bcells] using this
  clear O2
  obtain ⟨tB, htB⟩ : ∃ B, B = w.heap.size := ⟨_, rfl⟩
  obtain ⟨kB, kcap, hv2, hkb1, hkb2, hkl, hkc1, hkc2, hkcell⟩ := owned_slice o2 (by omega)
  have bA : But (fun i => tB + 1 ≤ i) W0 w2 := by
    rw [htB]
    exact ((But.of_owned (World.ownsRow_nil W0 (w.heap.size + 1) 5 1) G1'.out).alloc _).then (But.of_owned (O1'.out.alloc _) G2)
  have t2 : FishAt w2 tB T := by
    have := T0.out
    rw [← htB] at this
    exact this.but bA (by show ¬ tB + 1 ≤ tB; omega)
  have b2 : But (fun i => tB ≤ i) w w2 := by
    have := B0.out
    rw [← htB] at this
    exact this.then (bA.trans (But.refl (fun i => tB ≤ i) w2) (fun i _ h => by have h' : tB + 1 ≤ i := h; show tB ≤ i; omega) (fun _ _ h => h))
  simp only [← htB]
  subst hv2
  clear G2 O1' G1' Q1 Q2 Q3 HK bA o2
  have B2 := Lib.hid b2; clear b2
  have T2 := Lib.hid t2; clear t2
  have KC := Lib.hid hkcell; clear hkcell
  rw [← htB] at hkb1
  have kb := bytes_snoc HP.out
  have call := expanded_salt (pw ++ [0]) ss kB 0 kcap b o c T w2 (by simp) (by rw [← hkl]; omega) kb HT.out (by rw [HS.out]; omega) (by rw [HS.out]; omega) HB.out KC.out (fun i hi => B2.out.cell (HC.out i hi) (fun h => by
        have l : b < w.heap.size := World.block_lt_of_cell? _ _ (HC.out i hi)
        have h' : tB ≤ b := h
        omega))
  rw [← hkl, HS.out] at call
  have HKL := Lib.hid hkl; clear hkl
  have is : (Tryz.prog.info? 34).map (·.size) = some (fishA T).size := by rw [fishA_size]; kernel_rfl
  have IS0 := Lib.hid is; clear is
  have Call := Lib.hid call; clear call kb
  obtain ⟨AT, hAT⟩ : ∃ AT, AT = fishA T := ⟨_, rfl⟩
  rw [← hAT] at Call IS0
  have T2' := Lib.hid (show w2.heap[tB]? = some (.cells AT 34 (0, 0)) by rw [hAT]; exact T2.out)
  have HAT := Lib.hid hAT; clear hAT T2
  have HtB := Lib.hid htB; clear htB
  go_wp2_with (refine wpList_load_row rfl 34 (.tmp 4) rfl tB rfl 34 AT (0, 0) _ T2'.out Tryz.underlying34 rfl IS0.out ?_)
  refine Call.out.mono ?_
  rintro e w3 ⟨rfl, hb3⟩
  obtain ⟨S0, hS0⟩ : ∃ S0, S0 = expS (pw ++ [0]) ss T := ⟨_, rfl⟩
  rw [← hS0]
  obtain ⟨A0, hA0⟩ : ∃ A0, A0 = fishA S0 := ⟨_, rfl⟩
  rw [← hA0]
  have tl : tB < w2.heap.size := (Array.getElem?_eq_some_iff.1 T2'.out).1
  have t3 : w3.heap[tB]? = some (.cells AT 34 (0, 0)) := by rw [hb3.block tB tl]; exact T2'.out
  have i3 : (Tryz.prog.info? 34).map (·.size) = some A0.size := by rw [hA0, fishA_size]; kernel_rfl
  have s3 : AT.size = A0.size := by rw [HAT.out, hA0, fishA_size, fishA_size]
  have o3 : A0.all (·.oneCell') = true := by rw [hA0]; exact fishA_one _
  have T3 := Lib.hid t3; clear t3
  have I3 := Lib.hid i3; clear i3
  have S3 := Lib.hid s3; clear s3
  have O3 := Lib.hid o3; clear o3
  have HA0 := Lib.hid hA0; clear hA0
  have HS0 := Lib.hid hS0; clear hS0
  have HB3 := Lib.hid hb3; clear hb3
  clear Call
  go_wp2_with (first | refine wpList_store_row rfl 34 (.tmp 4) (.tmp 24) rfl tB A0 rfl rfl 34 AT T3.out I3.out S3.out O3.out ?_ | refine wp_store_row 34 (.tmp 4) (.tmp 24) rfl tB A0 rfl rfl 34 AT T3.out I3.out S3.out O3.out ?_)
  obtain ⟨W3, hW3⟩ : ∃ W3, W3 = w3.setRow tB A0 := ⟨_, rfl⟩
  have x3 : CRel tB w2 S0 W3 := by
    have h0 : CRel tB w2 T w2 := ⟨But.refl _ _, by have := T2'.out; rw [HAT.out] at this; exact this⟩
    have h1 := h0.store (U := S0) HB3.out
    rw [← HA0.out, ← hW3] at h1
    exact h1
  rw [← hW3]
  clear hW3
  have X3 := Lib.hid x3; clear x3
  obtain ⟨N, hN⟩ : ∃ N, N = 2 ^ cost := ⟨_, rfl⟩
  have n64 : N ≤ 64 := by rw [hN]; exact Nat.pow_le_pow_right (n := 2) (by decide) h6
  have wN : wrap64 ((2 : Int) ^ cost) = (N : Int) := by
    rw [hN]
    exact wrapN cost h4 h6
  have HN := Lib.hid hN; clear hN
  clear T3 I3 S3 O3 T2' IS0 HAT HA0 HB3 B0 T0 Z0 HA
  have kl : 0 < (pw ++ [0]).length := by simp
  have kB' := bytes_snoc HP.out
  have wS0 : W32 S0 := by rw [HS0.out]; exact expS_lt kB' kl HB.out (by rw [HS.out]; omega) HT.out
  have blB : b < tB := by
    have l : b < w.heap.size := World.block_lt_of_cell? _ _ (HC.out 0 (by rw [HS.out]; omega))
    rw [HtB.out]
    exact l
  have CK : Hid (∀ (W : World) (U : Nat → Nat), CRel tB w2 U W → W32 U → Calls Tryz.prog 38 #[.agg (fishA U), .slice (some ⟨kB, 0, none⟩) (n + 1) kcap, .slice none 0 0] W (ExpdPost (expK (pw ++ [0]) U) W)) := Lib.hid (fun W U hU lU => by
    have c := expanded_plain (pw ++ [0]) kB 0 kcap U W kl (by rw [← HKL.out]; omega) kB' lU (fun i hi => hU.but.cell (KC.out i hi) (by show ¬ kB = tB; omega))
    rw [← HKL.out] at c
    exact c)
  have CS : Hid (∀ (W : World) (U : Nat → Nat), CRel tB w2 U W → W32 U → Calls Tryz.prog 38 #[.agg (fishA U), .slice (some ⟨b, o, none⟩) 16 c, .slice none 0 0] W (ExpdPost (expK ss U) W)) := Lib.hid (fun W U hU lU => by
    have c := expanded_plain ss b o c U W (by rw [HS.out]; omega) (by rw [HS.out]; omega) HB.out lU (fun i hi => hU.but.cell (B2.out.cell (HC.out i hi) (fun h => by
      have h' : tB ≤ b := h
      omega)) (by show ¬ b = tB; omega))
    rw [HS.out] at c
    exact c)
  have WS0 := Lib.hid wS0; clear wS0
  have is : ∀ U, (Tryz.prog.info? 34).map (·.size) = some (fishA U).size := fun U => by rw [fishA_size]; kernel_rfl
  have IS := Lib.hid is; clear is
  clear kl
  have KB' := Lib.hid kB'; clear kB'
  go_loopw [10] (fun i wr => ∃ k : Nat, k ≤ N ∧ i = .int .i64 k ∧ CRel tB w2 (turns (pw ++ [0]) ss S0 k) wr) (fun i _ => N - (intOf i).toNat)
  case atStart => exact ⟨0, Nat.zero_le _, rfl, X3.out⟩
  case round =>
    obtain ⟨k, hk, rfl, hx⟩ := hrel
    by_cases hlt : k < N
    · obtain ⟨U, hU⟩ : ∃ U, U = turns (pw ++ [0]) ss S0 k := ⟨_, rfl⟩
      rw [← hU] at hx
      have wU : W32 U := by rw [hU]; exact turns_lt KB'.out (by simp) HB.out (by rw [HS.out]; omega) WS0.out k
      obtain ⟨U1, hU1⟩ : ∃ U1, U1 = expK (pw ++ [0]) U := ⟨_, rfl⟩
      have wU1 : W32 U1 := by rw [hU1]; exact expK_lt KB'.out (by simp) wU
      obtain ⟨U2, hU2⟩ : ∃ U2, U2 = expK ss U1 := ⟨_, rfl⟩
      have eU : turns (pw ++ [0]) ss S0 (k + 1) = U2 := by rw [hU2, hU1, hU]; rfl
      have call1 := CK.out wr U hx wU
      rw [← hU1] at call1
      obtain ⟨A1, hA1⟩ : ∃ A1, A1 = fishA U := ⟨_, rfl⟩
      obtain ⟨A2, hA2⟩ : ∃ A2, A2 = fishA U1 := ⟨_, rfl⟩
      obtain ⟨A3, hA3⟩ : ∃ A3, A3 = fishA U2 := ⟨_, rfl⟩
      have i1 := IS.out U
      have i2 := IS.out U1
      have i3 := IS.out U2
      have o2 := fishA_one U1
      have o3 := fishA_one U2
      have z1 := fishA_size U
      have z2 := fishA_size U1
      have z3 := fishA_size U2
      have t1 : wr.heap[tB]? = some (.cells (fishA U) 34 (0, 0)) := hx.t
      rw [← hA1] at call1 i1 z1 t1
      rw [← hA2] at i2 o2 z2
      rw [← hA3] at i3 o3 z3
      have I1 := Lib.hid i1; clear i1
      have I2 := Lib.hid i2; clear i2
      have I3 := Lib.hid i3; clear i3
      have O2 := Lib.hid o2; clear o2
      have O3 := Lib.hid o3; clear o3
      have Z12 := Lib.hid (z1.trans z2.symm)
      have Z23 := Lib.hid (z2.trans z3.symm); clear z1 z2 z3
      have T1 := Lib.hid t1; clear t1
      have HX := Lib.hid hx; clear hx
      have EU := Lib.hid eU; clear eU
      have HU := Lib.hid hU; clear hU
      have HU1 := Lib.hid hU1; clear hU1
      have HU2 := Lib.hid hU2; clear hU2
      have HA1 := Lib.hid hA1; clear hA1
      have HA2 := Lib.hid hA2; clear hA2
      have HA3 := Lib.hid hA3; clear hA3
      have WU := Lib.hid wU; clear wU
      have WU1 := Lib.hid wU1; clear wU1
      have Call1 := Lib.hid call1; clear call1
      go_wp2_with (refine wpList_load_row rfl 34 (.tmp 4) rfl tB rfl 34 A1 (0, 0) _ T1.out Tryz.underlying34 rfl I1.out ?_)
      refine Call1.out.mono ?_
      rintro e wa ⟨rfl, hb1⟩
      have xa := HX.out.store (U := U1) hb1
      have ta : wa.heap[tB]? = some (.cells A1 34 (0, 0)) := by rw [hb1.block tB (Array.getElem?_eq_some_iff.1 T1.out).1]; exact T1.out
      rw [← HA2.out] at xa ⊢
      have Ta := Lib.hid ta; clear ta hb1
      obtain ⟨wa1, hwa1⟩ : ∃ wa1, wa1 = wa.setRow tB A2 := ⟨_, rfl⟩
      rw [← hwa1] at xa
      have call2 := CS.out wa1 U1 xa WU1.out
      rw [← HU2.out, ← HA2.out] at call2
      have t2 : wa1.heap[tB]? = some (.cells A2 34 (0, 0)) := by have := xa.t; rw [HA2.out]; exact this
      have T2 := Lib.hid t2; clear t2
      have Xa := Lib.hid xa; clear xa
      have Call2 := Lib.hid call2; clear call2
      have Hwa := Lib.hid hwa1; clear hwa1
      go_wp2_with (first
        | (refine wpList_store_row rfl 34 (.tmp 4) (.tmp 33) rfl tB A2 rfl rfl 34 A1 Ta.out I2.out Z12.out O2.out ?_; rw [← Hwa.out])
        | (refine wp_store_row 34 (.tmp 4) (.tmp 33) rfl tB A2 rfl rfl 34 A1 Ta.out I2.out Z12.out O2.out ?_; rw [← Hwa.out])
        | (refine wpList_load_row rfl 34 (.tmp 4) rfl tB rfl 34 A2 (0, 0) _ T2.out Tryz.underlying34 rfl I2.out ?_))
      refine Call2.out.mono ?_
      rintro e wb ⟨rfl, hb2⟩
      have xb := Xa.out.store (U := U2) hb2
      have tb : wb.heap[tB]? = some (.cells A2 34 (0, 0)) := by rw [hb2.block tB (Array.getElem?_eq_some_iff.1 T2.out).1]; exact T2.out
      rw [← HA3.out] at xb ⊢
      have Tb := Lib.hid tb; clear tb hb2
      have Xb := Lib.hid xb; clear xb
      go_wp2_with (first
        | refine wpList_store_row rfl 34 (.tmp 4) (.tmp 36) rfl tB A3 rfl rfl 34 A2 Tb.out I3.out Z23.out O3.out ?_
        | refine wp_store_row 34 (.tmp 4) (.tmp 36) rfl tB A3 rfl rfl 34 A2 Tb.out I3.out Z23.out O3.out ?_)
      go_roundw
      case rel => exact ⟨k + 1, by omega, by go_num, by rw [EU.out]; exact Xb.out⟩
      case measure => simp [intOf]; omega
    · obtain rfl : k = N := by omega
      have HX := Lib.hid hx; clear hx
      clear CK CS X3 KC HKL WS0 IS
      have kc := fun (w : World) (C : Array Value) (n c : Nat) => Lib.run_convert_bytes_const (P := Tryz.prog) w 22 5 C n c Tryz.underlying22 Tryz.underlying5
      go_wp2_with fail
      obtain ⟨SF, hSF⟩ : ∃ SF, SF = turns (pw ++ [0]) ss S0 k := ⟨_, rfl⟩
      have eSF : setup T pw cost ss = SF := by rw [hSF, HS0.out, HN.out]; rfl
      have ESF := Lib.hid eSF; clear eSF
      have tl : tB < wr.heap.size := (Array.getElem?_eq_some_iff.1 HX.out.t).1
      obtain ⟨xB, hxB⟩ : ∃ xB, xB = wr.heap.size := ⟨_, rfl⟩
      obtain ⟨We, hWe⟩ : ∃ We, We = wr.alloc (.cells #[.int .u8 79, .int .u8 114, .int .u8 112, .int .u8 104, .int .u8 101, .int .u8 97, .int .u8 110, .int .u8 66, .int .u8 101, .int .u8 104, .int .u8 111, .int .u8 108, .int .u8 100, .int .u8 101, .int .u8 114, .int .u8 83, .int .u8 99, .int .u8 114, .int .u8 121, .int .u8 68, .int .u8 111, .int .u8 117, .int .u8 98, .int .u8 116] 5 (24, 25)) := ⟨_, rfl⟩
      rw [← hWe]
      simp only [← hxB]
      have cx : ∀ j, j < 24 → We.cell? ⟨xB, j, none⟩ = some (.int .u8 ((magicB.getD j 0 : Nat) : Int)) := fun j hj => by
        rw [hWe, magic_lit, hxB]
        refine cell_row (heap_alloc_at wr _) ?_
        rw [List.getElem?_toArray]
        exact bcells_get magicB j hj
      have fE : FishAt We tB SF := by
        unfold FishAt
        rw [hWe, heap_alloc_ne _ _ _ (by omega), hSF]
        exact HX.out.t
      have bE : But (fun i => tB ≤ i) w We := by
        rw [hWe]
        exact (B2.out.then (HX.out.but.trans (But.refl (fun i => tB ≤ i) wr) (fun i _ h => by have h' : i = tB := h; show tB ≤ i; omega) (fun _ _ h => h))).alloc _
      have lSF : W32 SF := by rw [hSF]; exact turns_lt KB'.out (by simp) HB.out (by rw [HS.out]; omega) (by rw [HS0.out]; exact expS_lt KB'.out (by simp) HB.out (by rw [HS.out]; omega) HT.out) k
      have zx : xB < We.heap.size := by rw [hWe, hxB]; simp
      have zt : tB < We.heap.size := by omega
      clear hWe
      clear hxB tl
      have Cx := Lib.hid cx; clear cx
      have FE := Lib.hid fE; clear fE
      have BE := Lib.hid bE; clear bE
      have LSF := Lib.hid lSF; clear lSF
      have HSF := Lib.hid hSF; clear hSF
      clear HX B2 HS0 HT HB HP HS Hn HC KB' HN blB wN HW0
      go_loopw [12, 13] (fun out i wx => ∃ m p : Nat, p = 8 * m ∧ m ≤ 3 ∧ i = .int .i64 p ∧ wx.ownsRow We.heap.size 5 1 out p (bcells (cd SF p)) ∧ But (fun i => We.heap.size ≤ i) We wx) (fun _ i _ => 24 - (intOf i).toNat)
      case atStart => exact ⟨0, 0, rfl, by omega, rfl, World.ownsRow_nil _ _ _ _, But.refl _ _⟩
      case round =>
        obtain ⟨m, p, hp, hm, rfl, hown, hbut⟩ := hrel
        have Own := Lib.hid hown; clear hown
        have HBut := Lib.hid hbut; clear hbut
        have Hp := Lib.hid hp; clear hp
        by_cases hlt : p < 24
        · have p16 : p ≤ 16 := by have := Hp.out; omega
          have tt : decide ((p : Int) < 24) = true := by simp; omega
          have m3 : m < 3 := by have := Hp.out; omega
          obtain ⟨pL, hpL⟩ : ∃ pL, pL = (pair m).1 := ⟨_, rfl⟩
          obtain ⟨pR, hpR⟩ : ∃ pR, pR = (pair m).2 := ⟨_, rfl⟩
          have cw : ∀ j, j < 24 → wr.cell? ⟨xB, j, none⟩ = some (.int .u8 ((magicB.getD j 0 : Nat) : Int)) := fun j hj => HBut.out.cell (Cx.out j hj) (by show ¬ _ ≤ xB; omega)
          have Cw := Lib.hid cw; clear cw
          obtain ⟨n1, hn1⟩ : ∃ n1, n1 = 24 - p := ⟨_, rfl⟩
          obtain ⟨p2, hp2⟩ : ∃ p2, p2 = p + 4 := ⟨_, rfl⟩
          obtain ⟨n2, hn2⟩ : ∃ n2, n2 = 24 - p2 := ⟨_, rfl⟩
          have h1 : ∀ W : World, (∀ j, j < 24 → W.cell? ⟨xB, j, none⟩ = some (.int .u8 ((magicB.getD j 0 : Nat) : Int))) → Calls Tryz.prog 39 #[.slice (some ⟨xB, p, none⟩) n1 n1] W (HighPost pL W) := fun W hW => by
            have e := (pair_high m m3).1
            rw [← Hp.out, ← hpL] at e
            have c := high_any xB p n1 n1 _ _ _ _ W (by omega) (magicB_lt _) (magicB_lt _) (magicB_lt _) (magicB_lt _) (hW p (by omega)) (hW (p + 1) (by omega)) (hW (p + 2) (by omega)) (hW (p + 3) (by omega))
            rw [e] at c
            exact c
          have h2 : ∀ W : World, (∀ j, j < 24 → W.cell? ⟨xB, j, none⟩ = some (.int .u8 ((magicB.getD j 0 : Nat) : Int))) → Calls Tryz.prog 39 #[.slice (some ⟨xB, p2, none⟩) n2 n2] W (HighPost pR W) := fun W hW => by
            have e := (pair_high m m3).2
            rw [← Hp.out, ← hpR, ← hp2] at e
            have c := high_any xB p2 n2 n2 _ _ _ _ W (by omega) (magicB_lt _) (magicB_lt _) (magicB_lt _) (magicB_lt _) (hW p2 (by omega)) (hW (p2 + 1) (by omega)) (hW (p2 + 2) (by omega)) (hW (p2 + 3) (by omega))
            rw [e] at c
            exact c
          have H1 := Lib.hid h1; clear h1
          have H2 := Lib.hid h2; clear h2
          have HpL := Lib.hid hpL; clear hpL
          have HpR := Lib.hid hpR; clear hpR
          have s1 := sliceLo xB p (by omega)
          have s2 := sliceLo xB (p + 4) (by omega)
          have ec : ((p + 4 : Nat) : Int) = (p : Int) + 4 := by omega
          rw [ec, ← hp2, ← hn2] at s2
          rw [← hn1] at s1
          have hw : IntKind.i64.wrap ((p : Int) + 4) = (p : Int) + 4 := IntWalk.i64_in _ (by omega)
          have hw0 : 0 ≤ (p : Int) + 4 := by omega
          have hwn : ((p : Int) + 4).toNat = p2 := by omega
          clear ec hn1 hp2 hn2
          go_wp2_with fail
          go_quiet (first
            | (go_at_call_of 39 (Value.slice (some ⟨xB, p, none⟩) n1 n1); refine Calls.quiet_of (H1.out _ ?_); intro j hj; simpa using Cw.out j hj)
            | (go_at_call_of 39 (Value.slice (some ⟨xB, p2, none⟩) n2 n2); refine Calls.quiet_of (H2.out _ ?_); intro j hj; simpa using Cw.out j hj))
          go_wp2_with fail
          obtain ⟨wo, hwo⟩ : ∃ wo, wo = wr.drewN nq := ⟨_, rfl⟩
          have ownO : wo.ownsRow We.heap.size 5 1 u12 p (bcells (cd SF p)) := by rw [hwo]; exact ownsRow_drewN Own.out _
          have butO : But (fun i => We.heap.size ≤ i) We wo := by rw [hwo]; exact HBut.out.drewN _
          have fO : FishAt wo tB SF := FE.out.but butO (by show ¬ We.heap.size ≤ tB; omega)
          have ep : pair m = (pL, pR) := Prod.ext HpL.out.symm HpR.out.symm
          have lp := pair_lt m
          rw [← HpL.out, ← HpR.out] at lp
          rw [← hwo]
          clear hwo Own HBut Cw H1 H2 HpL HpR
          have OwnO := Lib.hid ownO; clear ownO
          have ButO := Lib.hid butO; clear butO
          have FO := Lib.hid fO; clear fO
          have Ep := Lib.hid ep; clear ep
          have Lp := Lib.hid lp; clear lp
          go_loopw [14, 15, 16] (fun l r j wx => ∃ k' q : Nat, k' ≤ 64 ∧ j = .int .i64 k' ∧ l = .int .u32 ((blks SF k' (pL, pR)).1 : Int) ∧ r = .int .u32 ((blks SF k' (pL, pR)).2 : Int) ∧ wx = wo.drewN q) (fun _ _ j _ => 64 - (intOf j).toNat)
          case atStart => exact ⟨0, 0, by omega, rfl, rfl, rfl, rfl⟩
          case round =>
            obtain ⟨k', q, hk', rfl, rfl, rfl, rfl⟩ := hrel
            have bl := blks_lt (p := (pL, pR)) LSF.out Lp.out.1 Lp.out.2 k'
            obtain ⟨l, hl'⟩ : ∃ l, l = (blks SF k' (pL, pR)).1 := ⟨_, rfl⟩
            obtain ⟨r, hr'⟩ : ∃ r, r = (blks SF k' (pL, pR)).2 := ⟨_, rfl⟩
            rw [← hl', ← hr'] at bl ⊢
            have Hl' := Lib.hid hl'; clear hl'
            have Hr' := Lib.hid hr'; clear hr'
            by_cases hk6 : k' < 64
            · have call := forth_any SF tB (wo.drewN q) l r bl.1 bl.2 ((FO.out.drewN q).words LSF.out)
              unfold BlkPost at call
              obtain ⟨Q, hQ⟩ : ∃ Q, Q = blk SF l r := ⟨_, rfl⟩
              have en : blks SF (k' + 1) (pL, pR) = Q := by rw [hQ, Hl'.out, Hr'.out]; rfl
              rw [← hQ] at call
              have Call := Lib.hid call; clear call
              have En := Lib.hid en; clear en hQ bl
              go_wp2_with fail
              refine Call.out.mono ?_
              rintro e w5 ⟨rfl, q2, rfl⟩
              go_wp2_with fail
              go_roundw
              case rel => exact ⟨k' + 1, q + q2, by omega, by go_num, by rw [En.out], by rw [En.out], rfl⟩
              case measure => simp [intOf]; omega
            · obtain rfl : k' = 64 := by omega
              go_wp2_with fail
              obtain ⟨W1, hW1⟩ : ∃ W1, W1 = (wo.drewN q).alloc (.cells #[.int .u32 (l : Int), .int .u32 (r : Int)] 29) := ⟨_, rfl⟩
              have c0 : W1.cell? ⟨wo.heap.size, 0, none⟩ = some (.int .u32 (l : Int)) := by
                rw [hW1]
                exact cell_row (by have := heap_alloc_at (wo.drewN q) (.cells #[.int .u32 (l : Int), .int .u32 (r : Int)] 29); simpa using this) rfl
              have c1 : W1.cell? ⟨wo.heap.size, 0 + 1, none⟩ = some (.int .u32 (r : Int)) := by
                rw [hW1]
                exact cell_row (by have := heap_alloc_at (wo.drewN q) (.cells #[.int .u32 (l : Int), .int .u32 (r : Int)] 29); simpa using this) rfl
              have own1 : W1.ownsRow We.heap.size 5 1 u12 p (bcells (cd SF p)) := by rw [hW1]; exact (ownsRow_drewN OwnO.out q).alloc _
              have but1 : But (fun i => We.heap.size ≤ i) We W1 := by rw [hW1]; exact (ButO.out.drewN q).alloc _
              have call := highs_any wo.heap.size 0 2 l r W1 bl.1 bl.2 c0 c1
              have eq8 : (List.range 8).map (by8 (l, r)) = (List.range 8).map (by8 (blks SF 64 (pair m))) := by rw [Ep.out, Hl'.out, Hr'.out]
              rw [← hW1]
              clear hW1 c0 c1 bl Hl' Hr'
              have Call := Lib.hid call; clear call
              have Own1 := Lib.hid own1; clear own1
              have But1 := Lib.hid but1; clear but1
              have Eq8 := Lib.hid eq8; clear eq8
              refine Call.out.mono ?_
              rintro e w5 ⟨v5, rfl, o5, b5⟩
              have own5 := ownsRow_below Own1.out b5
              have but5 := But1.out.then (But.of_below b5)
              obtain ⟨g5, cap5, hv5, y1, y2, y3, y4, y5, y6⟩ := owned_slice o5 (by decide)
              clear y1 y2 y3 y4 y5 y6
              have n5 := fun j u hu => o5.cells (g := g5) (by rw [hv5]; rfl) j u hu
              have z5 : We.heap.size ≤ w5.heap.size := but5.size
              rw [hv5]
              rw [Eq8.out] at n5
              have Own5 := Lib.hid own5; clear own5
              have But5 := Lib.hid but5; clear but5
              have N5 := Lib.hid n5; clear n5
              have Z5 := Lib.hid z5; clear z5
              clear hv5 o5 b5 Call Eq8
              go_wp2_with (at_builtin; refine wpList_append_own _ rfl (.tmp 64) (.tmp 68) 22 rfl We.heap.size 5 i0 (.int .u8 0) 1 1 Tryz.underlying22 Hi.out Hz.out.1 Hz.out.2.1 Hz.out.2.2 rfl (by decide) _ p _ rfl Own5.out ⟨g5, 0, none⟩ 8 cap5 (bcells ((List.range 8).map (by8 (blks SF 64 (pair m))))) rfl (by simp [bcells]) N5.out (bcells_one _) (by unfold maxLen; omega) (by omega) Z5.out ?_; intro v6 w6 O6 G6 _)
              go_roundw
              case rel =>
                refine ⟨m + 1, p + 8, by have := Hp.out; omega, by omega, by go_num, ?_, ?_⟩
                · have e : cd SF (p + 8) = cd SF p ++ (List.range 8).map (by8 (blks SF 64 (pair m))) := by
                    have := cd_next SF m m3
                    rw [show 8 * (m + 1) = p + 8 by have := Hp.out; omega, ← Hp.out] at this
                    exact this
                  rw [e]
                  have : bcells (cd SF p ++ (List.range 8).map (by8 (blks SF 64 (pair m)))) = bcells (cd SF p) ++ bcells ((List.range 8).map (by8 (blks SF 64 (pair m)))) := by simp [bcells]
                  rw [this]
                  exact O6
                · exact But5.out.then (But.trans (But.of_owned Own5.out G6) (But.refl (fun i => We.heap.size ≤ i) w6) (fun _ _ h => h) (fun _ _ h => h))
              case measure => simp [intOf]; omega
        · obtain rfl : p = 24 := by have := Hp.out; omega
          obtain ⟨g, cap, hv, gb, y1, y2, gc, gm, gcell⟩ := owned_slice Own.out (by decide)
          clear y1 y2
          subst hv
          have bAll : Below w.heap.size w wr := by
            rw [← HtB.out]
            have b1 : But (fun i => tB ≤ i) w wr := BE.out.then (HBut.out.trans (But.refl (fun i => tB ≤ i) wr) (fun i _ h => by have h' : We.heap.size ≤ i := h; show tB ≤ i; omega) (fun _ _ h => h))
            exact b1.below (by rw [HtB.out]; exact Nat.le_refl _) (fun k hk h => by have h' : tB ≤ k := h; omega)
          have BAll := Lib.hid bAll; clear bAll
          have gcl : ∀ i, i < 23 → wr.cell? ⟨g, 0 + i, none⟩ = some (.int .u8 (((crypt SF).getD i 0 : Nat) : Int)) := fun i hi => by
            rw [gcell i (by show i < ((List.range 24).map (cdat SF 192)).length; simp; omega), crypt_get SF i hi]
            simp [cd, show i < 24 by omega]
          have Gcl := Lib.hid gcl; clear gcl gcell
          have g23 : 23 ≤ cap := by omega
          clear Own HBut
          go_wp2_with fail
          go_ret
          exact ⟨g, cap, rfl, by rw [ESF.out]; exact Gcl.out, BAll.out⟩
end Go.Proofs.YthnhdfgonpbldaaGreatDoor
