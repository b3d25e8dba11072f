/- The statements' own 'salted' and 'hashed': a salt's letters, and the whole text of a hash. -/
import Derived.Test.YthnhdfgonpbldaaGreatDoorThin
import Derived.Lib.SlBytesConst
import Derived.Deep.Cut
namespace Go.Proofs.YthnhdfgonpbldaaGreatDoor
open Go.RowKit Go.Lib
theorem salted_any (sl : List Nat) (w : World) (hl : sl.length = 16) (hb : ∀ x ∈ sl, x < 256) :
    Calls Tryz.prog 15 #[.agg (bcells sl).toArray] w (EncBytesC w sl 24) := by
  have hcells : ∀ j, j < 16 → (bcells sl).toArray[j]? = some (.int .u8 ((sl.getD j 0 : Nat) : Int)) := fun j hj => by
    have := bcells_get sl j (by omega)
    simpa using this
  obtain ⟨A, hA⟩ : ∃ A, A = (bcells sl).toArray := ⟨_, rfl⟩
  rw [← hA] at hcells ⊢
  clear hA
  have enc := bcryptEncode_cap w.heap.size 0 16 16 sl (w.alloc (.cells A 38)) (by omega) (by omega) (by decide) (by omega) (by omega) hl hb (fun j hj => by rw [Nat.zero_add]; exact cell_row (heap_alloc_at w _) (hcells j hj))
  have Enc := Lib.hid enc; clear enc hcells
  clear hl hb
  go_enter Tryz.func15, Tryz.ntmps15
  go_wp2_with fail
  refine Enc.out.mono ?_
  rintro e w1 ⟨v, rfl, h1, h2⟩
  obtain ⟨g, cur, x1, x2, x3⟩ := h1
  have X := Lib.hid x3; clear x3
  have H2 := Lib.hid h2; clear h2
  have X2 := Lib.hid x2; clear x2
  have X1 := Lib.hid x1; clear x1
  go_wp2_with fail
  go_ret
  exact ⟨v, rfl, ⟨g, cur, X1.out, by have := X2.out; simp at this; omega, X.out⟩, Below.trans' (below_alloc w _) H2.out⟩
theorem grown_of_below {w w' : World} (h : Below w.heap.size w w') : w.grownBy w' none := ⟨h.os, h.tape, h.output, h.size, fun k hk _ => h.block k hk⟩
theorem news_keep {w3 w4 : World} {lg size : Nat} {lh : List Nat} {row : Option Nat} (L : LRow w3 lg size lh) (G : w3.grownBy w4 row) (hne : some lg ≠ row) : ∀ j u, (bcells lh)[j]? = some u → w4.cell? ((⟨lg, 0, none⟩ : Addr).add j) = some u := fun j u hu => by
  obtain ⟨hj, rfl⟩ := bcells_some hu
  rw [addr_add, Nat.zero_add]
  exact G.cell (L.cell j hj) hne
theorem size38 {sl : List Nat} (h : sl.length = 16) : (Tryz.prog.info? 38).map (·.size) = some (bcells sl).length := by rw [bcells_length, h]; kernel_rfl
theorem part38 (sl : List Nat) (j : Nat) (v : Value) (h : (bcells sl)[j]? = some v) : (bcells sl).toArray[0 + j]? = some v := by
  rw [Nat.zero_add]
  simpa using h
theorem below_grown {B : Nat} {w w' : World} {row : Option Nat} (hB : B ≤ w.heap.size) (h : w.grownBy w' row) (hr : ∀ k, row = some k → B ≤ k) : Below B w w' :=
  ⟨h.os, h.tape, h.output, h.size, fun k hk => h.block k (by omega) (fun e => by have := hr k e.symm; omega)⟩
def HashedPost (k : Nat) (ls lh : List Nat) (w : World) (e : Ending) (w' : World) : Prop :=
  ∃ g cap, e = .returned (.slice (some ⟨g, 0, none⟩) 60 cap) ∧ w.heap.size ≤ g ∧ Below w.heap.size w w' ∧ 60 ≤ cap ∧ cap ≤ 9223372036854775807 ∧ ∀ i, i < 60 → w'.cell? ⟨g, 0 + i, none⟩ = some (.int .u8 (((hashL k ls lh).getD i 0 : Nat) : Int))
set_option maxRecDepth 100000 in
set_option maxHeartbeats 2000000 in
theorem hashed_any (k lg lc : Nat) (sl lh : List Nat) (w : World) (h4 : 4 ≤ k) (h6 : k ≤ 6) (hl : sl.length = 16) (hb : ∀ x ∈ sl, x < 256) (hlh : lh.length = 31) (hlc : LRow w lg 32 lh) :
    Calls Tryz.prog 17 #[.int .i64 (k : Int), .agg (bcells sl).toArray, .slice (some ⟨lg, 0, none⟩) 31 lc] w (HashedPost k (encL sl) lh w) := by
  obtain ⟨i0, hi, hz0, hz1, hz2⟩ := info_parts info5
  have Hi := Lib.hid hi; clear hi
  have Hz := Lib.hid (And.intro hz0 (And.intro hz1 hz2)); clear hz0 hz1 hz2
  have kc := fun (w : World) (C : Array Value) (n c : Nat) => Lib.run_convert_bytes_const (P := Tryz.prog) w 22 5 C n c Tryz.underlying22 Tryz.underlying5
  have sal := fun W : World => salted_any sl W hl hb
  have llg := hlc.lt
  have Sal := Lib.hid sal; clear sal
  have Hl := Lib.hid hl; clear hl
  have Hlh := Lib.hid hlh; clear hlh
  have HL := Lib.hid hlc; clear hlc
  clear hb
  go_enter Tryz.func17, Tryz.ntmps17
  go_upto_region 1 with fail
  obtain ⟨X, hX⟩ : ∃ X, w.heap.size = X := ⟨_, rfl⟩
  simp only [hX]
  obtain ⟨W0, hW0⟩ : ∃ W0, W0 = w.alloc (.cells (bcells sl).toArray 38) := ⟨_, rfl⟩
  have b0 : Below w.heap.size w W0 := by rw [hW0]; exact below_alloc w _
  have r0 : W0.heap[X]? = some (.cells (bcells sl).toArray 38 (0, 0)) := by rw [hW0, ← hX]; exact heap_alloc_at w _
  simp only [← hW0]
  clear hW0
  have B0 := Lib.hid b0; clear b0
  have R0 := Lib.hid r0; clear r0
  have HX := Lib.hid hX; clear hX
  have kd : (k : Int) / 10 = 0 := by omega
  have kr : (k : Int) % 10 = (k : Int) := by omega
  have q3 : ∀ b, some (⟨W0.heap.size, 0, none⟩ : Addr) = some b → ∀ j u, [Value.int .u8 36, .int .u8 50, .int .u8 97, .int .u8 36][j]? = some u →
      ((W0.alloc (.cells #[.int .u8 36, .int .u8 50, .int .u8 97, .int .u8 36] 5 (4, 5))).alloc (.cells #[.int .u8 48, .int .u8 (48 + (k : Int)), .int .u8 36] 5)).cell? (b.add j) = some u := fun b e j u hu => by
    obtain rfl := Option.some.inj e
    rw [addr_add]
    refine (But.alloc (But.refl (fun _ => False) (W0.alloc (.cells #[.int .u8 36, .int .u8 50, .int .u8 97, .int .u8 36] 5 (4, 5)))) _).cell (cell_row (heap_alloc_at W0 _) ?_) (fun h => h)
    rw [Nat.zero_add]
    simpa using hu
  have q4 : ∀ j u, [Value.int .u8 48, .int .u8 (48 + (k : Int)), .int .u8 36][j]? = some u →
      ((W0.alloc (.cells #[.int .u8 36, .int .u8 50, .int .u8 97, .int .u8 36] 5 (4, 5))).alloc (.cells #[.int .u8 48, .int .u8 (48 + (k : Int)), .int .u8 36] 5)).cell? ((⟨W0.heap.size + 1, 0, none⟩ : Addr).add j) = some u := fun j u hu => by
    rw [addr_add]
    have := heap_alloc_at (W0.alloc (.cells #[.int .u8 36, .int .u8 50, .int .u8 97, .int .u8 36] 5 (4, 5))) (.cells #[.int .u8 48, .int .u8 (48 + (k : Int)), .int .u8 36] 5)
    rw [World.size_alloc] at this
    refine cell_row this ?_
    rw [Nat.zero_add]
    simpa using hu
  have q5 : ∀ u ∈ [Value.int .u8 48, .int .u8 (48 + (k : Int)), .int .u8 36], u.oneCell' = true := fun u hu => by
    simp only [List.mem_cons, List.not_mem_nil, or_false] at hu
    rcases hu with rfl | rfl | rfl <;> rfl
  have Q3 := Lib.hid q3; clear q3
  have Q4 := Lib.hid q4; clear q4
  have Q5 := Lib.hid q5; clear q5
  go_upto_region 2 with (at_builtin; refine wpList_append_grows _ rfl _ _ 22 rfl 5 i0 (.int .u8 0) 1 1 Tryz.underlying22 Hi.out Hz.out.1 Hz.out.2.1 Hz.out.2.2 rfl (by decide) (some ⟨W0.heap.size, 0, none⟩) 4 4 [.int .u8 36, .int .u8 50, .int .u8 97, .int .u8 36] rfl (by simp) rfl Q3.out ⟨W0.heap.size + 1, 0, none⟩ 3 3 [.int .u8 48, .int .u8 (48 + (k : Int)), .int .u8 36] rfl rfl Q4.out Q5.out (by omega) (by decide) (by omega) ?_; intro v2 w2 O2 G2)
  clear kd kr kc Q3 Q4 Q5
  have bA : But (fun _ => False) W0 w2 := (((But.refl (fun _ => False) W0).alloc _).alloc _).then (But.of_grown0 G2)
  obtain ⟨base, hbase⟩ : ∃ base, base = W0.heap.size + 2 := ⟨_, rfl⟩
  have o2 : w2.ownsRow base 5 1 v2 7 ([.int .u8 36, .int .u8 50, .int .u8 97, .int .u8 36] ++ [.int .u8 48, .int .u8 (48 + (k : Int)), .int .u8 36]) := by
    have := O2
    simp only [World.size_alloc] at this
    rw [hbase]
    exact this
  have zb : base ≤ w2.heap.size := by
    have := G2.size
    simp only [World.size_alloc] at this
    omega
  clear O2 G2
  have r2 := bA.row R0.out (fun h => h)
  have R2 := Lib.hid r2; clear r2
  have BA := Lib.hid bA; clear bA
  have HBASE := Lib.hid hbase; clear hbase
  have hne : some lg ≠ v2.ownBlock := fun e => by
    have := o2.lt lg e.symm
    have := B0.out.size
    have := HBASE.out
    omega
  have O2 := Lib.hid o2; clear o2
  have HNE := Lib.hid hne; clear hne
  have lb : ∀ k, v2.ownBlock = some k → base ≤ k := fun k e => (O2.out.lt k e).1
  have LB := Lib.hid lb; clear lb
  go_wp2_with (refine wpList_load_part rfl 38 (.tmp 4) rfl X 0 rfl 38 (bcells sl).toArray (bcells sl) (0, 0) _ R2.out (part38 sl) Tryz.underlying38 rfl (size38 Hl.out) ?_)
  refine (Sal.out w2).mono ?_
  rintro e w3 ⟨v3, rfl, ⟨g3, cu3, x1, x2, x3, x4, x5, x6, x7⟩, b3⟩
  have e22 : (encL sl).length = 22 := by rw [encL_length, Hl.out]; rfl
  rw [e22] at x1
  rw [x1]
  have o3 : w3.ownsRow base 5 1 v2 7 ([.int .u8 36, .int .u8 50, .int .u8 97, .int .u8 36] ++ [.int .u8 48, .int .u8 (48 + (k : Int)), .int .u8 36]) := O2.out.kept (grown_of_below b3) (Or.inr (fun e => by
    obtain ⟨_, h | ⟨g, cap, cur, hv, _⟩⟩ := O2.out
    · have := h.2; omega
    · rw [hv] at e; cases e))
  have l3 : LRow w3 lg 32 lh := (HL.out.but ((But.of_below (S := fun _ => False) B0.out).then BA.out) (fun h => h)).but (But.of_below (S := fun _ => False) b3) (fun h => h)
  have n3 : ∀ j u, (bcells (encL sl))[j]? = some u → w3.cell? ((⟨g3, 0, none⟩ : Addr).add j) = some u := fun j u hu => by
    obtain ⟨hj, rfl⟩ := bcells_some hu
    rw [addr_add, Nat.zero_add]
    exact cell_row x3 (x7 j hj)
  have zb3 : base ≤ w3.heap.size := Nat.le_trans zb b3.size
  have E22 := Lib.hid (show (bcells (encL sl)).length = 22 * 1 by rw [bcells_length, e22])
  have E31 := Lib.hid (show (bcells lh).length = 31 * 1 by rw [bcells_length, Hlh.out])
  clear x1 x2 x3 x4 x5 x6 x7 e22
  have O3 := Lib.hid o3; clear o3
  have L3 := Lib.hid l3; clear l3
  have N3 := Lib.hid n3; clear n3
  have B3 := Lib.hid b3; clear b3
  go_wp2_with (first
    | (at_builtin; refine wpList_append_own _ rfl (.tmp 20) (.tmp 22) 22 rfl base 5 i0 (.int .u8 0) 1 1 Tryz.underlying22 Hi.out Hz.out.1 Hz.out.2.1 Hz.out.2.2 rfl (by decide) v2 7 _ rfl O3.out ⟨g3, 0, none⟩ 22 24 (bcells (encL sl)) rfl E22.out N3.out (bcells_one _) (by unfold maxLen; omega) (by omega) zb3 ?_; intro v4 w4 O4 G4 _)
    | (at_builtin; refine wpList_append_own _ rfl (.tmp 23) (.tmp 24) 22 rfl base 5 i0 (.int .u8 0) 1 1 Tryz.underlying22 Hi.out Hz.out.1 Hz.out.2.1 Hz.out.2.2 rfl (by decide) v4 29 _ rfl O4 ⟨lg, 0, none⟩ 31 lc (bcells lh) rfl E31.out (news_keep L3.out G4 HNE.out) (bcells_one _) (by unfold maxLen; omega) (by omega) (Nat.le_trans zb3 G4.size) ?_; intro v5 w5 O5 G5 _))
  have w0w2 : Below w.heap.size w w2 := ((But.of_below (S := fun _ => False) B0.out).then BA.out).belowF
  have wz := w0w2.size
  have wb : w.heap.size ≤ base := by have := HBASE.out; have := B0.out.size; omega
  have o4 := O4.lt
  have b34 : Below w.heap.size w3 w4 := below_grown (Nat.le_trans wz B3.out.size) G4 (fun i e => Nat.le_trans wb (LB.out i e))
  have b45 : Below w.heap.size w4 w5 := below_grown (Nat.le_trans wz (Nat.le_trans B3.out.size G4.size)) G5 (fun i e => Nat.le_trans wb (o4 i e).1)
  have bAll : Below w.heap.size w w5 := (Below.trans' w0w2 B3.out).trans (b34.trans b45)
  obtain ⟨hl5, h5 | ⟨g, cap, cur, rfl, h1, h2, h3, hm, h4', h5⟩⟩ := O5
  · have := h5.2
    omega
  · have BAll := Lib.hid bAll; clear bAll b34 b45 w0w2
    have H2 := Lib.hid h2; clear h2
    have H5 := Lib.hid h5; clear h5
    have H1 := Lib.hid h1; clear h1
    clear O4 G4 G5 hl5 o4
    go_ret
    refine ⟨g, cap, rfl, by have := H1.out; omega, BAll.out, by omega, by unfold maxLen at hm; omega, fun i hi => ?_⟩
    rw [Nat.zero_add]
    refine cell_row H2.out ?_
    have e := H5.out
    have e2 : cur[i]? = (cur.toList.take ((29 + 31) * 1))[i]? := by
      rw [List.getElem?_take_of_lt (by omega)]
      simp
    rw [e2, e]
    have eL : ([Value.int .u8 36, .int .u8 50, .int .u8 97, .int .u8 36] ++ [.int .u8 48, .int .u8 (48 + (k : Int)), .int .u8 36]) ++ bcells (encL sl) ++ bcells lh = bcells (hashL k (encL sl) lh) := by
      simp [bcells, hashL]
    rw [eL, bcells_get _ _ (by rw [hashL_length (by rw [encL_length, Hl.out]; rfl) Hlh.out]; exact hi)]
end Go.Proofs.YthnhdfgonpbldaaGreatDoor
