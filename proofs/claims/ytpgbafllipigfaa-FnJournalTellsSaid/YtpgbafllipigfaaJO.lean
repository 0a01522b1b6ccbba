/- The loop of the law FnJournalTells: a word's four bytes, two words at once. -/
import Derived.Test.YtpgbafllipigfaaJM
namespace Go.Proofs.Ytpgbafllipigfaa
open Go.RowKit
attribute [local go_sem ↓] Go.wp_at_zero Go.wp_at_succ
set_option linter.unusedVariables false

/-- two cells of a block may be written -/
structure StE (B g a b : Nat) (x y : Value) (w1 w2 : World) : Prop where
  bel : Below B w1 w2
  size : w1.heap.size ≤ w2.heap.size
  oth : ∀ i, i ≠ a → i ≠ b → w2.cell? ⟨g, i, none⟩ = w1.cell? ⟨g, i, none⟩
  ca : w2.cell? ⟨g, a, none⟩ = w1.cell? ⟨g, a, none⟩ ∨ w2.cell? ⟨g, a, none⟩ = some x
  cb : w2.cell? ⟨g, b, none⟩ = w1.cell? ⟨g, b, none⟩ ∨ w2.cell? ⟨g, b, none⟩ = some y
  fr : ∀ i, w2.frozen? ⟨g, i, none⟩ = w1.frozen? ⟨g, i, none⟩
theorem StE.refl {B g a b : Nat} {x y : Value} (w : World) : StE B g a b x y w w := ⟨Below.refl _ _, Nat.le_refl _, fun _ _ _ => rfl, .inl rfl, .inl rfl, fun _ => rfl⟩
theorem StE.drew {B g a b : Nat} {x y : Value} (w : World) : StE B g a b x y w w.drew := ⟨(Below.refl _ _).drew, Nat.le_refl _, fun _ _ _ => rfl, .inl rfl, .inl rfl, fun _ => rfl⟩
theorem StE.trans {B g a b : Nat} {x y : Value} {u v w : World} (h : StE B g a b x y u v) (k : StE B g a b x y v w) : StE B g a b x y u w :=
  ⟨h.bel.trans k.bel, Nat.le_trans h.size k.size, fun i h1 h2 => (k.oth i h1 h2).trans (h.oth i h1 h2), k.ca.elim (fun e => h.ca.elim (fun e' => .inl (e.trans e')) (fun e' => .inr (e.trans e'))) .inr,
    k.cb.elim (fun e => h.cb.elim (fun e' => .inl (e.trans e')) (fun e' => .inr (e.trans e'))) .inr, fun i => (k.fr i).trans (h.fr i)⟩
theorem StE.setA {B g a b : Nat} {x y u : Value} {w : World} (hab : a ≠ b) (hB : B ≤ g) (h : w.cell? ⟨g, a, none⟩ = some u) : StE B g a b x y w (w.setCell ⟨g, a, none⟩ x) :=
  ⟨(Below.refl _ _).setCell hB _, by simp, fun i h1 _ => World.cell?_setCell_other _ _ _ _ (by intro e; cases e; exact h1 rfl), .inr (World.cell?_setCell_same _ _ _ h),
    .inl (World.cell?_setCell_other _ _ _ _ (by intro e; cases e; exact hab rfl)), fun i => World.frozen?_setCell _ _ _ _⟩
theorem StE.setB {B g a b : Nat} {x y u : Value} {w : World} (hab : a ≠ b) (hB : B ≤ g) (h : w.cell? ⟨g, b, none⟩ = some u) : StE B g a b x y w (w.setCell ⟨g, b, none⟩ y) :=
  ⟨(Below.refl _ _).setCell hB _, by simp, fun i _ h1 => World.cell?_setCell_other _ _ _ _ (by intro e; cases e; exact h1 rfl), .inl (World.cell?_setCell_other _ _ _ _ (by intro e; cases e; exact hab rfl)),
    .inr (World.cell?_setCell_same _ _ _ h), fun i => World.frozen?_setCell _ _ _ _⟩
/-- what an operation of the round leaves: a value, or a cell written -/
def FactS (g a b : Nat) (x y : Value) : Sum Value Bool → Value → World → Prop
  | .inl u, v, _ => v = u
  | .inr false, _, w => w.cell? ⟨g, a, none⟩ = some x
  | .inr true, _, w => w.cell? ⟨g, b, none⟩ = some y
theorem FactS.keep {B g a b : Nat} {x y : Value} {f : Sum Value Bool} {v : Value} {w w' : World} (hE : StE B g a b x y w w') (h : FactS g a b x y f v w) : FactS g a b x y f v w' := by
  match f, h with
  | .inl u, h => exact h
  | .inr false, h => exact hE.ca.elim (fun e => e.trans h) id
  | .inr true, h => exact hE.cb.elim (fun e => e.trans h) id

/-- two bytes written -/
def dSt (C : Array Value) (a b : Nat) (x y : Int) : Array Value := (C.setIfInBounds a (.int .u8 x)).setIfInBounds b (.int .u8 y)
theorem size_dSt (C : Array Value) (a b : Nat) (x y : Int) : (dSt C a b x y).size = C.size := by simp [dSt]
/-- the bytes behind so many rounds -/
def dAt (C : Array Value) (p q : Int) (k : Nat) : Array Value :=
  if k = 0 then C else if k = 1 then (dSt C 36 40 (by3 p) (by3 q)) else if k = 2 then (dSt (dSt C 36 40 (by3 p) (by3 q)) 37 41 (by2 p) (by2 q)) else if k = 3 then (dSt (dSt (dSt C 36 40 (by3 p) (by3 q)) 37 41 (by2 p) (by2 q)) 38 42 (by1 p) (by1 q)) else (dSt (dSt (dSt (dSt C 36 40 (by3 p) (by3 q)) 37 41 (by2 p) (by2 q)) 38 42 (by1 p) (by1 q)) 39 43 (by0 p) (by0 q))
theorem size_dAt (C : Array Value) (p q : Int) (k : Nat) : (dAt C p q k).size = C.size := by
  unfold dAt
  (repeat' split) <;> simp only [size_dSt]

theorem dAt1 (C : Array Value) (p q : Int) : dAt C p q 1 = dSt (dAt C p q 0) 36 40 (by3 p) (by3 q) := by simp [dAt]
theorem dAt2 (C : Array Value) (p q : Int) : dAt C p q 2 = dSt (dAt C p q 1) 37 41 (by2 p) (by2 q) := by simp [dAt]
theorem dAt3 (C : Array Value) (p q : Int) : dAt C p q 3 = dSt (dAt C p q 2) 38 42 (by1 p) (by1 q) := by simp [dAt]
theorem dAt4 (C : Array Value) (p q : Int) : dAt C p q 4 = dSt (dAt C p q 3) 39 43 (by0 p) (by0 q) := by simp [dAt]
/-- one round, seen from the cells -/
theorem cells_round {B g a b : Nat} {x y : Int} {w w' : World} {C : Array Value} (hC : CellsC w g C) (hz : C.size = 1024) (hE : StE B g a b (.int .u8 x) (.int .u8 y) w w') (hab : a < b) (hb : b < 1024)
    (ha : w'.cell? ⟨g, a, none⟩ = some (.int .u8 x)) (hb' : w'.cell? ⟨g, b, none⟩ = some (.int .u8 y)) (x0 : 0 ≤ x ∧ x < 256) (y0 : 0 ≤ y ∧ y < 256) :
    CellsC w' g (dSt C a b x y) := by
  intro i hi
  unfold dSt
  rw [nb_set _ _ _ _ _ (by simp; omega), nb_set _ _ _ _ _ (by omega)]
  by_cases h1 : i = b
  · subst h1; rw [if_pos rfl]; exact ⟨hb', y0⟩
  · rw [if_neg h1]
    by_cases h2 : i = a
    · subst h2; rw [if_pos rfl]; exact ⟨ha, x0⟩
    · rw [if_neg h2, hE.oth i h2 h1]; exact hC i hi

theorem Bytes.dst {C : Array Value} (h : Bytes C) {a b : Nat} (ha : a < C.size) (hb : b < C.size) {x y : Int} (x0 : 0 ≤ x ∧ x < 256) (y0 : 0 ≤ y ∧ y < 256) : Bytes (dSt C a b x y) := by
  unfold dSt
  exact (h.set ha x0.1 x0.2).set (by simpa using hb) y0.1 y0.2
theorem nb_dSt (C : Array Value) (a b i : Nat) (x y : Int) (ha : a < C.size) (hb : b < C.size) : nb (dSt C a b x y) i = if i = b then y else if i = a then x else nb C i := by
  unfold dSt
  rw [nb_set _ _ _ _ _ (by simpa using hb), nb_set _ _ _ _ _ ha]
theorem get_dSt (C : Array Value) (a b i : Nat) (x y : Int) (h1 : a ≠ i) (h2 : b ≠ i) : (dSt C a b x y)[i]? = C[i]? := by
  unfold dSt
  rw [Array.getElem?_setIfInBounds_ne h2, Array.getElem?_setIfInBounds_ne h1]
theorem dAt_holds (C : Array Value) (p q : Int) (hB : Bytes C) (hz : C.size = 1024) (p0 : 0 ≤ p) (p1 : p ≤ 1) (q0 : 0 ≤ q) (q1 : q ≤ 31) :
    Bytes (dAt C p q 4) ∧ (dAt C p q 4).size = 1024 ∧ rd4 (dAt C p q 4) 0 = rd4 C 0 ∧ rd4 (dAt C p q 4) 4 = rd4 C 4 ∧ rd4 (dAt C p q 4) 36 = p ∧ rd4 (dAt C p q 4) 40 = q ∧ ∀ i, i < 16 → (dAt C p q 4)[48 + i]? = C[48 + i]? := by
  have z0 : (dAt C p q 0).size = 1024 := by rw [size_dAt, hz]
  have z1 : (dAt C p q 1).size = 1024 := by rw [size_dAt, hz]
  have z2 : (dAt C p q 2).size = 1024 := by rw [size_dAt, hz]
  have z3 : (dAt C p q 3).size = 1024 := by rw [size_dAt, hz]
  have e0 : dAt C p q 0 = C := by simp [dAt]
  have hn : ∀ i, nb (dAt C p q 4) i = if i = 43 then by0 q else if i = 39 then by0 p else if i = 42 then by1 q else if i = 38 then by1 p else if i = 41 then by2 q else if i = 37 then by2 p else if i = 40 then by3 q else if i = 36 then by3 p else nb C i := by
    intro i
    rw [dAt4, nb_dSt _ _ _ _ _ _ (by omega) (by omega), dAt3, nb_dSt _ _ _ _ _ _ (by omega) (by omega), dAt2, nb_dSt _ _ _ _ _ _ (by omega) (by omega), dAt1, nb_dSt _ _ _ _ _ _ (by omega) (by omega), e0]
  refine ⟨?_, by rw [size_dAt, hz], ?_, ?_, ?_, ?_, ?_⟩
  · rw [dAt4, dAt3, dAt2, dAt1, e0]
    exact (((hB.dst (by omega) (by omega) (by3_bd p) (by3_bd q)).dst (by rw [size_dSt]; omega) (by rw [size_dSt]; omega) (by2_bd p) (by2_bd q)).dst (by rw [size_dSt, size_dSt]; omega) (by rw [size_dSt, size_dSt]; omega) (by1_bd p) (by1_bd q)).dst (by rw [size_dSt, size_dSt, size_dSt]; omega) (by rw [size_dSt, size_dSt, size_dSt]; omega) (by0_bd p) (by0_bd q)
  · unfold rd4; rw [hn, hn, hn, hn]; simp
  · unfold rd4; rw [hn, hn, hn, hn]; simp
  · unfold rd4; rw [hn, hn, hn, hn]; simp [by0, by1, by2, by3]; omega
  · unfold rd4; rw [hn, hn, hn, hn]; simp [by0, by1, by2, by3]; omega
  · intro i hi
    rw [dAt4, get_dSt _ _ _ _ _ _ (by omega) (by omega), dAt3, get_dSt _ _ _ _ _ _ (by omega) (by omega), dAt2, get_dSt _ _ _ _ _ _ (by omega) (by omega), dAt1, get_dSt _ _ _ _ _ _ (by omega) (by omega), e0]

/-- a text of a block with marks -/
theorem run_strN (n : Nat) (w : World) (g c : Nat) (D : Array Value) (hC : ∀ i, i < n → w.cell? ⟨g, i, none⟩ = some (.int .u8 (nb D i))) (hz : D.size = n) :
    (convert 28 9 (.slice (some ⟨g, 0, none⟩) n c)).run Try.prog w = .ok (.string (strB D)) w := by
  have h := run_convert_bytes_arg w 28 5 Try.underlying28 Try.underlying5 g 0 n c ((List.range n).map (nb D)) (by simp) (fun i hi => by
    have hi' : i < n := by simpa using hi
    rw [Nat.zero_add, hC i hi']
    congr 2
    simp [List.getD, hi']) 9 Try.underlying9
  rw [h, strB, hz]
theorem run_strC (w : World) (g c : Nat) (D : Array Value) (hC : CellsC w g D) (hz : D.size = 1024) :
    (convert 28 9 (.slice (some ⟨g, 0, none⟩) 1024 c)).run Try.prog w = .ok (.string (strB D)) w :=
  run_strN 1024 w g c D (fun i hi => (hC i hi).1) hz
theorem bits8_16 (q : Int) (h0 : 0 ≤ q) (h1 : q ≤ 31) : (bits BinOp.and IntKind.u32 q 8 != 0 || bits BinOp.and IntKind.u32 q 16 != 0) = (bits BinOp.and IntKind.u32 q 24 != 0) := by
  obtain ⟨n, rfl⟩ : ∃ n : Nat, q = n := ⟨q.toNat, by omega⟩
  have hn : n < 32 := by omega
  revert hn
  clear h0 h1
  revert n
  decide +kernel

set_option maxRecDepth 100000 in
set_option maxHeartbeats 4000000 in
theorem lawt_any (bl bs ha ne o1 o2 : Int) (w : World) (a : 0 ≤ bl) (b : bl ≤ 4294967295) (c : 0 ≤ bs) (d : bs ≤ 4294967295) (hp0 : 0 ≤ bits BinOp.and IntKind.u32 ha 1) (hp1 : bits BinOp.and IntKind.u32 ha 1 ≤ 1) (hq0 : 0 ≤ bits BinOp.and IntKind.u32 ne 31) (hq1 : bits BinOp.and IntKind.u32 ne 31 ≤ 31)
    (u0 : 0 ≤ o1) (u1 : o1 ≤ 4294967295) (v0 : 0 ≤ o2) (v1 : o2 ≤ 4294967295) :
    Calls Try.prog 4 #[.int .u32 bl, .int .u32 bs, .int .u32 ha, .int .u32 ne, .int .u32 o1, .int .u32 o2] w fun e w' => e = .returned (.bool true) ∧ Below w.heap.size w w' := by
  obtain ⟨X, hX⟩ : ∃ X : Int, X = (1024 : Int) * (2 : Int) ^ (bl % 3).toNat % 4294967296 := ⟨_, rfl⟩
  obtain ⟨C, hC⟩ : ∃ C, C = jNewB X (1024 + bs % 100000) := ⟨_, rfl⟩
  have x0 : 0 ≤ X := by omega
  have x1 : X ≤ 4294967295 := by omega
  obtain ⟨Y, hY⟩ : ∃ Y : Int, Y = 1024 + bs % 100000 := ⟨_, rfl⟩
  rw [← hY] at hC
  have y0 : 0 ≤ Y := by omega
  have y1 : Y ≤ 4294967295 := by omega
  obtain ⟨hby, hsz, r0, r4, -, -, -, -, -, -, -, -, -, -, -, -, -, -, -, -, -, -, h48⟩ := jbytes_holds 3225106840 4 0 X Y 1 1 0 0 0 1 0 32768 32768 4 0 0 0 uu0 C rfl uu0_bytes (by omega) (by omega) (by omega) (by omega) (by omega) (by omega) (by omega) (by omega) x0 x1 y0 y1 (by omega) (by omega) (by omega) (by omega) (by omega) (by omega) (by omega) (by omega) (by omega) (by omega) (by omega) (by omega) (by omega) (by omega) (by omega) (by omega) (by omega) (by omega) (by omega) (by omega) (by omega) (by omega) (by omega) (by omega) hC
  have hzs : (strB C).size = 1024 := by rw [size_strB, hsz]
  have J1 : ∀ W : World, Calls Try.prog 5 #[.int .u32 X, .int .u32 Y] W fun e w' => e = .returned (.tuple #[.string (strB C), .bool true]) ∧ Below W.heap.size W w' := fun W => hC ▸ jnew_any X Y W x0 x1 y0 y1
  have HJ1 := Lib.hid J1
  have HX := Lib.hid hX
  have HY := Lib.hid hY
  have HBY := Lib.hid hby
  have HR0 := Lib.hid r0
  have HR4 := Lib.hid r4
  have H48 := Lib.hid h48
  have HZ := Lib.hid hsz
  clear J1 hX hby r0 r4 h48 hY hC hsz
  obtain ⟨p, hp⟩ : ∃ p, p = bits BinOp.and IntKind.u32 ha 1 := ⟨_, rfl⟩
  obtain ⟨q, hq⟩ : ∃ q, q = bits BinOp.and IntKind.u32 ne 31 := ⟨_, rfl⟩
  rw [← hp] at hp0 hp1
  rw [← hq] at hq0 hq1
  have HP := Lib.hid hp
  have HQ := Lib.hid hq
  clear hp hq
  go_enter Try.func4, Try.ntmps4
  go_wp2_with fail
  rw [← HX.out, ← HY.out]
  refine (HJ1.out _).mono ?_
  rintro e w1 ⟨rfl, hb1⟩
  obtain ⟨cap, W, R, hcv, hcap, hbW, hlt, hR, hRz, hCC, hfz, hRget⟩ := conv_ex w1 C HBY.out HZ.out
  have HCC := Lib.hid hCC
  have HFZ := Lib.hid hfz
  have HBW := Lib.hid hbW
  clear hCC hfz hRget hR hRz hbW
  go_wp2_with fail
  rw [← HP.out, ← HQ.out]
  go_loopw [44] (fun i wr => ∃ k : Nat, k ≤ 4 ∧ i = .int .i64 k ∧ CellsC wr w1.heap.size (dAt C p q k) ∧ Below w1.heap.size w1 wr ∧ (∀ i, i < 1024 → wr.frozen? ⟨w1.heap.size, i, none⟩ = false) ∧ w1.heap.size < wr.heap.size) (fun i _ => 4 - (intOf i).toNat)
  case atStart => exact ⟨0, by omega, rfl, HCC.out, HBW.out, HFZ.out, hlt⟩
  case round =>
    obtain ⟨k, hk, rfl, hCr, hBr, hF, hgr⟩ := hrel
    have HC2 := Lib.hid hCr
    have HF2 := Lib.hid hF
    have HB2 := Lib.hid hBr
    clear hCr hF hBr
    by_cases h4 : k < 4
    · obtain rfl | rfl | rfl | rfl : k = 0 ∨ k = 1 ∨ k = 2 ∨ k = 3 := by omega
      · as_aux_lemma =>
          have HZ2 : Hid ((dAt C p q 0).size = 1024) := Lib.hid (by rw [size_dAt, HZ.out])
          have hCr := HC2.out
          have hF := HF2.out
          have hBg : w1.heap.size ≤ w1.heap.size := Nat.le_refl _
          go_wp2_with fail
          refine wp_region_met (by kernel_rfl) (fun w' => StE w1.heap.size w1.heap.size 36 40 (.int .u8 (by3 p)) (.int .u8 (by3 q)) wr w') (fun z1 z2 => StE w1.heap.size w1.heap.size 36 40 (.int .u8 (by3 p)) (.int .u8 (by3 q)) z1 z2) (fun i v w' => FactS w1.heap.size 36 40 (.int .u8 (by3 p)) (.int .u8 (by3 q)) (([.inl (.slice (some ⟨w1.heap.size, 0, none⟩) 1024 cap), .inl (.int .i64 0), .inl (.int .i64 36), .inl (.slice (some ⟨w1.heap.size, 0, none⟩) 1024 cap), .inl (.int .i64 0), .inl (.int .i64 40), .inl (.int .u32 p), .inl (.int .i64 0), .inl (.int .i64 0), .inl (.int .i64 24), .inl (.int .u32 (p / 16777216)), .inl (.int .u8 (by3 p)), .inl (.int .u32 q), .inl (.int .i64 0), .inl (.int .i64 0), .inl (.int .i64 24), .inl (.int .u32 (q / 16777216)), .inl (.int .u8 (by3 q)), .inl (.pointer (some ⟨w1.heap.size, 36, none⟩)), .inr false, .inl (.pointer (some ⟨w1.heap.size, 40, none⟩)), .inr true] : List (Sum Value Bool))[i]?.getD (.inl undef)) v w') (by kernel_rfl) ?_ (by intro i v z1 z2 _ hE hF; exact FactS.keep hE hF) ?_ ⟨⟨rfl, ?_⟩, ⟨rfl, ?_⟩, ⟨rfl, ?_⟩, ⟨rfl, ?_⟩, ⟨rfl, ?_⟩, ⟨rfl, ?_⟩, ⟨rfl, ?_⟩, ⟨rfl, ?_⟩, ⟨rfl, ?_⟩, ⟨rfl, ?_⟩, ⟨rfl, ?_⟩, ⟨rfl, ?_⟩, ⟨rfl, ?_⟩, ⟨rfl, ?_⟩, ⟨rfl, ?_⟩, ⟨rfl, ?_⟩, ⟨rfl, ?_⟩, ⟨rfl, ?_⟩, ⟨rfl, ?_⟩, ⟨rfl, ?_⟩, ⟨rfl, ?_⟩, ⟨rfl, ?_⟩, trivial⟩ ?_
          · intro z1 z2 h1 h2; exact h1.trans h2
          · exact StE.drew _
          · intro a w' K hB hd hs hK; have d15 : a.tmps.getD 15 undef = .slice (some ⟨w1.heap.size, 0, none⟩) 1024 cap := hs 15 rfl; clear hd hs; go_simp; exact hK _ _ rfl (StE.refl _)
          · intro a w' K hB hd hs hK; have d16 : a.tmps.getD 16 undef = .int .i64 0 := hs 16 rfl; clear hd hs; go_simp; exact hK _ _ rfl (StE.refl _)
          · intro a w' K hB hd hs hK; have d48 : a.tmps.getD 48 undef = .int .i64 0 := hd 1 rfl; clear hd hs; go_simp; exact hK _ _ rfl (StE.refl _)
          · intro a w' K hB hd hs hK; have d15 : a.tmps.getD 15 undef = .slice (some ⟨w1.heap.size, 0, none⟩) 1024 cap := hs 15 rfl; clear hd hs; go_simp; exact hK _ _ rfl (StE.refl _)
          · intro a w' K hB hd hs hK; have d16 : a.tmps.getD 16 undef = .int .i64 0 := hs 16 rfl; clear hd hs; go_simp; exact hK _ _ rfl (StE.refl _)
          · intro a w' K hB hd hs hK; have d51 : a.tmps.getD 51 undef = .int .i64 0 := hd 4 rfl; clear hd hs; go_simp; exact hK _ _ rfl (StE.refl _)
          · intro a w' K hB hd hs hK; have d2 : a.tmps.getD 2 undef = .int .u32 p := hs 2 rfl; clear hd hs; go_simp; exact hK _ _ rfl (StE.refl _)
          · intro a w' K hB hd hs hK; have d16 : a.tmps.getD 16 undef = .int .i64 0 := hs 16 rfl; clear hd hs; go_simp; exact hK _ _ rfl (StE.refl _)
          · intro a w' K hB hd hs hK; have d54 : a.tmps.getD 54 undef = .int .i64 0 := hd 7 rfl; clear hd hs; go_simp; exact hK _ _ rfl (StE.refl _)
          · intro a w' K hB hd hs hK; have d55 : a.tmps.getD 55 undef = .int .i64 0 := hd 8 rfl; clear hd hs; go_simp; exact hK _ _ rfl (StE.refl _)
          · intro a w' K hB hd hs hK; have d53 : a.tmps.getD 53 undef = .int .u32 p := hd 6 rfl; have d56 : a.tmps.getD 56 undef = .int .i64 24 := hd 9 rfl; clear hd hs; go_simp; exact hK _ _ rfl (StE.refl _)
          · intro a w' K hB hd hs hK; have d57 : a.tmps.getD 57 undef = .int .u32 (p / 16777216) := hd 10 rfl; clear hd hs; go_simp; exact hK _ _ (by simp only [valOf]; unfold by3; rfl) (StE.refl _)
          · intro a w' K hB hd hs hK; have d3 : a.tmps.getD 3 undef = .int .u32 q := hs 3 rfl; clear hd hs; go_simp; exact hK _ _ rfl (StE.refl _)
          · intro a w' K hB hd hs hK; have d16 : a.tmps.getD 16 undef = .int .i64 0 := hs 16 rfl; clear hd hs; go_simp; exact hK _ _ rfl (StE.refl _)
          · intro a w' K hB hd hs hK; have d60 : a.tmps.getD 60 undef = .int .i64 0 := hd 13 rfl; clear hd hs; go_simp; exact hK _ _ rfl (StE.refl _)
          · intro a w' K hB hd hs hK; have d61 : a.tmps.getD 61 undef = .int .i64 0 := hd 14 rfl; clear hd hs; go_simp; exact hK _ _ rfl (StE.refl _)
          · intro a w' K hB hd hs hK; have d59 : a.tmps.getD 59 undef = .int .u32 q := hd 12 rfl; have d62 : a.tmps.getD 62 undef = .int .i64 24 := hd 15 rfl; clear hd hs; go_simp; exact hK _ _ rfl (StE.refl _)
          · intro a w' K hB hd hs hK; have d63 : a.tmps.getD 63 undef = .int .u32 (q / 16777216) := hd 16 rfl; clear hd hs; go_simp; exact hK _ _ (by simp only [valOf]; unfold by3; rfl) (StE.refl _)
          · intro a w' K hB hd hs hK; have d47 : a.tmps.getD 47 undef = .slice (some ⟨w1.heap.size, 0, none⟩) 1024 cap := hd 0 rfl; have d49 : a.tmps.getD 49 undef = .int .i64 36 := hd 2 rfl; clear hd hs; go_simp; exact hK _ _ rfl (StE.refl _)
          · intro a w' K hB hd hs hK; have d58 : a.tmps.getD 58 undef = .int .u8 (by3 p) := hd 11 rfl; have d65 : a.tmps.getD 65 undef = .pointer (some ⟨w1.heap.size, 36, none⟩) := hd 18 rfl; clear hd hs; obtain ⟨u, hu⟩ : ∃ u, w'.cell? ⟨w1.heap.size, 36, none⟩ = some u := hB.ca.elim (fun e => ⟨_, e.trans (hCr 36 (by omega)).1⟩) (fun e => ⟨_, e⟩); have hfz : w'.frozen? ⟨w1.heap.size, 36, none⟩ = false := (hB.fr 36).trans (hF 36 (by omega)); go_simp; exact hK undef _ (World.cell?_setCell_same _ _ _ hu) (StE.setA (by decide) hBg hu)
          · intro a w' K hB hd hs hK; have d50 : a.tmps.getD 50 undef = .slice (some ⟨w1.heap.size, 0, none⟩) 1024 cap := hd 3 rfl; have d52 : a.tmps.getD 52 undef = .int .i64 40 := hd 5 rfl; clear hd hs; go_simp; exact hK _ _ rfl (StE.refl _)
          · intro a w' K hB hd hs hK; have d64 : a.tmps.getD 64 undef = .int .u8 (by3 q) := hd 17 rfl; have d66 : a.tmps.getD 66 undef = .pointer (some ⟨w1.heap.size, 40, none⟩) := hd 20 rfl; clear hd hs; obtain ⟨u, hu⟩ : ∃ u, w'.cell? ⟨w1.heap.size, 40, none⟩ = some u := hB.cb.elim (fun e => ⟨_, e.trans (hCr 40 (by omega)).1⟩) (fun e => ⟨_, e⟩); have hfz : w'.frozen? ⟨w1.heap.size, 40, none⟩ = false := (hB.fr 40).trans (hF 40 (by omega)); go_simp; exact hK undef _ (World.cell?_setCell_same _ _ _ hu) (StE.setB (by decide) hBg hu)
          · intro a W1 hB1 hsz hdf hf hs
            have e1 : W1.cell? ⟨w1.heap.size, 36, none⟩ = some (.int .u8 (by3 p)) := hf 19 rfl
            have e2 : W1.cell? ⟨w1.heap.size, 40, none⟩ = some (.int .u8 (by3 q)) := hf 21 rfl
            have hact : a = ⟨#[.int .u32 bl, .int .u32 bs, .int .u32 p, .int .u32 q, .int .u32 o1, .int .u32 o2, undef, undef, undef, undef, undef, undef, .bool false, .string (strB C), .bool true, .slice (some ⟨w1.heap.size, 0, none⟩) 1024 cap, .int .i64 0, undef, undef, undef, undef, .tuple #[.string (strB C), .bool true], .int .u32 bl, .int .u32 (bl % 3), .int .u32 X, .int .u32 bs, .int .u32 (bs % 100000), .int .u32 Y, .tuple #[.string (strB C), .bool true], .string (strB C), .bool true, .bool true, .bool false, .bool false, .string (strB C), .int .i64 1024, .bool false, .bool false, .int .u32 ha, .int .u32 p, .int .u32 ne, .int .u32 q, .string (strB C), .slice (some ⟨w1.heap.size, 0, none⟩) 1024 cap, .int .i64 0, .bool true, .int .i64 0, sl a 47, sl a 48, sl a 49, sl a 50, sl a 51, sl a 52, sl a 53, sl a 54, sl a 55, sl a 56, sl a 57, sl a 58, sl a 59, sl a 60, sl a 61, sl a 62, sl a 63, sl a 64, sl a 65, sl a 66, u67, undef, undef, undef, undef, undef, undef, undef, undef, undef, undef, undef, undef, undef, undef, undef, undef, undef, undef, undef, undef, undef, undef, undef, undef, undef, undef, undef, undef, undef, undef, undef, undef, undef, undef, undef, undef, undef, undef, undef, undef, undef, undef, undef, undef, undef, undef, undef, undef, undef, undef, undef, undef, undef], []⟩ := act_of (by rw [hsz]; rfl) hdf ⟨hs 0 rfl, hs 1 rfl, hs 2 rfl, hs 3 rfl, hs 4 rfl, hs 5 rfl, hs 6 rfl, hs 7 rfl, hs 8 rfl, hs 9 rfl, hs 10 rfl, hs 11 rfl, hs 12 rfl, hs 13 rfl, hs 14 rfl, hs 15 rfl, hs 16 rfl, hs 17 rfl, hs 18 rfl, hs 19 rfl, hs 20 rfl, hs 21 rfl, hs 22 rfl, hs 23 rfl, hs 24 rfl, hs 25 rfl, hs 26 rfl, hs 27 rfl, hs 28 rfl, hs 29 rfl, hs 30 rfl, hs 31 rfl, hs 32 rfl, hs 33 rfl, hs 34 rfl, hs 35 rfl, hs 36 rfl, hs 37 rfl, hs 38 rfl, hs 39 rfl, hs 40 rfl, hs 41 rfl, hs 42 rfl, hs 43 rfl, hs 44 rfl, hs 45 rfl, hs 46 rfl, rfl, rfl, rfl, rfl, rfl, rfl, rfl, rfl, rfl, rfl, rfl, rfl, rfl, rfl, rfl, rfl, rfl, rfl, rfl, rfl, hs 67 rfl, hs 68 rfl, hs 69 rfl, hs 70 rfl, hs 71 rfl, hs 72 rfl, hs 73 rfl, hs 74 rfl, hs 75 rfl, hs 76 rfl, hs 77 rfl, hs 78 rfl, hs 79 rfl, hs 80 rfl, hs 81 rfl, hs 82 rfl, hs 83 rfl, hs 84 rfl, hs 85 rfl, hs 86 rfl, hs 87 rfl, hs 88 rfl, hs 89 rfl, hs 90 rfl, hs 91 rfl, hs 92 rfl, hs 93 rfl, hs 94 rfl, hs 95 rfl, hs 96 rfl, hs 97 rfl, hs 98 rfl, hs 99 rfl, hs 100 rfl, hs 101 rfl, hs 102 rfl, hs 103 rfl, hs 104 rfl, hs 105 rfl, hs 106 rfl, hs 107 rfl, hs 108 rfl, hs 109 rfl, hs 110 rfl, hs 111 rfl, hs 112 rfl, hs 113 rfl, hs 114 rfl, hs 115 rfl, hs 116 rfl, hs 117 rfl, hs 118 rfl, hs 119 rfl, hs 120 rfl, trivial⟩
            clear hsz hdf hf hs
            rw [hact]
            clear hact
            have HE := Lib.hid hB1
            have E1 := Lib.hid e1
            have E2 := Lib.hid e2
            clear hB1 e1 e2
            go_wp2_with fail
            go_roundw
            case rel =>
              refine ⟨1, by omega, by go_num, ?_, ?_, ?_, ?_⟩
              · rw [dAt1]; exact cells_round (C := dAt C p q 0) HC2.out HZ2.out HE.out (by decide) (by decide) E1.out E2.out (by3_bd p) (by3_bd q)
              · exact HB2.out.trans HE.out.bel
              · exact fun i hi => (HE.out.fr i).trans (HF2.out i hi)
              · exact Nat.lt_of_lt_of_le hgr HE.out.size
            case measure => simp [intOf]
      · as_aux_lemma =>
          have HZ2 : Hid ((dAt C p q 1).size = 1024) := Lib.hid (by rw [size_dAt, HZ.out])
          have hCr := HC2.out
          have hF := HF2.out
          have hBg : w1.heap.size ≤ w1.heap.size := Nat.le_refl _
          go_wp2_with fail
          refine wp_region_met (by kernel_rfl) (fun w' => StE w1.heap.size w1.heap.size 37 41 (.int .u8 (by2 p)) (.int .u8 (by2 q)) wr w') (fun z1 z2 => StE w1.heap.size w1.heap.size 37 41 (.int .u8 (by2 p)) (.int .u8 (by2 q)) z1 z2) (fun i v w' => FactS w1.heap.size 37 41 (.int .u8 (by2 p)) (.int .u8 (by2 q)) (([.inl (.slice (some ⟨w1.heap.size, 0, none⟩) 1024 cap), .inl (.int .i64 1), .inl (.int .i64 37), .inl (.slice (some ⟨w1.heap.size, 0, none⟩) 1024 cap), .inl (.int .i64 1), .inl (.int .i64 41), .inl (.int .u32 p), .inl (.int .i64 1), .inl (.int .i64 8), .inl (.int .i64 16), .inl (.int .u32 (p / 65536)), .inl (.int .u8 (by2 p)), .inl (.int .u32 q), .inl (.int .i64 1), .inl (.int .i64 8), .inl (.int .i64 16), .inl (.int .u32 (q / 65536)), .inl (.int .u8 (by2 q)), .inl (.pointer (some ⟨w1.heap.size, 37, none⟩)), .inr false, .inl (.pointer (some ⟨w1.heap.size, 41, none⟩)), .inr true] : List (Sum Value Bool))[i]?.getD (.inl undef)) v w') (by kernel_rfl) ?_ (by intro i v z1 z2 _ hE hF; exact FactS.keep hE hF) ?_ ⟨⟨rfl, ?_⟩, ⟨rfl, ?_⟩, ⟨rfl, ?_⟩, ⟨rfl, ?_⟩, ⟨rfl, ?_⟩, ⟨rfl, ?_⟩, ⟨rfl, ?_⟩, ⟨rfl, ?_⟩, ⟨rfl, ?_⟩, ⟨rfl, ?_⟩, ⟨rfl, ?_⟩, ⟨rfl, ?_⟩, ⟨rfl, ?_⟩, ⟨rfl, ?_⟩, ⟨rfl, ?_⟩, ⟨rfl, ?_⟩, ⟨rfl, ?_⟩, ⟨rfl, ?_⟩, ⟨rfl, ?_⟩, ⟨rfl, ?_⟩, ⟨rfl, ?_⟩, ⟨rfl, ?_⟩, trivial⟩ ?_
          · intro z1 z2 h1 h2; exact h1.trans h2
          · exact StE.drew _
          · intro a w' K hB hd hs hK; have d15 : a.tmps.getD 15 undef = .slice (some ⟨w1.heap.size, 0, none⟩) 1024 cap := hs 15 rfl; clear hd hs; go_simp; exact hK _ _ rfl (StE.refl _)
          · intro a w' K hB hd hs hK; have d16 : a.tmps.getD 16 undef = .int .i64 1 := hs 16 rfl; clear hd hs; go_simp; exact hK _ _ rfl (StE.refl _)
          · intro a w' K hB hd hs hK; have d48 : a.tmps.getD 48 undef = .int .i64 1 := hd 1 rfl; clear hd hs; go_simp; exact hK _ _ rfl (StE.refl _)
          · intro a w' K hB hd hs hK; have d15 : a.tmps.getD 15 undef = .slice (some ⟨w1.heap.size, 0, none⟩) 1024 cap := hs 15 rfl; clear hd hs; go_simp; exact hK _ _ rfl (StE.refl _)
          · intro a w' K hB hd hs hK; have d16 : a.tmps.getD 16 undef = .int .i64 1 := hs 16 rfl; clear hd hs; go_simp; exact hK _ _ rfl (StE.refl _)
          · intro a w' K hB hd hs hK; have d51 : a.tmps.getD 51 undef = .int .i64 1 := hd 4 rfl; clear hd hs; go_simp; exact hK _ _ rfl (StE.refl _)
          · intro a w' K hB hd hs hK; have d2 : a.tmps.getD 2 undef = .int .u32 p := hs 2 rfl; clear hd hs; go_simp; exact hK _ _ rfl (StE.refl _)
          · intro a w' K hB hd hs hK; have d16 : a.tmps.getD 16 undef = .int .i64 1 := hs 16 rfl; clear hd hs; go_simp; exact hK _ _ rfl (StE.refl _)
          · intro a w' K hB hd hs hK; have d54 : a.tmps.getD 54 undef = .int .i64 1 := hd 7 rfl; clear hd hs; go_simp; exact hK _ _ rfl (StE.refl _)
          · intro a w' K hB hd hs hK; have d55 : a.tmps.getD 55 undef = .int .i64 8 := hd 8 rfl; clear hd hs; go_simp; exact hK _ _ rfl (StE.refl _)
          · intro a w' K hB hd hs hK; have d53 : a.tmps.getD 53 undef = .int .u32 p := hd 6 rfl; have d56 : a.tmps.getD 56 undef = .int .i64 16 := hd 9 rfl; clear hd hs; go_simp; exact hK _ _ rfl (StE.refl _)
          · intro a w' K hB hd hs hK; have d57 : a.tmps.getD 57 undef = .int .u32 (p / 65536) := hd 10 rfl; clear hd hs; go_simp; exact hK _ _ (by simp only [valOf]; unfold by2; rfl) (StE.refl _)
          · intro a w' K hB hd hs hK; have d3 : a.tmps.getD 3 undef = .int .u32 q := hs 3 rfl; clear hd hs; go_simp; exact hK _ _ rfl (StE.refl _)
          · intro a w' K hB hd hs hK; have d16 : a.tmps.getD 16 undef = .int .i64 1 := hs 16 rfl; clear hd hs; go_simp; exact hK _ _ rfl (StE.refl _)
          · intro a w' K hB hd hs hK; have d60 : a.tmps.getD 60 undef = .int .i64 1 := hd 13 rfl; clear hd hs; go_simp; exact hK _ _ rfl (StE.refl _)
          · intro a w' K hB hd hs hK; have d61 : a.tmps.getD 61 undef = .int .i64 8 := hd 14 rfl; clear hd hs; go_simp; exact hK _ _ rfl (StE.refl _)
          · intro a w' K hB hd hs hK; have d59 : a.tmps.getD 59 undef = .int .u32 q := hd 12 rfl; have d62 : a.tmps.getD 62 undef = .int .i64 16 := hd 15 rfl; clear hd hs; go_simp; exact hK _ _ rfl (StE.refl _)
          · intro a w' K hB hd hs hK; have d63 : a.tmps.getD 63 undef = .int .u32 (q / 65536) := hd 16 rfl; clear hd hs; go_simp; exact hK _ _ (by simp only [valOf]; unfold by2; rfl) (StE.refl _)
          · intro a w' K hB hd hs hK; have d47 : a.tmps.getD 47 undef = .slice (some ⟨w1.heap.size, 0, none⟩) 1024 cap := hd 0 rfl; have d49 : a.tmps.getD 49 undef = .int .i64 37 := hd 2 rfl; clear hd hs; go_simp; exact hK _ _ rfl (StE.refl _)
          · intro a w' K hB hd hs hK; have d58 : a.tmps.getD 58 undef = .int .u8 (by2 p) := hd 11 rfl; have d65 : a.tmps.getD 65 undef = .pointer (some ⟨w1.heap.size, 37, none⟩) := hd 18 rfl; clear hd hs; obtain ⟨u, hu⟩ : ∃ u, w'.cell? ⟨w1.heap.size, 37, none⟩ = some u := hB.ca.elim (fun e => ⟨_, e.trans (hCr 37 (by omega)).1⟩) (fun e => ⟨_, e⟩); have hfz : w'.frozen? ⟨w1.heap.size, 37, none⟩ = false := (hB.fr 37).trans (hF 37 (by omega)); go_simp; exact hK undef _ (World.cell?_setCell_same _ _ _ hu) (StE.setA (by decide) hBg hu)
          · intro a w' K hB hd hs hK; have d50 : a.tmps.getD 50 undef = .slice (some ⟨w1.heap.size, 0, none⟩) 1024 cap := hd 3 rfl; have d52 : a.tmps.getD 52 undef = .int .i64 41 := hd 5 rfl; clear hd hs; go_simp; exact hK _ _ rfl (StE.refl _)
          · intro a w' K hB hd hs hK; have d64 : a.tmps.getD 64 undef = .int .u8 (by2 q) := hd 17 rfl; have d66 : a.tmps.getD 66 undef = .pointer (some ⟨w1.heap.size, 41, none⟩) := hd 20 rfl; clear hd hs; obtain ⟨u, hu⟩ : ∃ u, w'.cell? ⟨w1.heap.size, 41, none⟩ = some u := hB.cb.elim (fun e => ⟨_, e.trans (hCr 41 (by omega)).1⟩) (fun e => ⟨_, e⟩); have hfz : w'.frozen? ⟨w1.heap.size, 41, none⟩ = false := (hB.fr 41).trans (hF 41 (by omega)); go_simp; exact hK undef _ (World.cell?_setCell_same _ _ _ hu) (StE.setB (by decide) hBg hu)
          · intro a W1 hB1 hsz hdf hf hs
            have e1 : W1.cell? ⟨w1.heap.size, 37, none⟩ = some (.int .u8 (by2 p)) := hf 19 rfl
            have e2 : W1.cell? ⟨w1.heap.size, 41, none⟩ = some (.int .u8 (by2 q)) := hf 21 rfl
            have hact : a = ⟨#[.int .u32 bl, .int .u32 bs, .int .u32 p, .int .u32 q, .int .u32 o1, .int .u32 o2, undef, undef, undef, undef, undef, undef, .bool false, .string (strB C), .bool true, .slice (some ⟨w1.heap.size, 0, none⟩) 1024 cap, .int .i64 1, undef, undef, undef, undef, .tuple #[.string (strB C), .bool true], .int .u32 bl, .int .u32 (bl % 3), .int .u32 X, .int .u32 bs, .int .u32 (bs % 100000), .int .u32 Y, .tuple #[.string (strB C), .bool true], .string (strB C), .bool true, .bool true, .bool false, .bool false, .string (strB C), .int .i64 1024, .bool false, .bool false, .int .u32 ha, .int .u32 p, .int .u32 ne, .int .u32 q, .string (strB C), .slice (some ⟨w1.heap.size, 0, none⟩) 1024 cap, .int .i64 1, .bool true, .int .i64 1, sl a 47, sl a 48, sl a 49, sl a 50, sl a 51, sl a 52, sl a 53, sl a 54, sl a 55, sl a 56, sl a 57, sl a 58, sl a 59, sl a 60, sl a 61, sl a 62, sl a 63, sl a 64, sl a 65, sl a 66, u67, undef, undef, undef, undef, undef, undef, undef, undef, undef, undef, undef, undef, undef, undef, undef, undef, undef, undef, undef, undef, undef, undef, undef, undef, undef, undef, undef, undef, undef, undef, undef, undef, undef, undef, undef, undef, undef, undef, undef, undef, undef, undef, undef, undef, undef, undef, undef, undef, undef, undef, undef, undef, undef], []⟩ := act_of (by rw [hsz]; rfl) hdf ⟨hs 0 rfl, hs 1 rfl, hs 2 rfl, hs 3 rfl, hs 4 rfl, hs 5 rfl, hs 6 rfl, hs 7 rfl, hs 8 rfl, hs 9 rfl, hs 10 rfl, hs 11 rfl, hs 12 rfl, hs 13 rfl, hs 14 rfl, hs 15 rfl, hs 16 rfl, hs 17 rfl, hs 18 rfl, hs 19 rfl, hs 20 rfl, hs 21 rfl, hs 22 rfl, hs 23 rfl, hs 24 rfl, hs 25 rfl, hs 26 rfl, hs 27 rfl, hs 28 rfl, hs 29 rfl, hs 30 rfl, hs 31 rfl, hs 32 rfl, hs 33 rfl, hs 34 rfl, hs 35 rfl, hs 36 rfl, hs 37 rfl, hs 38 rfl, hs 39 rfl, hs 40 rfl, hs 41 rfl, hs 42 rfl, hs 43 rfl, hs 44 rfl, hs 45 rfl, hs 46 rfl, rfl, rfl, rfl, rfl, rfl, rfl, rfl, rfl, rfl, rfl, rfl, rfl, rfl, rfl, rfl, rfl, rfl, rfl, rfl, rfl, hs 67 rfl, hs 68 rfl, hs 69 rfl, hs 70 rfl, hs 71 rfl, hs 72 rfl, hs 73 rfl, hs 74 rfl, hs 75 rfl, hs 76 rfl, hs 77 rfl, hs 78 rfl, hs 79 rfl, hs 80 rfl, hs 81 rfl, hs 82 rfl, hs 83 rfl, hs 84 rfl, hs 85 rfl, hs 86 rfl, hs 87 rfl, hs 88 rfl, hs 89 rfl, hs 90 rfl, hs 91 rfl, hs 92 rfl, hs 93 rfl, hs 94 rfl, hs 95 rfl, hs 96 rfl, hs 97 rfl, hs 98 rfl, hs 99 rfl, hs 100 rfl, hs 101 rfl, hs 102 rfl, hs 103 rfl, hs 104 rfl, hs 105 rfl, hs 106 rfl, hs 107 rfl, hs 108 rfl, hs 109 rfl, hs 110 rfl, hs 111 rfl, hs 112 rfl, hs 113 rfl, hs 114 rfl, hs 115 rfl, hs 116 rfl, hs 117 rfl, hs 118 rfl, hs 119 rfl, hs 120 rfl, trivial⟩
            clear hsz hdf hf hs
            rw [hact]
            clear hact
            have HE := Lib.hid hB1
            have E1 := Lib.hid e1
            have E2 := Lib.hid e2
            clear hB1 e1 e2
            go_wp2_with fail
            go_roundw
            case rel =>
              refine ⟨2, by omega, by go_num, ?_, ?_, ?_, ?_⟩
              · rw [dAt2]; exact cells_round (C := dAt C p q 1) HC2.out HZ2.out HE.out (by decide) (by decide) E1.out E2.out (by2_bd p) (by2_bd q)
              · exact HB2.out.trans HE.out.bel
              · exact fun i hi => (HE.out.fr i).trans (HF2.out i hi)
              · exact Nat.lt_of_lt_of_le hgr HE.out.size
            case measure => simp [intOf]
      · as_aux_lemma =>
          have HZ2 : Hid ((dAt C p q 2).size = 1024) := Lib.hid (by rw [size_dAt, HZ.out])
          have hCr := HC2.out
          have hF := HF2.out
          have hBg : w1.heap.size ≤ w1.heap.size := Nat.le_refl _
          go_wp2_with fail
          refine wp_region_met (by kernel_rfl) (fun w' => StE w1.heap.size w1.heap.size 38 42 (.int .u8 (by1 p)) (.int .u8 (by1 q)) wr w') (fun z1 z2 => StE w1.heap.size w1.heap.size 38 42 (.int .u8 (by1 p)) (.int .u8 (by1 q)) z1 z2) (fun i v w' => FactS w1.heap.size 38 42 (.int .u8 (by1 p)) (.int .u8 (by1 q)) (([.inl (.slice (some ⟨w1.heap.size, 0, none⟩) 1024 cap), .inl (.int .i64 2), .inl (.int .i64 38), .inl (.slice (some ⟨w1.heap.size, 0, none⟩) 1024 cap), .inl (.int .i64 2), .inl (.int .i64 42), .inl (.int .u32 p), .inl (.int .i64 2), .inl (.int .i64 16), .inl (.int .i64 8), .inl (.int .u32 (p / 256)), .inl (.int .u8 (by1 p)), .inl (.int .u32 q), .inl (.int .i64 2), .inl (.int .i64 16), .inl (.int .i64 8), .inl (.int .u32 (q / 256)), .inl (.int .u8 (by1 q)), .inl (.pointer (some ⟨w1.heap.size, 38, none⟩)), .inr false, .inl (.pointer (some ⟨w1.heap.size, 42, none⟩)), .inr true] : List (Sum Value Bool))[i]?.getD (.inl undef)) v w') (by kernel_rfl) ?_ (by intro i v z1 z2 _ hE hF; exact FactS.keep hE hF) ?_ ⟨⟨rfl, ?_⟩, ⟨rfl, ?_⟩, ⟨rfl, ?_⟩, ⟨rfl, ?_⟩, ⟨rfl, ?_⟩, ⟨rfl, ?_⟩, ⟨rfl, ?_⟩, ⟨rfl, ?_⟩, ⟨rfl, ?_⟩, ⟨rfl, ?_⟩, ⟨rfl, ?_⟩, ⟨rfl, ?_⟩, ⟨rfl, ?_⟩, ⟨rfl, ?_⟩, ⟨rfl, ?_⟩, ⟨rfl, ?_⟩, ⟨rfl, ?_⟩, ⟨rfl, ?_⟩, ⟨rfl, ?_⟩, ⟨rfl, ?_⟩, ⟨rfl, ?_⟩, ⟨rfl, ?_⟩, trivial⟩ ?_
          · intro z1 z2 h1 h2; exact h1.trans h2
          · exact StE.drew _
          · intro a w' K hB hd hs hK; have d15 : a.tmps.getD 15 undef = .slice (some ⟨w1.heap.size, 0, none⟩) 1024 cap := hs 15 rfl; clear hd hs; go_simp; exact hK _ _ rfl (StE.refl _)
          · intro a w' K hB hd hs hK; have d16 : a.tmps.getD 16 undef = .int .i64 2 := hs 16 rfl; clear hd hs; go_simp; exact hK _ _ rfl (StE.refl _)
          · intro a w' K hB hd hs hK; have d48 : a.tmps.getD 48 undef = .int .i64 2 := hd 1 rfl; clear hd hs; go_simp; exact hK _ _ rfl (StE.refl _)
          · intro a w' K hB hd hs hK; have d15 : a.tmps.getD 15 undef = .slice (some ⟨w1.heap.size, 0, none⟩) 1024 cap := hs 15 rfl; clear hd hs; go_simp; exact hK _ _ rfl (StE.refl _)
          · intro a w' K hB hd hs hK; have d16 : a.tmps.getD 16 undef = .int .i64 2 := hs 16 rfl; clear hd hs; go_simp; exact hK _ _ rfl (StE.refl _)
          · intro a w' K hB hd hs hK; have d51 : a.tmps.getD 51 undef = .int .i64 2 := hd 4 rfl; clear hd hs; go_simp; exact hK _ _ rfl (StE.refl _)
          · intro a w' K hB hd hs hK; have d2 : a.tmps.getD 2 undef = .int .u32 p := hs 2 rfl; clear hd hs; go_simp; exact hK _ _ rfl (StE.refl _)
          · intro a w' K hB hd hs hK; have d16 : a.tmps.getD 16 undef = .int .i64 2 := hs 16 rfl; clear hd hs; go_simp; exact hK _ _ rfl (StE.refl _)
          · intro a w' K hB hd hs hK; have d54 : a.tmps.getD 54 undef = .int .i64 2 := hd 7 rfl; clear hd hs; go_simp; exact hK _ _ rfl (StE.refl _)
          · intro a w' K hB hd hs hK; have d55 : a.tmps.getD 55 undef = .int .i64 16 := hd 8 rfl; clear hd hs; go_simp; exact hK _ _ rfl (StE.refl _)
          · intro a w' K hB hd hs hK; have d53 : a.tmps.getD 53 undef = .int .u32 p := hd 6 rfl; have d56 : a.tmps.getD 56 undef = .int .i64 8 := hd 9 rfl; clear hd hs; go_simp; exact hK _ _ rfl (StE.refl _)
          · intro a w' K hB hd hs hK; have d57 : a.tmps.getD 57 undef = .int .u32 (p / 256) := hd 10 rfl; clear hd hs; go_simp; exact hK _ _ (by simp only [valOf]; unfold by1; rfl) (StE.refl _)
          · intro a w' K hB hd hs hK; have d3 : a.tmps.getD 3 undef = .int .u32 q := hs 3 rfl; clear hd hs; go_simp; exact hK _ _ rfl (StE.refl _)
          · intro a w' K hB hd hs hK; have d16 : a.tmps.getD 16 undef = .int .i64 2 := hs 16 rfl; clear hd hs; go_simp; exact hK _ _ rfl (StE.refl _)
          · intro a w' K hB hd hs hK; have d60 : a.tmps.getD 60 undef = .int .i64 2 := hd 13 rfl; clear hd hs; go_simp; exact hK _ _ rfl (StE.refl _)
          · intro a w' K hB hd hs hK; have d61 : a.tmps.getD 61 undef = .int .i64 16 := hd 14 rfl; clear hd hs; go_simp; exact hK _ _ rfl (StE.refl _)
          · intro a w' K hB hd hs hK; have d59 : a.tmps.getD 59 undef = .int .u32 q := hd 12 rfl; have d62 : a.tmps.getD 62 undef = .int .i64 8 := hd 15 rfl; clear hd hs; go_simp; exact hK _ _ rfl (StE.refl _)
          · intro a w' K hB hd hs hK; have d63 : a.tmps.getD 63 undef = .int .u32 (q / 256) := hd 16 rfl; clear hd hs; go_simp; exact hK _ _ (by simp only [valOf]; unfold by1; rfl) (StE.refl _)
          · intro a w' K hB hd hs hK; have d47 : a.tmps.getD 47 undef = .slice (some ⟨w1.heap.size, 0, none⟩) 1024 cap := hd 0 rfl; have d49 : a.tmps.getD 49 undef = .int .i64 38 := hd 2 rfl; clear hd hs; go_simp; exact hK _ _ rfl (StE.refl _)
          · intro a w' K hB hd hs hK; have d58 : a.tmps.getD 58 undef = .int .u8 (by1 p) := hd 11 rfl; have d65 : a.tmps.getD 65 undef = .pointer (some ⟨w1.heap.size, 38, none⟩) := hd 18 rfl; clear hd hs; obtain ⟨u, hu⟩ : ∃ u, w'.cell? ⟨w1.heap.size, 38, none⟩ = some u := hB.ca.elim (fun e => ⟨_, e.trans (hCr 38 (by omega)).1⟩) (fun e => ⟨_, e⟩); have hfz : w'.frozen? ⟨w1.heap.size, 38, none⟩ = false := (hB.fr 38).trans (hF 38 (by omega)); go_simp; exact hK undef _ (World.cell?_setCell_same _ _ _ hu) (StE.setA (by decide) hBg hu)
          · intro a w' K hB hd hs hK; have d50 : a.tmps.getD 50 undef = .slice (some ⟨w1.heap.size, 0, none⟩) 1024 cap := hd 3 rfl; have d52 : a.tmps.getD 52 undef = .int .i64 42 := hd 5 rfl; clear hd hs; go_simp; exact hK _ _ rfl (StE.refl _)
          · intro a w' K hB hd hs hK; have d64 : a.tmps.getD 64 undef = .int .u8 (by1 q) := hd 17 rfl; have d66 : a.tmps.getD 66 undef = .pointer (some ⟨w1.heap.size, 42, none⟩) := hd 20 rfl; clear hd hs; obtain ⟨u, hu⟩ : ∃ u, w'.cell? ⟨w1.heap.size, 42, none⟩ = some u := hB.cb.elim (fun e => ⟨_, e.trans (hCr 42 (by omega)).1⟩) (fun e => ⟨_, e⟩); have hfz : w'.frozen? ⟨w1.heap.size, 42, none⟩ = false := (hB.fr 42).trans (hF 42 (by omega)); go_simp; exact hK undef _ (World.cell?_setCell_same _ _ _ hu) (StE.setB (by decide) hBg hu)
          · intro a W1 hB1 hsz hdf hf hs
            have e1 : W1.cell? ⟨w1.heap.size, 38, none⟩ = some (.int .u8 (by1 p)) := hf 19 rfl
            have e2 : W1.cell? ⟨w1.heap.size, 42, none⟩ = some (.int .u8 (by1 q)) := hf 21 rfl
            have hact : a = ⟨#[.int .u32 bl, .int .u32 bs, .int .u32 p, .int .u32 q, .int .u32 o1, .int .u32 o2, undef, undef, undef, undef, undef, undef, .bool false, .string (strB C), .bool true, .slice (some ⟨w1.heap.size, 0, none⟩) 1024 cap, .int .i64 2, undef, undef, undef, undef, .tuple #[.string (strB C), .bool true], .int .u32 bl, .int .u32 (bl % 3), .int .u32 X, .int .u32 bs, .int .u32 (bs % 100000), .int .u32 Y, .tuple #[.string (strB C), .bool true], .string (strB C), .bool true, .bool true, .bool false, .bool false, .string (strB C), .int .i64 1024, .bool false, .bool false, .int .u32 ha, .int .u32 p, .int .u32 ne, .int .u32 q, .string (strB C), .slice (some ⟨w1.heap.size, 0, none⟩) 1024 cap, .int .i64 2, .bool true, .int .i64 2, sl a 47, sl a 48, sl a 49, sl a 50, sl a 51, sl a 52, sl a 53, sl a 54, sl a 55, sl a 56, sl a 57, sl a 58, sl a 59, sl a 60, sl a 61, sl a 62, sl a 63, sl a 64, sl a 65, sl a 66, u67, undef, undef, undef, undef, undef, undef, undef, undef, undef, undef, undef, undef, undef, undef, undef, undef, undef, undef, undef, undef, undef, undef, undef, undef, undef, undef, undef, undef, undef, undef, undef, undef, undef, undef, undef, undef, undef, undef, undef, undef, undef, undef, undef, undef, undef, undef, undef, undef, undef, undef, undef, undef, undef], []⟩ := act_of (by rw [hsz]; rfl) hdf ⟨hs 0 rfl, hs 1 rfl, hs 2 rfl, hs 3 rfl, hs 4 rfl, hs 5 rfl, hs 6 rfl, hs 7 rfl, hs 8 rfl, hs 9 rfl, hs 10 rfl, hs 11 rfl, hs 12 rfl, hs 13 rfl, hs 14 rfl, hs 15 rfl, hs 16 rfl, hs 17 rfl, hs 18 rfl, hs 19 rfl, hs 20 rfl, hs 21 rfl, hs 22 rfl, hs 23 rfl, hs 24 rfl, hs 25 rfl, hs 26 rfl, hs 27 rfl, hs 28 rfl, hs 29 rfl, hs 30 rfl, hs 31 rfl, hs 32 rfl, hs 33 rfl, hs 34 rfl, hs 35 rfl, hs 36 rfl, hs 37 rfl, hs 38 rfl, hs 39 rfl, hs 40 rfl, hs 41 rfl, hs 42 rfl, hs 43 rfl, hs 44 rfl, hs 45 rfl, hs 46 rfl, rfl, rfl, rfl, rfl, rfl, rfl, rfl, rfl, rfl, rfl, rfl, rfl, rfl, rfl, rfl, rfl, rfl, rfl, rfl, rfl, hs 67 rfl, hs 68 rfl, hs 69 rfl, hs 70 rfl, hs 71 rfl, hs 72 rfl, hs 73 rfl, hs 74 rfl, hs 75 rfl, hs 76 rfl, hs 77 rfl, hs 78 rfl, hs 79 rfl, hs 80 rfl, hs 81 rfl, hs 82 rfl, hs 83 rfl, hs 84 rfl, hs 85 rfl, hs 86 rfl, hs 87 rfl, hs 88 rfl, hs 89 rfl, hs 90 rfl, hs 91 rfl, hs 92 rfl, hs 93 rfl, hs 94 rfl, hs 95 rfl, hs 96 rfl, hs 97 rfl, hs 98 rfl, hs 99 rfl, hs 100 rfl, hs 101 rfl, hs 102 rfl, hs 103 rfl, hs 104 rfl, hs 105 rfl, hs 106 rfl, hs 107 rfl, hs 108 rfl, hs 109 rfl, hs 110 rfl, hs 111 rfl, hs 112 rfl, hs 113 rfl, hs 114 rfl, hs 115 rfl, hs 116 rfl, hs 117 rfl, hs 118 rfl, hs 119 rfl, hs 120 rfl, trivial⟩
            clear hsz hdf hf hs
            rw [hact]
            clear hact
            have HE := Lib.hid hB1
            have E1 := Lib.hid e1
            have E2 := Lib.hid e2
            clear hB1 e1 e2
            go_wp2_with fail
            go_roundw
            case rel =>
              refine ⟨3, by omega, by go_num, ?_, ?_, ?_, ?_⟩
              · rw [dAt3]; exact cells_round (C := dAt C p q 2) HC2.out HZ2.out HE.out (by decide) (by decide) E1.out E2.out (by1_bd p) (by1_bd q)
              · exact HB2.out.trans HE.out.bel
              · exact fun i hi => (HE.out.fr i).trans (HF2.out i hi)
              · exact Nat.lt_of_lt_of_le hgr HE.out.size
            case measure => simp [intOf]
      · as_aux_lemma =>
          have HZ2 : Hid ((dAt C p q 3).size = 1024) := Lib.hid (by rw [size_dAt, HZ.out])
          have hCr := HC2.out
          have hF := HF2.out
          have hBg : w1.heap.size ≤ w1.heap.size := Nat.le_refl _
          go_wp2_with fail
          refine wp_region_met (by kernel_rfl) (fun w' => StE w1.heap.size w1.heap.size 39 43 (.int .u8 (by0 p)) (.int .u8 (by0 q)) wr w') (fun z1 z2 => StE w1.heap.size w1.heap.size 39 43 (.int .u8 (by0 p)) (.int .u8 (by0 q)) z1 z2) (fun i v w' => FactS w1.heap.size 39 43 (.int .u8 (by0 p)) (.int .u8 (by0 q)) (([.inl (.slice (some ⟨w1.heap.size, 0, none⟩) 1024 cap), .inl (.int .i64 3), .inl (.int .i64 39), .inl (.slice (some ⟨w1.heap.size, 0, none⟩) 1024 cap), .inl (.int .i64 3), .inl (.int .i64 43), .inl (.int .u32 p), .inl (.int .i64 3), .inl (.int .i64 24), .inl (.int .i64 0), .inl (.int .u32 p), .inl (.int .u8 (by0 p)), .inl (.int .u32 q), .inl (.int .i64 3), .inl (.int .i64 24), .inl (.int .i64 0), .inl (.int .u32 q), .inl (.int .u8 (by0 q)), .inl (.pointer (some ⟨w1.heap.size, 39, none⟩)), .inr false, .inl (.pointer (some ⟨w1.heap.size, 43, none⟩)), .inr true] : List (Sum Value Bool))[i]?.getD (.inl undef)) v w') (by kernel_rfl) ?_ (by intro i v z1 z2 _ hE hF; exact FactS.keep hE hF) ?_ ⟨⟨rfl, ?_⟩, ⟨rfl, ?_⟩, ⟨rfl, ?_⟩, ⟨rfl, ?_⟩, ⟨rfl, ?_⟩, ⟨rfl, ?_⟩, ⟨rfl, ?_⟩, ⟨rfl, ?_⟩, ⟨rfl, ?_⟩, ⟨rfl, ?_⟩, ⟨rfl, ?_⟩, ⟨rfl, ?_⟩, ⟨rfl, ?_⟩, ⟨rfl, ?_⟩, ⟨rfl, ?_⟩, ⟨rfl, ?_⟩, ⟨rfl, ?_⟩, ⟨rfl, ?_⟩, ⟨rfl, ?_⟩, ⟨rfl, ?_⟩, ⟨rfl, ?_⟩, ⟨rfl, ?_⟩, trivial⟩ ?_
          · intro z1 z2 h1 h2; exact h1.trans h2
          · exact StE.drew _
          · intro a w' K hB hd hs hK; have d15 : a.tmps.getD 15 undef = .slice (some ⟨w1.heap.size, 0, none⟩) 1024 cap := hs 15 rfl; clear hd hs; go_simp; exact hK _ _ rfl (StE.refl _)
          · intro a w' K hB hd hs hK; have d16 : a.tmps.getD 16 undef = .int .i64 3 := hs 16 rfl; clear hd hs; go_simp; exact hK _ _ rfl (StE.refl _)
          · intro a w' K hB hd hs hK; have d48 : a.tmps.getD 48 undef = .int .i64 3 := hd 1 rfl; clear hd hs; go_simp; exact hK _ _ rfl (StE.refl _)
          · intro a w' K hB hd hs hK; have d15 : a.tmps.getD 15 undef = .slice (some ⟨w1.heap.size, 0, none⟩) 1024 cap := hs 15 rfl; clear hd hs; go_simp; exact hK _ _ rfl (StE.refl _)
          · intro a w' K hB hd hs hK; have d16 : a.tmps.getD 16 undef = .int .i64 3 := hs 16 rfl; clear hd hs; go_simp; exact hK _ _ rfl (StE.refl _)
          · intro a w' K hB hd hs hK; have d51 : a.tmps.getD 51 undef = .int .i64 3 := hd 4 rfl; clear hd hs; go_simp; exact hK _ _ rfl (StE.refl _)
          · intro a w' K hB hd hs hK; have d2 : a.tmps.getD 2 undef = .int .u32 p := hs 2 rfl; clear hd hs; go_simp; exact hK _ _ rfl (StE.refl _)
          · intro a w' K hB hd hs hK; have d16 : a.tmps.getD 16 undef = .int .i64 3 := hs 16 rfl; clear hd hs; go_simp; exact hK _ _ rfl (StE.refl _)
          · intro a w' K hB hd hs hK; have d54 : a.tmps.getD 54 undef = .int .i64 3 := hd 7 rfl; clear hd hs; go_simp; exact hK _ _ rfl (StE.refl _)
          · intro a w' K hB hd hs hK; have d55 : a.tmps.getD 55 undef = .int .i64 24 := hd 8 rfl; clear hd hs; go_simp; exact hK _ _ rfl (StE.refl _)
          · intro a w' K hB hd hs hK; have d53 : a.tmps.getD 53 undef = .int .u32 p := hd 6 rfl; have d56 : a.tmps.getD 56 undef = .int .i64 0 := hd 9 rfl; clear hd hs; go_simp; exact hK _ _ rfl (StE.refl _)
          · intro a w' K hB hd hs hK; have d57 : a.tmps.getD 57 undef = .int .u32 p := hd 10 rfl; clear hd hs; go_simp; exact hK _ _ (by simp only [valOf]; unfold by0; rfl) (StE.refl _)
          · intro a w' K hB hd hs hK; have d3 : a.tmps.getD 3 undef = .int .u32 q := hs 3 rfl; clear hd hs; go_simp; exact hK _ _ rfl (StE.refl _)
          · intro a w' K hB hd hs hK; have d16 : a.tmps.getD 16 undef = .int .i64 3 := hs 16 rfl; clear hd hs; go_simp; exact hK _ _ rfl (StE.refl _)
          · intro a w' K hB hd hs hK; have d60 : a.tmps.getD 60 undef = .int .i64 3 := hd 13 rfl; clear hd hs; go_simp; exact hK _ _ rfl (StE.refl _)
          · intro a w' K hB hd hs hK; have d61 : a.tmps.getD 61 undef = .int .i64 24 := hd 14 rfl; clear hd hs; go_simp; exact hK _ _ rfl (StE.refl _)
          · intro a w' K hB hd hs hK; have d59 : a.tmps.getD 59 undef = .int .u32 q := hd 12 rfl; have d62 : a.tmps.getD 62 undef = .int .i64 0 := hd 15 rfl; clear hd hs; go_simp; exact hK _ _ rfl (StE.refl _)
          · intro a w' K hB hd hs hK; have d63 : a.tmps.getD 63 undef = .int .u32 q := hd 16 rfl; clear hd hs; go_simp; exact hK _ _ (by simp only [valOf]; unfold by0; rfl) (StE.refl _)
          · intro a w' K hB hd hs hK; have d47 : a.tmps.getD 47 undef = .slice (some ⟨w1.heap.size, 0, none⟩) 1024 cap := hd 0 rfl; have d49 : a.tmps.getD 49 undef = .int .i64 39 := hd 2 rfl; clear hd hs; go_simp; exact hK _ _ rfl (StE.refl _)
          · intro a w' K hB hd hs hK; have d58 : a.tmps.getD 58 undef = .int .u8 (by0 p) := hd 11 rfl; have d65 : a.tmps.getD 65 undef = .pointer (some ⟨w1.heap.size, 39, none⟩) := hd 18 rfl; clear hd hs; obtain ⟨u, hu⟩ : ∃ u, w'.cell? ⟨w1.heap.size, 39, none⟩ = some u := hB.ca.elim (fun e => ⟨_, e.trans (hCr 39 (by omega)).1⟩) (fun e => ⟨_, e⟩); have hfz : w'.frozen? ⟨w1.heap.size, 39, none⟩ = false := (hB.fr 39).trans (hF 39 (by omega)); go_simp; exact hK undef _ (World.cell?_setCell_same _ _ _ hu) (StE.setA (by decide) hBg hu)
          · intro a w' K hB hd hs hK; have d50 : a.tmps.getD 50 undef = .slice (some ⟨w1.heap.size, 0, none⟩) 1024 cap := hd 3 rfl; have d52 : a.tmps.getD 52 undef = .int .i64 43 := hd 5 rfl; clear hd hs; go_simp; exact hK _ _ rfl (StE.refl _)
          · intro a w' K hB hd hs hK; have d64 : a.tmps.getD 64 undef = .int .u8 (by0 q) := hd 17 rfl; have d66 : a.tmps.getD 66 undef = .pointer (some ⟨w1.heap.size, 43, none⟩) := hd 20 rfl; clear hd hs; obtain ⟨u, hu⟩ : ∃ u, w'.cell? ⟨w1.heap.size, 43, none⟩ = some u := hB.cb.elim (fun e => ⟨_, e.trans (hCr 43 (by omega)).1⟩) (fun e => ⟨_, e⟩); have hfz : w'.frozen? ⟨w1.heap.size, 43, none⟩ = false := (hB.fr 43).trans (hF 43 (by omega)); go_simp; exact hK undef _ (World.cell?_setCell_same _ _ _ hu) (StE.setB (by decide) hBg hu)
          · intro a W1 hB1 hsz hdf hf hs
            have e1 : W1.cell? ⟨w1.heap.size, 39, none⟩ = some (.int .u8 (by0 p)) := hf 19 rfl
            have e2 : W1.cell? ⟨w1.heap.size, 43, none⟩ = some (.int .u8 (by0 q)) := hf 21 rfl
            have hact : a = ⟨#[.int .u32 bl, .int .u32 bs, .int .u32 p, .int .u32 q, .int .u32 o1, .int .u32 o2, undef, undef, undef, undef, undef, undef, .bool false, .string (strB C), .bool true, .slice (some ⟨w1.heap.size, 0, none⟩) 1024 cap, .int .i64 3, undef, undef, undef, undef, .tuple #[.string (strB C), .bool true], .int .u32 bl, .int .u32 (bl % 3), .int .u32 X, .int .u32 bs, .int .u32 (bs % 100000), .int .u32 Y, .tuple #[.string (strB C), .bool true], .string (strB C), .bool true, .bool true, .bool false, .bool false, .string (strB C), .int .i64 1024, .bool false, .bool false, .int .u32 ha, .int .u32 p, .int .u32 ne, .int .u32 q, .string (strB C), .slice (some ⟨w1.heap.size, 0, none⟩) 1024 cap, .int .i64 3, .bool true, .int .i64 3, sl a 47, sl a 48, sl a 49, sl a 50, sl a 51, sl a 52, sl a 53, sl a 54, sl a 55, sl a 56, sl a 57, sl a 58, sl a 59, sl a 60, sl a 61, sl a 62, sl a 63, sl a 64, sl a 65, sl a 66, u67, undef, undef, undef, undef, undef, undef, undef, undef, undef, undef, undef, undef, undef, undef, undef, undef, undef, undef, undef, undef, undef, undef, undef, undef, undef, undef, undef, undef, undef, undef, undef, undef, undef, undef, undef, undef, undef, undef, undef, undef, undef, undef, undef, undef, undef, undef, undef, undef, undef, undef, undef, undef, undef], []⟩ := act_of (by rw [hsz]; rfl) hdf ⟨hs 0 rfl, hs 1 rfl, hs 2 rfl, hs 3 rfl, hs 4 rfl, hs 5 rfl, hs 6 rfl, hs 7 rfl, hs 8 rfl, hs 9 rfl, hs 10 rfl, hs 11 rfl, hs 12 rfl, hs 13 rfl, hs 14 rfl, hs 15 rfl, hs 16 rfl, hs 17 rfl, hs 18 rfl, hs 19 rfl, hs 20 rfl, hs 21 rfl, hs 22 rfl, hs 23 rfl, hs 24 rfl, hs 25 rfl, hs 26 rfl, hs 27 rfl, hs 28 rfl, hs 29 rfl, hs 30 rfl, hs 31 rfl, hs 32 rfl, hs 33 rfl, hs 34 rfl, hs 35 rfl, hs 36 rfl, hs 37 rfl, hs 38 rfl, hs 39 rfl, hs 40 rfl, hs 41 rfl, hs 42 rfl, hs 43 rfl, hs 44 rfl, hs 45 rfl, hs 46 rfl, rfl, rfl, rfl, rfl, rfl, rfl, rfl, rfl, rfl, rfl, rfl, rfl, rfl, rfl, rfl, rfl, rfl, rfl, rfl, rfl, hs 67 rfl, hs 68 rfl, hs 69 rfl, hs 70 rfl, hs 71 rfl, hs 72 rfl, hs 73 rfl, hs 74 rfl, hs 75 rfl, hs 76 rfl, hs 77 rfl, hs 78 rfl, hs 79 rfl, hs 80 rfl, hs 81 rfl, hs 82 rfl, hs 83 rfl, hs 84 rfl, hs 85 rfl, hs 86 rfl, hs 87 rfl, hs 88 rfl, hs 89 rfl, hs 90 rfl, hs 91 rfl, hs 92 rfl, hs 93 rfl, hs 94 rfl, hs 95 rfl, hs 96 rfl, hs 97 rfl, hs 98 rfl, hs 99 rfl, hs 100 rfl, hs 101 rfl, hs 102 rfl, hs 103 rfl, hs 104 rfl, hs 105 rfl, hs 106 rfl, hs 107 rfl, hs 108 rfl, hs 109 rfl, hs 110 rfl, hs 111 rfl, hs 112 rfl, hs 113 rfl, hs 114 rfl, hs 115 rfl, hs 116 rfl, hs 117 rfl, hs 118 rfl, hs 119 rfl, hs 120 rfl, trivial⟩
            clear hsz hdf hf hs
            rw [hact]
            clear hact
            have HE := Lib.hid hB1
            have E1 := Lib.hid e1
            have E2 := Lib.hid e2
            clear hB1 e1 e2
            go_wp2_with fail
            go_roundw
            case rel =>
              refine ⟨4, by omega, by go_num, ?_, ?_, ?_, ?_⟩
              · rw [dAt4]; exact cells_round (C := dAt C p q 3) HC2.out HZ2.out HE.out (by decide) (by decide) E1.out E2.out (by0_bd p) (by0_bd q)
              · exact HB2.out.trans HE.out.bel
              · exact fun i hi => (HE.out.fr i).trans (HF2.out i hi)
              · exact Nat.lt_of_lt_of_le hgr HE.out.size
            case measure => simp [intOf]
    · obtain rfl : k = 4 := by omega
      obtain ⟨hDB, hDz, d0, d4, d36, d40, d48⟩ := dAt_holds C p q HBY.out HZ.out hp0 hp1 hq0 hq1
      have hcv2 := run_strC wr w1.heap.size cap _ HC2.out hDz
      have JT : ∀ (X Y : Int) (W : World), Calls Try.prog 8 #[.string (strB (dAt C p q 4)), .int .u32 X, .int .u32 Y] W fun e w' => e = .returned (tells p q X Y) ∧ Below W.heap.size W w' := fun X Y W =>
        jtells_any (dAt C p q 4) p q X Y W hDB hDz (d0.trans HR0.out) (d4.trans HR4.out) d36 d40 (fun i hi => (d48 i hi).trans (H48.out i hi))
      have HJT := Lib.hid JT
      clear JT d0 d4 d36 d40 d48 hDB hDz
      go_wp2_with fail
      refine (HJT.out _ _ _).mono ?_
      rintro e w2 ⟨rfl, hb2⟩
      unfold tells
      have hbel : Below w.heap.size w w2 := by
        have k1 : Below w.heap.size w wr := hb1.trans (HB2.out.mono hb1.size)
        exact k1.trans (hb2.mono k1.size)
      have hqq := Lib.hid (bits8_16 q hq0 hq1)
      go_wp2_with fail
      all_goals (go_ret; refine ⟨?_, hbel⟩; rw [hqq.out]; simp [*])
end Go.Proofs.Ytpgbafllipigfaa
