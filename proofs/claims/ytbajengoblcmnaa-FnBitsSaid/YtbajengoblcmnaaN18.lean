/- Walks of the law's helpers: the sizes, two lists of rows, a bitmap that is awake. -/
import Derived.Test.YtbajengoblcmnaaN17
namespace Go.Proofs.Ytbajengoblcmnaa
open Go.RowKit
set_option linter.unusedVariables false

theorem plainI : Try.prog.plainKey 3 = true := by kernel_rfl
theorem cellsI : Try.prog.cellsOf 3 = 1 := by kernel_rfl
theorem someI : (Try.prog.info? 3).isSome = true := by kernel_rfl
theorem eq2 (w : World) (x0 x1 y0 y1 : Int) : (Op.equalIn 10000 61 (.agg #[.int .i64 x0, .int .i64 x1]) (.agg #[.int .i64 y0, .int .i64 y1])).run Try.prog w = .ok (x0 == y0 && x1 == y1) w := by
  obtain ⟨i, hi⟩ := Option.isSome_iff_exists.1 someI
  rw [show (10000 : Nat) = 9999 + 1 from rfl, run_equalIn_array w 9999 _ _ Try.underlying61 hi, cellsI]
  have hr : List.range 2 = [0, 1] := rfl
  rw [hr, show (9999 : Nat) = 9998 + 1 from rfl]
  have p := fun (xs : Array Value) (off : Nat) (v : Value) (h : xs[off]? = some v) => run_part_plain (P := Try.prog) w plainI h
  simp only [Op.eqItems, Sem.run_bind]
  rw [p _ _ (.int .i64 x0) rfl, Result.andThen_ok, p _ _ (.int .i64 y0) rfl, Result.andThen_ok, run_equalIn_int _ _ _ _ _ _ _ Try.underlying3, Result.andThen_ok]
  cases h0 : (x0 == y0)
  · simp
  simp only [Bool.not_true, Bool.false_eq_true, if_false, Sem.run_bind]
  rw [p _ _ (.int .i64 x1) rfl, Result.andThen_ok, p _ _ (.int .i64 y1) rfl, Result.andThen_ok, run_equalIn_int _ _ _ _ _ _ _ Try.underlying3, Result.andThen_ok]
  cases h1 : (x1 == y1) <;> simp
@[go_sem] theorem eq2_self (w : World) (x0 x1 : Int) : (Op.equalIn 10000 61 (.agg #[.int .i64 x0, .int .i64 x1]) (.agg #[.int .i64 x0, .int .i64 x1])).run Try.prog w = .ok true w := by
  rw [eq2]; simp

/-- the steps that came in -/
def ArgAt (w : World) (A : Option Addr) (L : List Step) : Prop := ∀ i, (h : i < L.length) → ∃ a, A = some a ∧ a.block < w.heap.size ∧ w.cell? (a.add (i * 3)) = some (.int .i64 L[i].1) ∧ w.cell? ⟨(a.add (i * 3)).block, (a.add (i * 3)).off + 1, none⟩ = some (.int .i64 L[i].2.1) ∧ w.cell? ⟨(a.add (i * 3)).block, (a.add (i * 3)).off + 2, none⟩ = some (.string L[i].2.2)
theorem addr_block (a : Addr) (n : Nat) : (a.add n).block = a.block := by unfold Addr.add; split <;> rfl
/-- a truth value -/
def IsB (v : Value) : Prop := ∃ b, v = .bool b

theorem fits4_any (x y : Int) (s : ByteArray) (w : World) : Calls Try.prog 10 #[.agg #[.int .i64 x, .int .i64 y, .string s]] w fun e w' => (∃ v, e = .returned v ∧ IsB v) ∧ Below w.heap.size w w' := by
  by_cases h : (s.size : Int) > 2147483647
  · go_enter Try.func10, Try.ntmps10
    go_wp2
    go_ret
    exact ⟨⟨_, rfl, _, rfl⟩, (Below.refl _ _).alloc (Nat.le_refl _) _⟩
  · go_enter Try.func10, Try.ntmps10
    go_wp2
    go_ret
    exact ⟨⟨_, rfl, _, rfl⟩, (Below.refl _ _).alloc (Nat.le_refl _) _⟩

set_option maxHeartbeats 1000000 in
theorem fits3_any (A : Option Addr) (c : Nat) (L : List Step) (w : World) (h : ArgAt w A L) (hm : L.length ≤ 9223372036854775807) :
    Calls Try.prog 4 #[.slice A L.length c] w fun e w' => (∃ v, e = .returned v ∧ IsB v) ∧ Below w.heap.size w w' := by
  obtain ⟨n, hn⟩ : ∃ n, n = L.length := ⟨_, rfl⟩
  have HI := Lib.hid h
  rw [← hn] at hm ⊢
  have HN := Lib.hid hn
  clear h hn
  by_cases hbig : (n : Int) > 2147483647
  · go_enter Try.func4, Try.ntmps4
    go_wp2
    go_ret
    exact ⟨⟨_, rfl, _, rfl⟩, Below.refl _ _⟩
  · go_enter Try.func4, Try.ntmps4
    go_wp2
    go_loopw [10] (fun i wr => ∃ k : Nat, k ≤ n ∧ i = .int .i64 k ∧ Below w.heap.size w wr) (fun i _ => n - (intOf i).toNat)
    case atStart => exact ⟨0, by omega, by go_num, Below.refl _ _⟩
    case round =>
      obtain ⟨k, hk, rfl, hbl⟩ := hrel
      have HBL := Lib.hid hbl
      clear hbl
      by_cases hlt : k < n
      · obtain ⟨a, rfl, hal, c0, c1, c2⟩ := HI.out k (by rw [← HN.out]; exact hlt)
        have hq : (a.add (k * 3)).block < w.heap.size := by rw [addr_block]; exact hal
        rw [← HBL.out.cell (p := a.add (k * 3)) hq] at c0
        rw [← HBL.out.cell (p := ⟨(a.add (k * 3)).block, (a.add (k * 3)).off + 1, none⟩) hq] at c1
        rw [← HBL.out.cell (p := ⟨(a.add (k * 3)).block, (a.add (k * 3)).off + 2, none⟩) hq] at c2
        go_wp2_with fail
        refine (fits4_any L[k].1 L[k].2.1 L[k].2.2 _).mono ?_
        rintro e w2 ⟨⟨v, rfl, b, rfl⟩, hb2⟩
        have hbw : Below w.heap.size w w2 := (HBL.out.alloc HBL.out.size _).trans (hb2.mono (by have := HBL.out.size; simp; omega))
        have HBW := Lib.hid hbw
        clear hb2 hbw
        cases b with
        | false =>
          go_wp2
          go_ret
          exact ⟨⟨_, rfl, _, rfl⟩, HBW.out⟩
        | true =>
          go_wp2
          go_roundw
          case rel => exact ⟨k + 1, by omega, by go_num, HBW.out⟩
          case measure => simp [intOf]; omega
      · obtain rfl : k = n := by omega
        go_wp2
        go_ret
        exact ⟨⟨_, rfl, _, rfl⟩, HBL.out⟩

set_option maxHeartbeats 1000000 in
theorem same_any (B1 B2 : Nat) (R : List (Int × Int)) (A1 A2 : Option Addr) (c1 c2 : Nat) (w : World) (h1 : w.ownsRow B1 61 2 (.slice A1 R.length c1) R.length (flatI R)) (h2 : w.ownsRow B2 61 2 (.slice A2 R.length c2) R.length (flatI R)) (hm : R.length ≤ 9223372036854775807) :
    Calls Try.prog 8 #[.slice A1 R.length c1, .slice A2 R.length c2] w fun e w' => e = .returned (.bool true) ∧ Below w.heap.size w w' := by
  obtain ⟨n, hn⟩ : ∃ n, n = R.length := ⟨_, rfl⟩
  rw [← hn] at h1 h2 hm ⊢
  have H1 := Lib.hid h1
  have H2 := Lib.hid h2
  have HN := Lib.hid hn
  clear h1 h2 hn
  go_enter Try.func8, Try.ntmps8
  go_wp2
  go_loopw [14] (fun i wr => ∃ k : Nat, k ≤ n ∧ i = .int .i64 k ∧ Below w.heap.size w wr) (fun i _ => n - (intOf i).toNat)
  case atStart => exact ⟨0, by omega, by go_num, Below.refl _ _⟩
  case round =>
    obtain ⟨k, hk, rfl, hbl⟩ := hrel
    have HBL := Lib.hid hbl
    clear hbl
    by_cases hlt : k < n
    · have hkR : k < R.length := by rw [← HN.out]; exact hlt
      obtain ⟨f1, f2⟩ := flatI_at R k hkR
      have own_at : ∀ {B : Nat} {A : Option Addr} {c : Nat}, w.ownsRow B 61 2 (.slice A n c) n (flatI R) → ∃ g, A = some ⟨g, 0, none⟩ ∧ g < w.heap.size ∧ w.cell? ⟨g, k * 2, none⟩ = some (.int .i64 R[k].1) ∧ w.cell? ⟨g, k * 2 + 1, none⟩ = some (.int .i64 R[k].2) := fun {B A c} h => by
        rcases h.2 with ⟨_, hz⟩ | ⟨g, cap, cur, e, hB, hg, _⟩
        · omega
        · cases e
          exact ⟨g, rfl, (Array.getElem?_eq_some_iff.1 hg).1, by rw [World.ownsRow.cellAt h (k * 2) (by omega)]; exact f1, by rw [World.ownsRow.cellAt h (k * 2 + 1) (by omega)]; exact f2⟩
      obtain ⟨g1, rfl, hg1, a0, a1⟩ := own_at H1.out
      obtain ⟨g2, rfl, hg2, b0, b1⟩ := own_at H2.out
      rw [← HBL.out.cell (p := ⟨g1, k * 2, none⟩) hg1] at a0
      rw [← HBL.out.cell (p := ⟨g1, k * 2 + 1, none⟩) hg1] at a1
      rw [← HBL.out.cell (p := ⟨g2, k * 2, none⟩) hg2] at b0
      rw [← HBL.out.cell (p := ⟨g2, k * 2 + 1, none⟩) hg2] at b1
      have hws := HBL.out.size
      have hg2' : g2 < wr.heap.size := by omega
      obtain ⟨x, hx⟩ : ∃ x, x = R[k].1 := ⟨_, rfl⟩
      obtain ⟨y, hy⟩ : ∃ y, y = R[k].2 := ⟨_, rfl⟩
      rw [← hx] at a0 b0
      rw [← hy] at a1 b1
      clear f1 f2 own_at hx hy
      go_wp2_with fail
      go_region
      go_wp2
      go_roundw
      case rel => exact ⟨k + 1, by omega, by go_num, (HBL.out.alloc HBL.out.size _).drew⟩
      case measure => simp [intOf]; omega
    · obtain rfl : k = n := by omega
      go_wp2
      go_ret
      exact ⟨rfl, HBL.out⟩

theorem two_of {α : Type} : ∀ P : List α, P.length = 2 → ∃ x0 x1, P = [x0, x1]
  | [x0, x1], _ => ⟨x0, x1, rfl⟩
/-- the steps of the bitmap that is awake -/
def awakeL : List Step := [(0, 3, ⟨#[]⟩), (6, 0, ⟨#[]⟩)]
theorem awake_tells : tellsOf [0] awakeL = [⟨true, false, 0, [], ⟨#[]⟩⟩, ⟨true, false, 0, [], ⟨#[8]⟩⟩] := by
  have h1 : inB [0] 3 := by decide
  have h2 : ysSet [0] 3 = [8] := by decide +kernel
  have h3 : strOfNums [8] = ⟨#[8]⟩ := by decide +kernel
  simp [awakeL, tellsOf, tell, behind, h1]
  rw [h2, h3]
set_option maxHeartbeats 1000000 in
theorem awake_any (w : World) : Calls Try.prog 9 #[] w fun e w' => e = .returned (.bool true) ∧ Below w.heap.size w w' := by
  have hst : StepsAt (w.alloc (.cells #[.int .i64 0, .int .i64 3, .string ⟨#[]⟩, .int .i64 6, .int .i64 0, .string ⟨#[]⟩] 29)) 0 (.slice (some ⟨w.heap.size, 0, none⟩) 2 2) awakeL :=
    World.ownsRow_lit (base := 0) (e := 29) (size := 3) w #[.int .i64 0, .int .i64 3, .string ⟨#[]⟩, .int .i64 6, .int .i64 0, .string ⟨#[]⟩] 2 (Nat.zero_le _) (by unfold maxLen; omega) rfl
  have HB := Lib.hid (bits_any 0 1 ⟨#[]⟩ [0] (some ⟨w.heap.size, 0, none⟩) 2 awakeL _ (.inl ⟨rfl, 1, by omega, rfl, rfl⟩) (by decide) (by decide) (by intro s hs; simp [awakeL] at hs; rcases hs with rfl | rfl <;> exact ⟨by decide, by decide, by decide, by decide, by decide⟩) (by decide) (by simp [awakeL, saidAll, saidB]) hst)
  clear hst
  go_enter Try.func9, Try.ntmps9
  go_wp2_with fail
  refine HB.out.mono ?_
  rintro e w1 ⟨v, P, rfl, hP, hT, hbl⟩
  rw [awake_tells] at hP
  obtain ⟨x0, x1, rfl⟩ := two_of P (by have := congrArg List.length hP; simpa using this)
  simp only [List.map_cons, List.map_nil, List.cons.injEq, and_true] at hP
  obtain ⟨h0, h1⟩ := hP
  obtain ⟨gT, cT, rfl, hgT⟩ : ∃ gT cT, v = .slice (some ⟨gT, 0, none⟩) 2 cT ∧ gT < w1.heap.size := by
    rcases hT.own.2 with ⟨_, hz⟩ | ⟨g, cap, cur, e, _, hg, _⟩
    · cases hz
    · exact ⟨g, cap, e, (Array.getElem?_eq_some_iff.1 hg).1⟩
  have hc : w1.cell? ⟨gT, 9, none⟩ = some (.string ⟨#[8]⟩) := by
    rw [World.ownsRow.cellAt hT.own 9 (by decide)]
    have : (flatT [x0, x1])[9]? = some (.string x1.1.data) := rfl
    rw [this, h1]
  have HBL := Lib.hid hbl
  clear hT hbl h0 h1 hgT
  go_wp2
  go_ret
  exact ⟨rfl, ((Below.refl _ _).alloc (Nat.le_refl _) _).trans (HBL.out.mono (by simp))⟩
end Go.Proofs.Ytbajengoblcmnaa
