/- Walk of the law FnBits. -/
import Derived.Test.YtbajengoblcmnaaN19
namespace Go.Proofs.Ytbajengoblcmnaa
open Go.RowKit
set_option linter.unusedVariables false

theorem mk_bools (n : Nat) (hn : n ≤ 1000000) (w : World) : (Instr.makeSlice 25 (.int .i64 (n : Int)) (.int .i64 (n : Int))).run Try.prog w = .ok (.slice (some ⟨w.heap.size, 0, none⟩) n n) (w.alloc (.cells (bools (List.replicate n false)).toArray 4)) := by
  obtain ⟨i0, hi, hz0, hz1, hz2⟩ := info_parts Try.infoO
  have h := run_makeSlice (P := Try.prog) w 25 4 i0 (.bool false) Try.underlying25 hi hz0 .i64 .i64 (n : Int) (n : Int) (by omega) (by omega) (by rw [hz1]; simp; omega) (by rw [hz2]; omega) (by omega)
  have e : madeCells (Value.bool false).cells n = (bools (List.replicate n false)).toArray := by
    apply Array.ext'
    rw [show (Value.bool false).cells = #[.bool false] from rfl, toList_madeCells_one]
    simp [bools]
  rw [h, hz1]
  simp only [Int.toNat_natCast, Nat.mul_one, e]
theorem bitsOf_zero (m : Nat) : bitsOf (List.replicate m 0) = List.replicate (8 * m) false := by
  apply List.ext_getElem?
  intro q
  by_cases hq : q < 8 * m
  · rw [bitsOf_get _ _ (by simpa using hq), List.getElem?_replicate, if_pos hq, bitAt_bt]
    have : (List.replicate m (0 : Int)).getD (q / 8) 0 = 0 := by
      rw [List.getD_eq_getElem?_getD, List.getElem?_replicate]
      split <;> rfl
    rw [this, bt_all_0 (by omega)]
  · rw [List.getElem?_eq_none (by rw [bitsOf_len]; simp; omega), List.getElem?_eq_none (by simp; omega)]
theorem kind8 (x : Int) : ∃ k : Int, wrap64 ((IntKind.u64.wrap x).tmod 8) = k ∧ 0 ≤ k ∧ k < 8 := by
  refine ⟨_, rfl, ?_⟩
  rw [IntKind.wrap_u64, Int.tmod_eq_emod_of_nonneg (by omega), IntWalk.wrap64_in _ (by omega)]
  omega
theorem steps_apart {w : World} {B : Nat} {v : Value} {M : List Step} {A : Option Addr} {bs : List Bool} {g : Nat} (hs : StepsAt w B v M) (hn : M = [] → v = .slice none 0 0) (hb : BoolsAt w A bs) (hp : 0 < bs.length) (hA : A = some ⟨g, 0, none⟩) : some g ≠ v.ownBlock := fun e => by
  match M, hs, hn with
  | [], hs, hn => rw [hn rfl] at e; cases e
  | s :: M, hs, hn =>
    obtain ⟨g', c, rfl, _, h0, _⟩ := hs.at 0 (by simp)
    cases e
    obtain ⟨g2, e2, _, hc⟩ := hb 0 hp
    rw [hA] at e2
    cases e2
    rw [Nat.mul_zero] at h0
    rw [hc] at h0
    cases h0
theorem tells_apart {w : World} {B : Nat} {v : Value} {P : List (Told × Value)} {A : Option Addr} {bs : List Bool} {g : Nat} (hs : TellsAt w B v P) (hn : P = [] → v = .slice none 0 0) (hb : BoolsAt w A bs) (hp : 2 < bs.length) (hA : A = some ⟨g, 0, none⟩) : some g ≠ v.ownBlock := fun e => by
  match P, hs, hn with
  | [], hs, hn => rw [hn rfl] at e; cases e
  | x :: P, hs, hn =>
    rcases hs.own.2 with ⟨_, hz⟩ | ⟨g', cap, cur, rfl, _, hg, _⟩
    · cases hz
    · cases e
      have h2 := World.ownsRow.cellAt hs.own 2 (by simp; omega)
      obtain ⟨g2, e2, _, hc⟩ := hb 2 hp
      rw [hA] at e2
      cases e2
      rw [hc] at h2
      cases h2
theorem Try.infoS : (Try.prog.info? 29).map (fun i => (i.zero, i.size, i.bytes)) = some (some (.agg #[.int .i64 0, .int .i64 0, .string ⟨#[]⟩]), 3, 32) := by kernel_rfl
theorem cells_at {z : World} {g : Nat} {C : Array Value} {t : TypeId} (h : z.heap[g]? = some (.cells C t (0, 0))) : ∀ j u, C.toList[j]? = some u → z.cell? ((⟨g, 0, none⟩ : Addr).add j) = some u := fun j u hj => by
  have hp : (⟨g, 0, none⟩ : Addr).add j = ⟨g, j, none⟩ := by
    simp [Addr.add]
    exact fun e => e.symm
  rw [hp, cell_of_row _ _ j _ _ _ h]
  simpa using hj
theorem s3_one (s : Step) : ∀ u ∈ (s3 s).toList, u.oneCell' = true := fun u hu => by
  simp only [s3, List.mem_cons, List.not_mem_nil, or_false] at hu
  rcases hu with rfl | rfl | rfl <;> rfl
theorem t5_one {x : Told × Value} (h : x.2.oneCell' = true) : ∀ u ∈ (t5 x).toList, u.oneCell' = true := fun u hu => tcells_one h u hu
theorem nil_both {P : List (Told × Value)} {ys : List Int} {M : List Step} (h : P.map Prod.fst = tellsOf ys M) (hp : P = []) : M = [] := by
  subst hp
  have h9 := congrArg List.length h
  rw [tellsOf_len] at h9
  exact List.eq_nil_of_length_eq_zero h9.symm
theorem rows_at {P2 P : List (Told × Value)} (h : P2.map Prod.fst = P.map Prod.fst) : ∀ j, (h1 : j < P2.length) → (h2 : j < P.length) → ∃ t s1 s2, P2[j] = (t, s1) ∧ P[j] = (t, s2) ∧ True := fun j h1 h2 => by
  have e : (P2.map Prod.fst)[j]? = (P.map Prod.fst)[j]? := by rw [h]
  rw [List.getElem?_map, List.getElem?_map, List.getElem?_eq_getElem h1, List.getElem?_eq_getElem h2] at e
  simp only [Option.map_some, Option.some.injEq] at e
  exact ⟨P2[j].1, P2[j].2, P[j].2, rfl, by rw [e], trivial⟩
theorem TellsAt.at_ {w : World} {B : Nat} {v : Value} {P : List (Told × Value)} (h : TellsAt w B v P) (k : Nat) (hk : k < P.length) :
    ∃ g c, v = .slice (some ⟨g, 0, none⟩) P.length c ∧ g < w.heap.size ∧ w.cell? ⟨g, k * 5, none⟩ = some (.bool P[k].1.ok) ∧ w.cell? ⟨g, k * 5 + 1, none⟩ = some (.bool P[k].1.yes) ∧ w.cell? ⟨g, k * 5 + 2, none⟩ = some (.int .i64 P[k].1.n) ∧ w.cell? ⟨g, k * 5 + 3, none⟩ = some P[k].2 ∧ w.cell? ⟨g, k * 5 + 4, none⟩ = some (.string P[k].1.data) ∧
      w.ownsRow B 61 2 P[k].2 P[k].1.rows.length (flatI P[k].1.rows) := by
  have h' := h.own
  rcases h'.2 with ⟨_, hz⟩ | ⟨g, cap, cur, rfl, hB, hg, hnc, hcm, hcs, htk⟩
  · omega
  · have hat : ∀ j, j < 5 → w.cell? ⟨g, k * 5 + j, none⟩ = (tcells P[k])[j]? := fun j hj => by
      rw [World.ownsRow.cellAt h' (k * 5 + j) (by omega), Nat.mul_comm k 5]
      exact flatT_at P k hk j hj
    exact ⟨g, cap, rfl, (Array.getElem?_eq_some_iff.1 hg).1, hat 0 (by omega), hat 1 (by omega), hat 2 (by omega), hat 3 (by omega), hat 4 (by omega), h.rows _ (List.getElem_mem hk)⟩
theorem row_bound {w : World} {B e size n : Nat} {v : Value} {xs : List Value} (h : w.ownsRow B e size v n xs) : n ≤ 9223372036854775807 := by
  rcases h.2 with ⟨_, rfl⟩ | ⟨g, cap, cur, _, _, _, h1, h2, _⟩
  · omega
  · unfold maxLen at h2
    omega
theorem Frm.below {B : Nat} {w0 W z : World} {vs vt : Value} (h : Frm W vs vt z) (hb : Below B w0 W) (hs : ∀ k, vs.ownBlock = some k → B ≤ k) (ht : ∀ k, vt.ownBlock = some k → B ≤ k) (hB : B ≤ W.heap.size) : Below B w0 z :=
  hb.trans ⟨h.os, h.tape, h.output, h.size, fun k hk => h.blk k (by omega) (fun e => by have := hs k e.symm; omega) (fun e => by have := ht k e.symm; omega)⟩
theorem frm_bools {W z : World} {vs vt : Value} {A : Option Addr} {bs : List Bool} (h : Frm W vs vt z) (hb : BoolsAt W A bs) (h1 : ∀ g, A = some ⟨g, 0, none⟩ → 0 < bs.length → some g ≠ vs.ownBlock) (h2 : ∀ g, A = some ⟨g, 0, none⟩ → 0 < bs.length → some g ≠ vt.ownBlock) : BoolsAt z A bs := fun i hi => by
  obtain ⟨g, e, hg, hc⟩ := hb i hi
  have hk := h.blk g hg (h1 g e (by omega)) (h2 g e (by omega))
  exact ⟨g, e, Nat.lt_of_lt_of_le hg h.size, (World.cell?_of_block (a := ⟨g, i, none⟩) hk).trans hc⟩
theorem frm_row {W z : World} {vs vt : Value} {B n : Nat} {v : Value} {xs : List Value} (h : Frm W vs vt z) (hs : Typed W vs 29) (ht : Typed W vt 33) (ho : W.ownsRow B 61 2 v n xs) : z.ownsRow B 61 2 v n xs := by
  refine ⟨ho.1, ?_⟩
  rcases ho.2 with h3 | ⟨g, cap, cur, e1, e2, e3, r⟩
  · exact .inl h3
  · refine .inr ⟨g, cap, cur, e1, e2, (h.blk g (Array.getElem?_eq_some_iff.1 e3).1 (fun e => ?_) (fun e => ?_)).trans e3, r⟩
    · obtain ⟨C, hC⟩ := hs g e.symm
      rw [e3] at hC
      simp at hC
    · obtain ⟨C, hC⟩ := ht g e.symm
      rw [e3] at hC
      simp at hC
theorem bools_row {w : World} {g : Nat} (bs : List Bool) (h : w.heap[g]? = some (.cells (bools bs).toArray 4 (0, 0))) : BoolsAt w (some ⟨g, 0, none⟩) bs := fun i hi =>
  ⟨g, rfl, (Array.getElem?_eq_some_iff.1 h).1, by rw [cell_of_row _ _ i _ _ _ h, List.getElem?_toArray, bools, List.getElem?_map, getD_get? (d := false) hi]; rfl⟩

set_option maxRecDepth 100000 in
set_option maxHeartbeats 4000000 in
theorem law_any (way n : Int) (data : ByteArray) (A : Option Addr) (c : Nat) (L : List Step) (w : World) (hw0 : 0 ≤ way) (hw1 : way < 256) (hn0 : 0 ≤ n) (hn1 : n < 256) (hd : data.size ≤ 9223372036854775807) (hA : ArgAt w A L) (hL : L.length ≤ 9223372036854775807) (hLc : L.length ≤ c)
    (hok : ∀ s ∈ L, -9223372036854775808 ≤ s.1 ∧ s.1 ≤ 9223372036854775807 ∧ -9223372036854775808 ≤ s.2.1 ∧ s.2.1 ≤ 9223372036854775807) :
    Calls Try.prog 3 #[.int .u8 way, .int .u8 n, .string data, .slice A L.length c] w fun e w' => e = .returned (.bool true) ∧ Below w.heap.size w w' := by
  obtain ⟨zT, hzv⟩ : ∃ z : Value, z = .agg #[.bool false, .bool false, .int .i64 0, .slice none 0 0, .string ⟨#[]⟩] := ⟨_, rfl⟩
  obtain ⟨iT, hiT, hzT, hzT1, hzT2⟩ := info_parts Try.infoT
  rw [← hzv] at hzT
  have hzs0 : zT.cells.size = 5 := by rw [hzv]; rfl
  have HZ0 := Lib.hid hzs0
  have HT2 := Lib.hid hzT2
  obtain ⟨zS, hzw⟩ : ∃ z : Value, z = .agg #[.int .i64 0, .int .i64 0, .string ⟨#[]⟩] := ⟨_, rfl⟩
  obtain ⟨iS, hiS, hzS, hzS1, hzS2⟩ := info_parts Try.infoS
  rw [← hzw] at hzS
  have hzs1 : zS.cells.size = 3 := by rw [hzw]; rfl
  have HSZ0 := Lib.hid hzs1
  have HS2 := Lib.hid hzS2
  clear hzT2 hzv hzs0 hzS2 hzw hzs1
  have HF := Lib.hid (fits3_any A c L w hA hL)
  obtain ⟨nL, hnL⟩ : ∃ nL, nL = L.length := ⟨_, rfl⟩
  rw [← hnL] at hL hLc HF ⊢
  have HNL := Lib.hid hnL
  have HA := Lib.hid hA
  have HOK := Lib.hid hok
  clear hnL hA hok
  by_cases hbig : (data.size : Int) > 2147483647
  · go_enter Try.func3, Try.ntmps3
    go_wp2_with fail
    go_ret
    exact ⟨rfl, Below.refl _ _⟩
  · go_enter Try.func3, Try.ntmps3
    go_wp2_with fail
    refine HF.out.mono ?_
    rintro e w1 ⟨⟨v, rfl, b, rfl⟩, hb1⟩
    have HB1 := Lib.hid hb1
    clear hb1
    cases b with
    | false =>
      go_wp2_with fail
      go_ret
      exact ⟨rfl, HB1.out⟩
    | true =>
      go_upto_region 4 with (fail)
      go_cut [2] from 25 (fun s2 wx => ∃ d : ByteArray, s2 = .string d ∧ d.size ≤ 100 ∧ wx = w1)
      case first =>
        by_cases h100 : (data.size : Int) ≤ 100
        · go_wp2_with fail
          go_meet
          exact ⟨data, rfl, by omega, rfl⟩
        · go_wp2_with fail
          go_meet
          exact ⟨data.extract 0 100, rfl, by simp; omega, rfl⟩
      case rest =>
        obtain ⟨d, rfl, hdz, rfl⟩ := hcut
        obtain ⟨m, hm⟩ : ∃ m : Nat, n % 40 = (m : Int) := ⟨(n % 40).toNat, by omega⟩
        have hm40 : m ≤ 40 := by omega
        rw [hm]
        have hmk : (Instr.makeSlice 25 (.int .i64 (8 * (m : Int))) (.int .i64 (8 * (m : Int)))).run Try.prog wc = _ := mk_bools (8 * m) (by omega) wc
        have hbz : BoolsAt (wc.alloc (.cells (bools (List.replicate (8 * m) false)).toArray 4)) (some ⟨wc.heap.size, 0, none⟩) (bitsOf (List.replicate m 0)) := by
          rw [bitsOf_zero]
          exact bools_row _ (heap_new rfl)
        have HBZ := Lib.hid hbz
        obtain ⟨CB, hCB⟩ : ∃ CB, CB = (bools (List.replicate (8 * m) false)).toArray := ⟨_, rfl⟩
        rw [← hCB] at hmk HBZ
        clear hm hCB hbz
        obtain ⟨wy, hwy⟩ : ∃ wy, wy = way % 3 := ⟨_, rfl⟩
        have hwy3 : wy = 0 ∨ wy = 1 ∨ wy = 2 := by omega
        rw [← hwy]
        clear hwy
        go_upto_block 0 with (fail)
        go_cut [11, 12] from 25 (fun s11 s12 wx => ∃ (A1 : Option Addr) (c1 : Nat) (many : Int) (ys0 : List Int), s11 = .slice A1 (8 * ys0.length) c1 ∧ s12 = .int .i64 many ∧ ys0.length ≤ 100 ∧ Byt ys0 ∧ WayOf wy many d ys0 ∧ BoolsAt wx A1 (bitsOf ys0) ∧ Below w.heap.size w wx)
        case first =>
          have hrl : (List.replicate m (0 : Int)).length = m := List.length_replicate
          have hby : Byt (List.replicate m (0 : Int)) := fun y hy => by
            obtain rfl := List.eq_of_mem_replicate hy
            omega
          have HBY := Lib.hid hby
          have HRL := Lib.hid hrl
          clear hby hrl
          rcases hwy3 with rfl | rfl | rfl
          · go_wp2_with fail
            go_meet
            exact ⟨_, _, _, List.replicate m 0, by rw [HRL.out], rfl, by rw [HRL.out]; omega, HBY.out, .inl ⟨rfl, m, by omega, rfl, rfl⟩, HBZ.out, HB1.out.alloc HB1.out.size _⟩
          · go_wp2_with fail
            go_meet
            exact ⟨_, _, _, List.replicate m 0, by rw [HRL.out], rfl, by rw [HRL.out]; omega, HBY.out, .inr (.inl ⟨rfl, m, by omega, by push_cast; rfl, rfl⟩), HBZ.out, HB1.out.alloc HB1.out.size _⟩
          · go_wp2_with fail
            refine (bitsof_any d _ (by omega)).mono ?_
            rintro e w2 ⟨⟨v, rfl, hown⟩, hb2⟩
            obtain ⟨A1, c1, rfl, hbo⟩ := BoolsAt.ofOwn hown (by rw [bitsOf_len, numS_len])
            have HBO := Lib.hid hbo
            have HB2 := Lib.hid hb2
            clear hown hbo hb2
            go_wp2_with fail
            go_meet
            exact ⟨A1, c1, _, numS d, by rw [numS_len], rfl, by rw [numS_len]; exact hdz, numS_byt d, .inr (.inr ⟨rfl, by omega, rfl, by omega⟩), HBO.out, (HB1.out.alloc HB1.out.size _).trans (HB2.out.mono (by have := HB1.out.size; simp; omega))⟩
        case rest =>
          obtain ⟨A1, c1, many, ys0, rfl, rfl, hy0, hby0, hway, hbo, hbw⟩ := hcut
          have HBY0 := Lib.hid hby0
          have HWAY := Lib.hid hway
          have HBO := Lib.hid hbo
          have HBW := Lib.hid hbw
          clear hby0 hway hbo hbw HBZ HB1 HF hmk
          go_upto_region 13 with (fail)
          go_cut [61, 62, 63] from 25 (fun s61 s62 s63 wx => ∃ nr : Nat, nr ≤ 30 ∧ nr ≤ nL ∧ s61 = .slice A nr c ∧ s62 = .int .i64 nr ∧ s63 = .int .i64 0 ∧ wx = wc)
          case first =>
            have hc0 : (nL : Int) ≤ (c : Int) := by omega
            by_cases h30 : (nL : Int) ≤ 30
            · go_wp2_with fail
              go_meet
              exact ⟨nL, by omega, by omega, by simp, rfl, rfl, rfl⟩
            · have hc1 : (30 : Int) ≤ (c : Int) := by omega
              go_wp2_with fail
              go_meet
              exact ⟨30, by omega, by omega, by simp, rfl, rfl, rfl⟩
          case rest =>
            obtain ⟨nr, hr30, hrn, rfl, rfl, rfl, rfl⟩ := hcut
            go_wp2_with fail
            go_loopw [11, 13, 14, 63] (fun vm vs vt i wr => ∃ (k : Nat) (M : List Step) (P : List (Told × Value)) (A2 : Option Addr) (c2 : Nat), k ≤ nr ∧ i = .int .i64 k ∧ M.length ≤ k ∧ (∀ s ∈ M, OkStep s) ∧ saidAll ys0 M ∧ (M = [] → vs = .slice none 0 0 ∧ vt = .slice none 0 0) ∧ vm = .slice A2 (8 * (afterOf ys0 M).length) c2 ∧ BoolsAt wr A2 (bitsOf (afterOf ys0 M)) ∧ StepsAt wr w.heap.size vs M ∧ P.map Prod.fst = tellsOf ys0 M ∧ TellsAt wr w.heap.size vt P ∧ Below w.heap.size w wr) (fun _ _ _ i _ => nr - (intOf i).toNat)
            case atStart => exact ⟨0, [], [], A1, c1, by omega, by go_num, by simp, by simp, trivial, fun _ => ⟨rfl, rfl⟩, rfl, HBO.out, World.ownsRow_nil _ _ _ _, rfl, TellsAt.nil _ _, HBW.out⟩
            case round =>
              obtain ⟨k, M, P, A2, c2, hk, rfl, hMk, hMok, hMs, hMn, rfl, hbo, hst, hP, htl, hbl⟩ := hrel
              have HMOK := Lib.hid hMok
              have HMS := Lib.hid hMs
              have HMN := Lib.hid hMn
              have HBO2 := Lib.hid hbo
              have HST := Lib.hid hst
              have HP := Lib.hid hP
              have HTL := Lib.hid htl
              have HBL := Lib.hid hbl
              clear hMok hMs hMn hbo hst hP htl hbl
              by_cases hlt : k < nr
              · have hkL : k < L.length := by rw [← HNL.out]; omega
                obtain ⟨a, rfl, hal, ca, cb, cc⟩ := HA.out k hkL
                have hq : (a.add (k * 3)).block < w.heap.size := by rw [addr_block]; exact hal
                rw [← HBL.out.cell (p := a.add (k * 3)) hq] at ca
                rw [← HBL.out.cell (p := ⟨(a.add (k * 3)).block, (a.add (k * 3)).off + 1, none⟩) hq] at cb
                rw [← HBL.out.cell (p := ⟨(a.add (k * 3)).block, (a.add (k * 3)).off + 2, none⟩) hq] at cc
                have hb := HOK.out L[k] (List.getElem_mem hkL)
                obtain ⟨xk, hxk⟩ : ∃ x, x = L[k].1 := ⟨_, rfl⟩
                obtain ⟨sa, hsa⟩ : ∃ x, x = L[k].2.1 := ⟨_, rfl⟩
                obtain ⟨xd, hxd⟩ : ∃ x, x = L[k].2.2 := ⟨_, rfl⟩
                rw [← hxk] at ca hb
                rw [← hsa] at cb hb
                rw [← hxd] at cc
                obtain ⟨hb0, hb1, hb2, hb3⟩ := hb
                clear hxk hsa hxd
                obtain ⟨sk, hsk, hsk0, hsk8⟩ := kind8 xk
                go_upto_region 17 with (fail)
                rw [hsk]
                clear hsk ca cb cc
                go_cut [63] from 63 to 98 (fun s63 wx => ∃ sd : ByteArray, s63 = .int .i64 k ∧ sd.size ≤ 100 ∧ wx = wr.alloc (.cells #[.int .i64 sk, .int .i64 sa, .string sd] 29))
                case first =>
                  by_cases h100 : (xd.size : Int) ≤ 100
                  · go_wp2_with fail
                    go_meet
                    exact ⟨xd, rfl, by omega, rfl⟩
                  · go_wp2_with fail
                    go_meet
                    exact ⟨xd.extract 0 100, rfl, by simp; omega, rfl⟩
                case rest =>
                  obtain ⟨sd, rfl, hsd, hwc⟩ := hcut
                  obtain ⟨zs, hzs⟩ : ∃ x, x = afterOf ys0 M := ⟨_, rfl⟩
                  rw [← hzs] at HBO2 ⊢
                  have hzl : zs.length ≤ 1000 := by
                    rw [hzs]
                    exact afterOf_len _ _ (by omega) HMOK.out
                  have hzb : Byt zs := by
                    rw [hzs]
                    exact afterOf_byt _ _ HBY0.out
                  have HZB := Lib.hid hzb
                  have HZS := Lib.hid hzs
                  obtain ⟨b16, hb16⟩ : ∃ x, x = wr.heap.size := ⟨_, rfl⟩
                  rw [← hb16]
                  have hbx : wc.heap[b16]? = some (.cells #[.int .i64 sk, .int .i64 sa, .string sd] 29 (0, 0)) := by
                    rw [hwc]
                    exact heap_new hb16
                  have hbw2 : Below wr.heap.size wr wc := by
                    rw [hwc]
                    exact (Below.refl _ _).alloc (Nat.le_refl _) _
                  have hszc : wc.heap.size = b16 + 1 := by
                    rw [hwc, hb16]
                    simp
                  have HDO := Lib.hid (do_any A2 c2 zs sk sa sd wc ⟨hsk0, hsk8⟩ (by omega) HZB.out hzl (HBO2.out.below hbw2))
                  have hok2 : OkStep (sk, sa, sd) := ⟨hsk0, hsk8, hb2, hb3, Nat.le_trans hsd (by decide)⟩
                  have m0 := cell_of_row _ _ 0 _ _ _ hbx
                  have m1 := cell_of_row _ _ 1 _ _ _ hbx
                  have m2 := cell_of_row _ _ 2 _ _ _ hbx
                  have HOK2 := Lib.hid hok2
                  have HBX := Lib.hid hbx
                  have HWR := Lib.hid hbw2
                  have HSZC := Lib.hid hszc
                  have HB16 := Lib.hid hb16
                  clear hwc hbw2 hok2 hbx hszc hb16 hb0 hb1 hb2 hb3 hzs hzb hal hq
                  go_wp2_with fail
                  refine HDO.out.mono ?_
                  rintro e w3 ⟨⟨tv, A3, c3, rfl, hbo3, ⟨sl, rfl, hsl⟩⟩, hb3⟩
                  obtain ⟨A5, c5, rfl⟩ := own_shape hsl
                  obtain ⟨zs2, hzs2⟩ : ∃ x, x = behind zs sk sa sd := ⟨_, rfl⟩
                  rw [← hzs2] at hbo3 ⊢
                  obtain ⟨t, ht⟩ : ∃ x, x = tell zs sk sa sd := ⟨_, rfl⟩
                  rw [← ht] at hsl ⊢
                  have hbw3 : Below wr.heap.size wr w3 := HWR.out.trans (hb3.mono HWR.out.size)
                  have hbx3 : w3.heap[b16]? = some (.cells #[.int .i64 sk, .int .i64 sa, .string sd] 29 (0, 0)) := (hb3.block b16 (by rw [HSZC.out]; omega)).trans HBX.out
                  have hb3s := hb3.size
                  have HBO3 := Lib.hid hbo3
                  have HSL := Lib.hid (own_base hsl (show w.heap.size ≤ wc.heap.size from Nat.le_trans HBL.out.size HWR.out.size))
                  have HW3 := Lib.hid hbw3
                  have HBX3 := Lib.hid hbx3
                  have HZ2 := Lib.hid hzs2
                  have HT := Lib.hid ht
                  have HB3S := Lib.hid hb3s
                  clear hbo3 hsl hb3 hbw3 hbx3 hzs2 ht hb3s m0 m1 m2
                  cases hsd2 : saidB zs sk sa with
                  | false =>
                    have HSD := Lib.hid hsd2
                    clear hsd2
                    go_wp2_with fail
                    go_roundw
                    case rel =>
                      have hb4 := HW3.out.alloc HW3.out.size (.cells #[.bool t.ok, .bool t.yes, .int .i64 t.n, .slice A5 t.rows.length c5, .string t.data] 33)
                      exact ⟨k + 1, M, P, A2, c2, by omega, by go_num, by omega, HMOK.out, HMS.out, HMN.out, by rw [HZS.out], by rw [← HZS.out]; exact HBO2.out.below hb4, own_below HST.out hb4, HP.out, HTL.out.below hb4, HBL.out.trans (hb4.mono HBL.out.size)⟩
                    case measure => simp [intOf]; omega
                  | true =>
                    have HSD := Lib.hid hsd2
                    clear hsd2
                    go_wp2_with fail
                    obtain ⟨b17, hb17⟩ : ∃ x, x = w3.heap.size := ⟨_, rfl⟩
                    rw [← hb17]
                    obtain ⟨W4, hW4⟩ : ∃ W4, W4 = w3.alloc (.cells #[.bool t.ok, .bool t.yes, .int .i64 t.n, .slice A5 t.rows.length c5, .string t.data] 33) := ⟨_, rfl⟩
                    rw [← hW4]
                    have hb4 : Below wr.heap.size wr W4 := by
                      rw [hW4]
                      exact HW3.out.alloc HW3.out.size _
                    have hbx4 : W4.heap[b16]? = some (.cells #[.int .i64 sk, .int .i64 sa, .string sd] 29 (0, 0)) := by
                      rw [hW4]
                      exact (Below.heap_alloc _ _ _ (Array.getElem?_eq_some_iff.1 HBX3.out).1).trans HBX3.out
                    have htx4 : W4.heap[b17]? = some (.cells #[.bool t.ok, .bool t.yes, .int .i64 t.n, .slice A5 t.rows.length c5, .string t.data] 33 (0, 0)) := by
                      rw [hW4]
                      exact heap_new hb17
                    have hbo4 : BoolsAt W4 A3 (bitsOf zs2) := by
                      rw [hW4]
                      exact HBO3.out.below ((Below.refl _ _).alloc (Nat.le_refl _) _)
                    have hsl4 : W4.ownsRow w.heap.size 61 2 (.slice A5 t.rows.length c5) t.rows.length (flatI t.rows) := by
                      rw [hW4]
                      exact HSL.out.alloc _
                    have hst4 : StepsAt W4 w.heap.size u13 M := own_below HST.out hb4
                    have htl4 : TellsAt W4 w.heap.size u14 P := HTL.out.below hb4
                    have hvs : ∀ k, u13.ownBlock = some k → w.heap.size ≤ k ∧ k < wr.heap.size := World.ownsRow.lt HST.out
                    have hvt : ∀ k, u14.ownBlock = some k → w.heap.size ≤ k ∧ k < wr.heap.size := World.ownsRow.lt HTL.out.own
                    have hTS : Typed W4 u13 29 := typed_own hst4
                    have hTT : Typed W4 u14 33 := typed_own htl4.own
                    have hPl : P.length ≤ 30 := by
                      have h9 := congrArg List.length HP.out
                      rw [List.length_map, tellsOf_len] at h9
                      omega
                    have hws4 : w.heap.size ≤ W4.heap.size := Nat.le_trans HBL.out.size hb4.size
                    have hw17 : wr.heap.size ≤ w3.heap.size := HW3.out.size
                    have hn16 : ∀ v : Value, (∀ k, v.ownBlock = some k → w.heap.size ≤ k ∧ k < wr.heap.size) → some b16 ≠ v.ownBlock ∧ some b17 ≠ v.ownBlock := fun v hv => ⟨fun e => by
                      have h9 := (hv b16 e.symm).2
                      have h8 := HB16.out
                      omega, fun e => by
                      have h9 := (hv b17 e.symm).2
                      omega⟩
                    obtain ⟨hns, hns7⟩ := hn16 u13 hvs
                    obtain ⟨hnt, hnt7⟩ := hn16 u14 hvt
                    have hl16 : b16 < W4.heap.size := (Array.getElem?_eq_some_iff.1 hbx4).1
                    have hl17 : b17 < W4.heap.size := (Array.getElem?_eq_some_iff.1 htx4).1
                    have hsN : ∀ z : World, W4.heap.size ≤ z.heap.size → some z.heap.size ≠ u13.ownBlock ∧ some z.heap.size ≠ u14.ownBlock := fun z hz => ⟨fun e => by
                      have h9 := (hvs _ e.symm).2
                      have h8 := hb4.size
                      omega, fun e => by
                      have h9 := (hvt _ e.symm).2
                      have h8 := hb4.size
                      omega⟩
                    clear hW4 hb17 hn16 hw17
                    refine wp_region_turn (by kernel_rfl) (Frm W4 u13 u14) (ExtOf u13 u14) (F20 w.heap.size (sk, sa, sd) M P (t, .slice A5 t.rows.length c5) u13 u14 (.slice A3 (8 * zs2.length) c3)) (G20 w.heap.size M P u13 u14) (by kernel_rfl) (fun i z1 z2 h he => h.next he) ?_ (fun i k z1 z2 hik h he hg => G20_keep hTS hTT hik h he hg) (Frm.start _ _ _) ?_ ⟨⟨rfl, ?_⟩, ⟨rfl, ?_⟩, ⟨rfl, ?_⟩, ⟨rfl, ?_⟩, ⟨rfl, ?_⟩, ⟨rfl, ?_⟩, ⟨rfl, ?_⟩, ⟨rfl, ?_⟩, ⟨rfl, ?_⟩, ⟨rfl, ?_⟩, ⟨rfl, ?_⟩, ⟨rfl, ?_⟩, trivial⟩ ?_
                    · intro i k v z1 z2 hik hdep h he hf
                      refine F20_keep hTS hTT hik ?_ ?_ h he hf
                      · rintro ⟨rfl, rfl⟩
                        cases hdep.symm.trans (by kernel_rfl : depAt _ 9 3 = true)
                      · rintro ⟨rfl, rfl⟩
                        cases hdep.symm.trans (by kernel_rfl : depAt _ 10 7 = true)
                    · intro i
                      unfold G20
                      split
                      · exact hst4
                      · exact htl4.own
                      · trivial
                    · intro a z K hB hG hd hs hK
                      have d13 : a.tmps.getD 13 undef = u13 := hs 13 rfl
                      clear hd hs hG
                      go_simp
                      exact hK _ _ rfl (ExtOf.refl _ _ _ _)
                    · intro a z K hB hG hd hs hK
                      have d16 : a.tmps.getD 16 undef = .pointer (some ⟨b16, 0, none⟩) := hs 16 rfl
                      have hz := (hB.blk b16 hl16 hns hnt).trans hbx4
                      have c0 := cell_of_row _ _ 0 _ _ _ hz
                      have c1 := cell_of_row _ _ 1 _ _ _ hz
                      have c2 := cell_of_row _ _ 2 _ _ _ hz
                      clear hd hs hG hz
                      go_simp
                      exact hK _ _ rfl (ExtOf.refl _ _ _ _)
                    · intro a z K hB hG hd hs hK
                      have d90 : a.tmps.getD 90 undef = .agg #[.int .i64 sk, .int .i64 sa, .string sd] := hd 1 rfl
                      have e90 : a.tmps[90]?.getD undef = .agg #[.int .i64 sk, .int .i64 sa, .string sd] := by simpa using d90
                      clear hd hs hG
                      go_simp
                      exact hK _ _ ⟨_, rfl, heap_new rfl, (hsN z hB.size).1⟩ (ExtOf.alloc _ _ _ _ _)
                    · intro a z K hB hG hd hs hK
                      have d89 : a.tmps.getD 89 undef = u13 := hd 0 rfl
                      obtain ⟨g91, d91, hg91, hn91⟩ := hd 2 rfl
                      clear hs hd
                      refine wp_append_kinds z _ _ 22 rfl w.heap.size 29 iS zS 3 32 Try.underlying22 hiS hzS hzS1 HS2.out HSZ0.out (by decide) u13 M.length (flatS M) d89 hG ⟨g91, 0, none⟩ 1 1 (s3 (sk, sa, sd)).toList d91 rfl (cells_at hg91) (s3_one _) (by omega) (by unfold maxLen; omega) (by omega) (Nat.le_trans hws4 hB.size) ?_
                      intro v' z' h1 h2 h3
                      exact hK _ _ h1 ⟨h2, h3⟩
                    · intro a z K hB hG hd hs hK
                      have d14 : a.tmps.getD 14 undef = u14 := hs 14 rfl
                      clear hd hs hG
                      go_simp
                      exact hK _ _ rfl (ExtOf.refl _ _ _ _)
                    · intro a z K hB hG hd hs hK
                      have d17 : a.tmps.getD 17 undef = .pointer (some ⟨b17, 0, none⟩) := hs 17 rfl
                      have hz := (hB.blk b17 hl17 hns7 hnt7).trans htx4
                      have c0 := cell_of_row _ _ 0 _ _ _ hz
                      have c1 := cell_of_row _ _ 1 _ _ _ hz
                      have c2 := cell_of_row _ _ 2 _ _ _ hz
                      have c3 := cell_of_row _ _ 3 _ _ _ hz
                      have c4 := cell_of_row _ _ 4 _ _ _ hz
                      clear hd hs hG hz
                      go_simp
                      exact hK _ _ rfl (ExtOf.refl _ _ _ _)
                    · intro a z K hB hG hd hs hK
                      have d94 : a.tmps.getD 94 undef = .agg #[.bool t.ok, .bool t.yes, .int .i64 t.n, .slice A5 t.rows.length c5, .string t.data] := hd 5 rfl
                      have e94 : a.tmps[94]?.getD undef = .agg #[.bool t.ok, .bool t.yes, .int .i64 t.n, .slice A5 t.rows.length c5, .string t.data] := by simpa using d94
                      clear hd hs hG
                      go_simp
                      exact hK _ _ ⟨_, rfl, heap_new rfl, (hsN z hB.size).2⟩ (ExtOf.alloc _ _ _ _ _)
                    · intro a z K hB hG hd hs hK
                      have d93 : a.tmps.getD 93 undef = u14 := hd 4 rfl
                      obtain ⟨g95, d95, hg95, hn95⟩ := hd 6 rfl
                      clear hs hd
                      refine wp_append_kinds z _ _ 27 rfl w.heap.size 33 iT zT 5 56 Try.underlying27 hiT hzT hzT1 HT2.out HZ0.out (by decide) u14 P.length (flatT P) d93 hG ⟨g95, 0, none⟩ 1 1 (t5 (t, .slice A5 t.rows.length c5)).toList d95 rfl (cells_at hg95) (t5_one rfl) (by omega) (by unfold maxLen; omega) (by omega) (Nat.le_trans hws4 hB.size) ?_
                      intro v' z' h1 h2 h3
                      exact hK _ _ h1 ⟨h2, h3⟩
                    · intro a z K hB hG hd hs hK
                      have d18 : a.tmps.getD 18 undef = .slice A3 (8 * zs2.length) c3 := hs 18 rfl
                      clear hd hs hG
                      go_simp
                      exact hK _ _ rfl (ExtOf.refl _ _ _ _)
                    · intro a z K hB hG hd hs hK
                      have h3 : z.ownsRow w.heap.size 29 3 (a.tmps.getD 92 undef) (M.length + 1) (flatS M ++ (s3 (sk, sa, sd)).toList) := hd 3 rfl
                      obtain ⟨y, hy⟩ : ∃ y, a.tmps.getD 92 undef = y := ⟨_, rfl⟩
                      rw [hy] at h3
                      clear hd hs hG
                      go_simp
                      exact hK _ _ h3 (ExtOf.refl _ _ _ _)
                    · intro a z K hB hG hd hs hK
                      have h3 : z.ownsRow w.heap.size 33 5 (a.tmps.getD 96 undef) (P.length + 1) (flatT P ++ (t5 (t, .slice A5 t.rows.length c5)).toList) := hd 7 rfl
                      obtain ⟨y, hy⟩ : ∃ y, a.tmps.getD 96 undef = y := ⟨_, rfl⟩
                      rw [hy] at h3
                      clear hd hs hG
                      go_simp
                      exact hK _ _ h3 (ExtOf.refl _ _ _ _)
                    · intro a z K hB hG hd hs hK
                      have d97 : a.tmps.getD 97 undef = .slice A3 (8 * zs2.length) c3 := hd 8 rfl
                      clear hd hs hG
                      go_simp
                      exact hK _ _ rfl (ExtOf.refl _ _ _ _)
                    · intro a W5 hB hsz hdf hf hs
                      obtain ⟨f, hf0, hact⟩ := act_upd (ds := [89, 90, 91, 92, 93, 94, 95, 96, 97, 13, 14, 11]) (by kernel_rfl) hsz hdf hs
                      have o13 : W5.ownsRow w.heap.size 29 3 (f 13) (M.length + 1) (flatS M ++ [.int .i64 sk, .int .i64 sa, .string sd]) := by rw [hf0]; exact hf 9 rfl
                      have o14 : W5.ownsRow w.heap.size 33 5 (f 14) (P.length + 1) (flatT P ++ tcells (t, .slice A5 t.rows.length c5)) := by rw [hf0]; exact hf 10 rfl
                      have o11 : f 11 = .slice A3 (8 * zs2.length) c3 := by rw [hf0]; exact hf 11 rfl
                      simp only [List.foldl_cons, List.foldl_nil, List.setIfInBounds_toArray, List.set_cons_zero, List.set_cons_succ] at hact
                      rw [hact, o11]
                      clear hact hsz hdf hf hs hf0 o11
                      have hbo5 : BoolsAt W5 A3 (bitsOf zs2) := frm_bools hB hbo4 (fun g e hp => steps_apart hst4 (fun h => (HMN.out h).1) hbo4 hp e) (fun g e hp => tells_apart htl4 (fun h => (HMN.out (nil_both HP.out h)).2) hbo4 (by rw [bitsOf_len] at hp ⊢; omega) e)
                      have hbl5 : Below w.heap.size w W5 := hB.below (HBL.out.trans (hb4.mono HBL.out.size)) (fun k hk => (hvs k hk).1) (fun k hk => (hvt k hk).1) hws4
                      have hsl5 : W5.ownsRow w.heap.size 61 2 (.slice A5 t.rows.length c5) t.rows.length (flatI t.rows) := frm_row hB hTS hTT hsl4
                      have hrw5 : ∀ x ∈ P, W5.ownsRow w.heap.size 61 2 x.2 x.1.rows.length (flatI x.1.rows) := fun x hx => frm_row hB hTS hTT (htl4.rows x hx)
                      have HBO5 := Lib.hid hbo5
                      have HBL5 := Lib.hid hbl5
                      have HSL5 := Lib.hid hsl5
                      have HRW5 := Lib.hid hrw5
                      have HO13 := Lib.hid o13
                      have HO14 := Lib.hid o14
                      clear hbo5 hbl5 hsl5 hrw5 o13 o14 hB hb4 hbx4 htx4 hbo4 hsl4 hst4 htl4 hvs hvt hTS hTT hns hnt hns7 hnt7 hsN
                      go_wp2_with fail
                      go_roundw
                      case rel =>
                        refine ⟨k + 1, M ++ [(sk, sa, sd)], P ++ [(t, .slice A5 t.rows.length c5)], A3, c3, by omega, by go_num, by rw [List.length_append]; simp; omega, ?_, (saidAll_snoc _ _ _).2 ⟨HMS.out, by rw [← HZS.out]; exact HSD.out⟩, fun h => by simp at h, ?_, ?_, ?_, ?_, ⟨?_, ?_⟩, HBL5.out⟩
                        · intro x hx
                          rcases List.mem_append.1 hx with hx | hx
                          · exact HMOK.out x hx
                          · obtain rfl := List.mem_singleton.1 hx
                            exact HOK2.out
                        · rw [afterOf_snoc, ← HZS.out, ← HZ2.out]
                        · rw [afterOf_snoc, ← HZS.out, ← HZ2.out]
                          exact HBO5.out
                        · unfold StepsAt
                          rw [flatS_snoc, List.length_append]
                          exact HO13.out
                        · rw [List.map_append, HP.out, tellsOf_snoc, ← HZS.out, ← HT.out]
                          rfl
                        · rw [flatT_snoc, List.length_append]
                          exact HO14.out
                        · intro x hx
                          rcases List.mem_append.1 hx with hx | hx
                          · exact HRW5.out x hx
                          · obtain rfl := List.mem_singleton.1 hx
                            exact HSL5.out
                      case measure => simp [intOf]; omega
              · obtain rfl : k = nr := by omega
                have hst0 : StepsAt wr 0 u13 M := own_base HST.out (Nat.zero_le _)
                obtain ⟨A6, c6, hu13⟩ := own_shape hst0
                rw [hu13] at hst0
                have hBits := bits_any wy many d ys0 A6 c6 M wr HWAY.out (by omega) (by omega) HMOK.out (by omega) HMS.out hst0
                rw [← hu13] at hBits
                have HBITS := Lib.hid hBits
                clear hst0 hu13 hBits
                go_wp2_with fail
                refine HBITS.out.mono ?_
                rintro e w2 ⟨v, P2, rfl, hP2, htl2, hb2⟩
                obtain ⟨A7, c7, rfl⟩ := own_shape htl2.own
                have htl1 := HTL.out.below hb2
                obtain ⟨A8, c8, rfl⟩ := own_shape htl1.own
                have hPP : P2.map Prod.fst = P.map Prod.fst := hP2.trans HP.out.symm
                have hPl : P2.length = P.length := by
                  have h9 := congrArg List.length hPP
                  simpa using h9
                obtain ⟨q, hq⟩ : ∃ q, q = P.length := ⟨_, rfl⟩
                have hq2 : P2.length = q := by rw [hPl, hq]
                rw [hq2, ← hq]
                have hq30 : q ≤ 30 := by
                  have h9 := congrArg List.length HP.out
                  rw [List.length_map, tellsOf_len] at h9
                  omega
                have HPP := Lib.hid hPP
                have HQ := Lib.hid hq
                have HQ2 := Lib.hid hq2
                have HT1 := Lib.hid htl1
                have HT2' := Lib.hid htl2
                have HB2 := Lib.hid hb2
                have HRT := Lib.hid (rows_at hPP)
                clear hP2 htl2 htl1 hPP hPl hq hq2 hb2
                go_wp2_with fail
                go_loopw [118] (fun i wz => ∃ j : Nat, j ≤ q ∧ i = .int .i64 j ∧ Below w2.heap.size w2 wz) (fun i _ => q - (intOf i).toNat)
                case atStart => exact ⟨0, by omega, by go_num, Below.refl _ _⟩
                case round =>
                  obtain ⟨j, hj, rfl, hbz⟩ := hrel
                  have HBZ2 := Lib.hid hbz
                  clear hbz
                  by_cases hjq : j < q
                  · have h1j : j < P2.length := by rw [HQ2.out]; exact hjq
                    have h2j : j < P.length := by rw [← HQ.out]; exact hjq
                    obtain ⟨t, s1, s2, ep1, ep2, ht3⟩ := HRT.out j h1j h2j
                    have hT1 := HT2'.out.below HBZ2.out
                    have hT2 := HT1.out.below HBZ2.out
                    obtain ⟨g1, cc1, e1, l1, x0, x1, x2, x3, x4, ho1⟩ := hT1.at_ j h1j
                    obtain ⟨g2, cc2, e2, l2, y0, y1, y2, y3, y4, ho2⟩ := hT2.at_ j h2j
                    rw [ep1] at x0 x1 x2 x3 x4 ho1
                    rw [ep2] at y0 y1 y2 y3 y4 ho2
                    cases e1
                    cases e2
                    obtain ⟨ok, yes, tn, rows, td⟩ := t
                    dsimp only at x0 x1 x2 x3 x4 y0 y1 y2 y3 y4 ho1 ho2
                    obtain ⟨A9, c9, rfl⟩ := own_shape ho1
                    obtain ⟨A10, c10, rfl⟩ := own_shape ho2
                    have hrl : rows.length ≤ 9223372036854775807 := row_bound ho1
                    have HO1 := Lib.hid ho1
                    have HO2 := Lib.hid ho2
                    clear ep1 ep2 ho1 ho2 hT1 hT2 ht3 h1j h2j
                    have l2' : g2 < wr.heap.size + 1 := by omega
                    go_wp2_with fail
                    refine (same_any _ _ rows A9 A10 c9 c10 _ ((HO1.out.alloc _).alloc _) ((HO2.out.alloc _).alloc _) hrl).mono ?_
                    rintro e w9 ⟨rfl, hb9⟩
                    have HB9 := Lib.hid hb9
                    clear hb9
                    go_wp2_with fail
                    go_roundw
                    case rel => exact ⟨j + 1, by omega, by go_num, ((HBZ2.out.alloc HBZ2.out.size _).alloc (by have := HBZ2.out.size; simp; omega) _).trans (HB9.out.mono (by have := HBZ2.out.size; simp; omega))⟩
                    case measure => simp [intOf]; omega
                  · obtain rfl : j = q := by omega
                    go_wp2_with fail
                    refine (awake_any wr).mono ?_
                    rintro e w9 ⟨rfl, hb9⟩
                    have HB9 := Lib.hid hb9
                    clear hb9
                    go_wp2_with fail
                    go_ret
                    exact ⟨rfl, ((HBL.out.trans (HB2.out.mono HBL.out.size)).trans (HBZ2.out.mono (Nat.le_trans HBL.out.size HB2.out.size))).trans (HB9.out.mono (Nat.le_trans (Nat.le_trans HBL.out.size HB2.out.size) HBZ2.out.size))⟩
end Go.Proofs.Ytbajengoblcmnaa
