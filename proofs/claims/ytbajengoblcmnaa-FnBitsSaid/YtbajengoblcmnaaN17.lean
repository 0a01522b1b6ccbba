/- Walk of impl.Bits. -/
import Derived.Test.YtbajengoblcmnaaN16
import Derived.Laws.BytesArg
import Derived.Laws.IdiomStrings
import Derived.Outline
import Derived.Deep.DeepCutAuto
import Derived.Deep.CutBlock
namespace Go.Proofs.Ytbajengoblcmnaa
open Go.RowKit
set_option linter.unusedVariables false

/-- '[]byte(s)' -/
theorem conv_src (w : World) (s : ByteArray) : ∃ (cap : Nat) (W : World), (convert 9 48 (.string s)).run Try.prog w = .ok (.slice (some ⟨w.heap.size, 0, none⟩) (numS s).length cap) W ∧ Below w.heap.size w W ∧ w.heap.size < W.heap.size ∧ Src W w.heap.size (numS s) := by
  have h := run_bytes_of_string (P := Try.prog) w 9 48 5 s Try.underlying9 Try.underlying48 Try.underlying5
  have hcap := grownCap_ge w s.size 0 5
  generalize hcv : grownCap w s.size 0 5 = cap at h hcap
  obtain ⟨R, hR⟩ : ∃ R, R = bytesRow s cap := ⟨_, rfl⟩
  rw [← hR] at h
  have hheap : (w.drew.alloc (.cells R 5 (R.size, R.size + 1))).heap[w.heap.size]? = some (.cells R 5 (R.size, R.size + 1)) := heap_alloc_new w.drew _
  refine ⟨cap, _, by rw [numS_len]; exact h, (Below.refl _ _).drew.alloc (Nat.le_refl _) _, by simp, ?_⟩
  intro i hi
  rw [numS_len] at hi
  have hd : i < s.data.size := hi
  have hc : (w.drew.alloc (.cells R 5 (R.size, R.size + 1))).cell? ⟨w.heap.size, i, none⟩ = R[i]? := cell_of_row _ _ _ _ _ _ hheap
  rw [hc, hR, bytesRow, Array.getElem?_append_left (by simpa using hd), Array.getElem?_map, Array.getElem?_eq_getElem hd]
  simp only [Option.map_some]
  congr 2
  exact numS_at s i hi

theorem Try.infoT : (Try.prog.info? 33).map (fun i => (i.zero, i.size, i.bytes)) = some (some (.agg #[.bool false, .bool false, .int .i64 0, .slice none 0 0, .string ⟨#[]⟩]), 5, 56) := by kernel_rfl
theorem cells_new {w : World} (C : Array Value) {t : TypeId} {n : Nat} (hn : n = w.heap.size) : ∀ j u, C.toList[j]? = some u → (w.alloc (.cells C t)).cell? ((⟨n, 0, none⟩ : Addr).add j) = some u := fun j u hj => by
  have hp : (⟨n, 0, none⟩ : Addr).add j = ⟨n, j, none⟩ := by
    simp [Addr.add]
    exact fun e => e.symm
  rw [hp, cell_of_row _ _ j _ _ _ (heap_new hn)]
  simpa using hj
theorem tcells_one {x : Told × Value} (h : x.2.oneCell' = true) : ∀ u ∈ tcells x, u.oneCell' = true := fun u hu => by
  simp only [tcells, List.mem_cons, List.not_mem_nil, or_false] at hu
  rcases hu with rfl | rfl | rfl | rfl | rfl
  · rfl
  · rfl
  · rfl
  · exact h
  · rfl

theorem freeOf_len (bs : List Bool) : (freeOf bs).length ≤ bs.length + 1 := by
  have := (scan_bd bs bs.length).1
  unfold freeOf scanEnd
  split
  · omega
  · rw [List.length_append]
    simp
    omega
theorem flatI_take {rows : List (Int × Int)} {j : Nat} (h : j < rows.length) : flatI (rows.take (j + 1)) = flatI (rows.take j) ++ [.int .i64 rows[j].1, .int .i64 rows[j].2] := by
  rw [take_snoc h, flatI, List.flatMap_append]
  rfl
theorem flatI_at (rows : List (Int × Int)) : ∀ k, (h : k < rows.length) → (flatI rows)[k * 2]? = some (.int .i64 rows[k].1) ∧ (flatI rows)[k * 2 + 1]? = some (.int .i64 rows[k].2) := by
  induction rows with
  | nil => intro k h; simp at h
  | cons x L ih =>
    intro k h
    cases k with
    | zero => exact ⟨rfl, rfl⟩
    | succ k =>
      have h' : k < L.length := by simpa using h
      obtain ⟨h1, h2⟩ := ih k h'
      simp only [flatI, List.flatMap_cons] at *
      refine ⟨?_, ?_⟩
      · rw [List.getElem?_append_right (by simp; omega)]
        simp only [List.length_cons, List.length_nil, List.getElem_cons_succ]
        rw [← h1]; congr 1; omega
      · rw [List.getElem?_append_right (by simp; omega)]
        simp only [List.length_cons, List.length_nil, List.getElem_cons_succ]
        rw [← h2]; congr 1; omega
def cellD (w : World) (a : Addr) : Value := (w.cell? a).getD undef
theorem heldS {w0 w : World} {g h s : Nat} {zs : List Int} {v : Value} {P : List (Told × Value)} {C : Array Value} {x0 x1 x2 : Value} (m : Mid w0 w g h (s + 1) zs v P C) (hb : w.heap[s]? = some (.cells #[x0, x1, x2] 29 (0, 0))) (hC : 0 < C.size := by decide) :
    w.cell? ⟨s, 1, none⟩ = some x1 ∧ w.cell? ⟨s + 1, 0, none⟩ = some (cellD w ⟨s + 1, 0, none⟩) ∧ w.frozen? ⟨s + 1, 0, none⟩ = false := by
  refine ⟨cell_of_row _ _ 1 _ _ _ hb, ?_, m.frz 0⟩
  have h0 := m.cell 0
  rw [Array.getElem?_eq_getElem hC] at h0
  rw [cellD, h0]
  rfl

/-- how the bitmap begins -/
def WayOf (way n : Int) (data : ByteArray) (ys : List Int) : Prop :=
  (way = 0 ∧ ∃ m : Nat, m ≤ 1000 ∧ n = (m : Int) ∧ ys = List.replicate m 0) ∨ (way = 1 ∧ ∃ m : Nat, m ≤ 1000 ∧ n = ((8 * m : Nat) : Int) ∧ ys = List.replicate m 0) ∨ (way = 2 ∧ n ≤ 131072 ∧ ys = numS data ∧ data.size ≤ 1000)

set_option maxRecDepth 100000 in
set_option maxHeartbeats 4000000 in
theorem bits_any (way n : Int) (data : ByteArray) (ys0 : List Int) (A : Option Addr) (c : Nat) (L : List Step) (w : World) (hway : WayOf way n data ys0) (hd : data.size ≤ 1000) (hL : L.length ≤ 200) (hok : ∀ s ∈ L, OkStep s) (hys : ys0.length ≤ 1000) (hsaid : saidAll ys0 L) (hS : StepsAt w 0 (.slice A L.length c) L) :
    Calls Try.prog 7 #[.int .i64 way, .int .i64 n, .string data, .slice A L.length c] w fun e w' => ∃ v P, e = .returned (.tuple #[v, .bool true]) ∧ P.map Prod.fst = tellsOf ys0 L ∧ TellsAt w' w.heap.size v P ∧ Below w.heap.size w w' := by
  obtain ⟨zT, hzv⟩ : ∃ z : Value, z = .agg #[.bool false, .bool false, .int .i64 0, .slice none 0 0, .string ⟨#[]⟩] := ⟨_, rfl⟩
  obtain ⟨iT, hiT, hzT, hzT1, hzT2⟩ := info_parts Try.infoT
  rw [← hzv] at hzT
  have hzs0 : zT.cells.size = 5 := by rw [hzv]; rfl
  have HZ0 := Lib.hid hzs0
  have HT2 := Lib.hid hzT2
  clear hzT2 hzv hzs0
  obtain ⟨iR, hiR, hzR, hzR1, hzR2⟩ := info_parts Try.infoR
  have HR2 := Lib.hid hzR2
  clear hzR2
  obtain ⟨nL, hnL⟩ : ∃ nL, nL = L.length := ⟨_, rfl⟩
  rw [← hnL] at hL hS ⊢
  have hnb : n ≤ 131072 := by
    rcases hway with ⟨_, m, hm, rfl, _⟩ | ⟨_, m, hm, rfl, _⟩ | ⟨_, hn, _⟩
    · omega
    · omega
    · exact hn
  have HNL := Lib.hid hnL
  have HOK := Lib.hid hok
  have HS := Lib.hid hS
  have HSAID := Lib.hid hsaid
  have HW := Lib.hid hway
  clear hnL hok hS hsaid hway
  go_enter Try.func7, Try.ntmps7
  go_upto_block 0 with (fail)

  go_cut [8, 9, 10] from 30 (fun s8 s9 s10 wx => s8 = .slice none 0 0 ∧ s9 = .bool false ∧ ∃ g h : Nat, s10 = .pointer (some ⟨g, 0, none⟩) ∧ Bas w wx g h ys0 (.slice none 0 0) [])
  case first =>
    rcases HW.out with ⟨rfl, m, hm, rfl, rfl⟩ | ⟨rfl, m, hm, rfl, rfl⟩ | ⟨rfl, hn, rfl, hz⟩
    · go_wp2_with fail
      refine (newbytes_any m _ hm).mono ?_
      rintro e w1 ⟨g, h, rfl, hbm, hg, hh, hbl⟩
      have HB := Lib.hid hbm
      have HBL := Lib.hid hbl
      clear hbm hbl
      go_wp2_with fail
      go_meet
      exact ⟨rfl, rfl, g, h, rfl, HB.out, TellsAt.nil _ _, HBL.out, hg, hh⟩
    · go_wp2_with fail
      refine (newbits_any m _ hm).mono ?_
      rintro e w1 ⟨g, h, rfl, hbm, hg, hh, hbl⟩
      have HB := Lib.hid hbm
      have HBL := Lib.hid hbl
      clear hbm hbl
      go_wp2_with fail
      go_meet
      exact ⟨rfl, rfl, g, h, rfl, HB.out, TellsAt.nil _ _, HBL.out, hg, hh⟩
    · obtain ⟨cap, W, hcv, hbW, hlt, hsrc⟩ := conv_src w data
      have HBW := Lib.hid hbW
      have HSRC := Lib.hid hsrc
      clear hbW hsrc
      go_wp2_with fail
      refine (from_any w.heap.size cap (numS data) W HSRC.out hlt (numS_byt data) (by rw [numS_len]; exact hz)).mono ?_
      rintro e w1 ⟨g, h, rfl, hbm, hg, hh, hbl⟩
      have HB := Lib.hid hbm
      have HBL := Lib.hid hbl
      clear hbm hbl
      have hsz := HBW.out.size
      go_wp2_with fail
      go_meet
      exact ⟨rfl, rfl, g, h, rfl, HB.out, TellsAt.nil _ _, HBW.out.trans (HBL.out.mono hsz), by omega, by omega⟩
  case rest =>
    obtain ⟨rfl, rfl, g, h0, rfl, hbas⟩ := hcut
    have HBAS := Lib.hid hbas
    clear hbas
    go_wp2_with fail
    go_loopw [8, 46] (fun v i wr => ∃ (k h : Nat) (P : List (Told × Value)), k ≤ nL ∧ i = .int .i64 k ∧ P.map Prod.fst = tellsOf ys0 (L.take k) ∧ Bas w wr g h (afterOf ys0 (L.take k)) v P) (fun _ i _ => nL - (intOf i).toNat)
    case atStart => exact ⟨0, h0, [], by omega, by go_num, rfl, HBAS.out⟩
    case round =>
      obtain ⟨k, h, P, hk, rfl, hP, hbas⟩ := hrel
      have HBAS := Lib.hid hbas
      have HP := Lib.hid hP
      clear hbas hP
      by_cases hlt : k < nL
      · obtain ⟨gS, cS, hsl, hgS, hc0, hc1, hc2⟩ := HS.out.at k (by rw [← HNL.out]; exact hlt)
        rw [← HNL.out] at hsl
        have hkL : k < L.length := by rw [← HNL.out]; exact hlt
        have hokk := HOK.out L[k] (List.getElem_mem hkL)
        have hsai := saidAll_at L ys0 k hkL HSAID.out
        have hzl := afterOf_len (L.take k) ys0 hys (fun x hx => HOK.out x (List.mem_of_mem_take hx))
        cases hsl
        rw [← HBAS.out.below.cell (p := ⟨gS, 3 * k, none⟩) hgS] at hc0
        rw [← HBAS.out.below.cell (p := ⟨gS, 3 * k + 1, none⟩) hgS] at hc1
        rw [← HBAS.out.below.cell (p := ⟨gS, 3 * k + 2, none⟩) hgS] at hc2
        rw [Nat.mul_comm 3 k] at hc0 hc1 hc2
        obtain ⟨sk, e0⟩ : ∃ x, x = L[k].1 := ⟨_, rfl⟩
        obtain ⟨sa, e1⟩ : ∃ x, x = L[k].2.1 := ⟨_, rfl⟩
        obtain ⟨sd, e2⟩ : ∃ x, x = L[k].2.2 := ⟨_, rfl⟩
        obtain ⟨zs, hzs⟩ : ∃ x, x = afterOf ys0 (L.take k) := ⟨_, rfl⟩
        unfold OkStep at hokk
        rw [← e0, ← e1, ← e2] at hokk
        rw [← e0] at hc0
        rw [← e1] at hc1
        rw [← e2] at hc2
        rw [← e0, ← e1, ← hzs] at hsai
        rw [← hzs] at hzl
        have HBAS2 := HBAS.out
        rw [← hzs] at HBAS2
        have HBZ := Lib.hid HBAS2
        obtain ⟨hk0, hk8, ha0, ha1, hdz⟩ := hokk
        have E0 := Lib.hid e0
        have E1 := Lib.hid e1
        have E2 := Lib.hid e2
        have HZS := Lib.hid hzs
        have HSA := Lib.hid hsai
        clear e0 e1 e2 hzs hsai HBAS2 HBAS
        go_upto_region 16 with (fail)
        obtain ⟨s, hsw⟩ : ∃ s, s = wr.heap.size := ⟨_, rfl⟩
        rw [← hsw]
        obtain ⟨W1, hW1⟩ : ∃ W1, W1 = (wr.alloc (.cells #[.int .i64 sk, .int .i64 sa, .string sd] 29)).alloc (.cells #[.bool true, .bool false, .int .i64 0, .slice none 0 0, .string ⟨#[]⟩] 33) := ⟨_, rfl⟩
        rw [← hW1]
        have hM1 : Mid w W1 g h (s + 1) zs u8 P #[.bool true, .bool false, .int .i64 0, .slice none 0 0, .string ⟨#[]⟩] := by
          subst hW1 hsw
          exact ⟨(HBZ.out.alloc _).alloc _, heap_new (by simp), fun k hk => by have := (HBZ.out.tells.own.lt k hk).2; omega, Nat.le_trans HBZ.out.below.size (Nat.le_succ _)⟩
        have hBox : W1.heap[s]? = some (.cells #[.int .i64 sk, .int .i64 sa, .string sd] 29 (0, 0)) := by
          subst hW1 hsw
          exact (Below.heap_alloc _ _ _ (by simp)).trans (heap_new rfl)
        have hsz1 : W1.heap.size = s + 2 := by
          subst hW1 hsw
          simp
        have hws : w.heap.size ≤ s := by
          rw [hsw]
          exact HBZ.out.below.size
        have hwr : Below wr.heap.size wr W1 := by
          subst hW1
          exact ((Below.refl _ _).alloc (Nat.le_refl _) _).alloc (by simp) _
        have HSZ1 := Lib.hid hsz1
        have HWR := Lib.hid hwr
        have HSW := Lib.hid hsw
        clear hW1 hsw hc0 hc1 hc2 hgS hsz1 hwr
        have m0 := cell_of_row _ _ 0 _ _ _ hBox
        have m1 := cell_of_row _ _ 1 _ _ _ hBox
        have m2 := cell_of_row _ _ 2 _ _ _ hBox
        have k0 := hM1.cell 0
        have k1 := hM1.cell 1
        have k2 := hM1.cell 2
        have k3 := hM1.cell 3
        have k4 := hM1.cell 4
        have kf := hM1.frz
        have HM1 := Lib.hid hM1
        have HBOX := Lib.hid hBox
        clear hM1 hBox
        have hPk : P.length = k := by
          have := congrArg List.length HP.out
          rw [List.length_map, tellsOf_len, List.length_take] at this
          omega
        rcases (show sk = 0 ∨ sk = 1 ∨ sk = 2 ∨ sk = 3 ∨ sk = 4 ∨ sk = 5 ∨ sk = 6 ∨ sk = 7 from by omega) with rfl | rfl | rfl | rfl | rfl | rfl | rfl | rfl
        · by_cases hin : inB zs sa
          · obtain ⟨p, hp, rfl⟩ : ∃ p : Nat, p < 8 * zs.length ∧ sa = p := ⟨sa.toNat, by have := hin.1; have := hin.2; omega, by have := hin.1; omega⟩
            go_wp2_with fail
            refine (set_in g h zs p W1 HM1.out.bas.bm hzl hp).mono ?_
            rintro e w2 ⟨rfl, hw2⟩
            have hbp := HM1.out.bas.bm.byt.at (i := p / 8) (by omega)
            have hM2 : Mid w w2 g h (s + 1) (ysSet zs p) u8 P #[.bool true, .bool false, .int .i64 0, .slice none 0 0, .string ⟨#[]⟩] := by rw [hw2]; exact HM1.out.store _ _ (orB_bd hbp.1 hbp.2 (by omega))
            clear hw2 k0 k1 k2 k3 k4 kf
            have w2k0 := hM2.cell 0
            have w2k1 := hM2.cell 1
            have w2k2 := hM2.cell 2
            have w2k3 := hM2.cell 3
            have w2k4 := hM2.cell 4
            have w2kf := hM2.frz
            have HM2 := Lib.hid hM2
            have HIN := Lib.hid hin
            clear hM2 hin
            have hM3 : Mid w ((w2).setCell ⟨s + 1, 0, none⟩ (.bool true)) g h (s + 1) (ysSet zs p) u8 P _ := (HM2.out).put 0 (.bool true)
            have hsl3 : ((w2).setCell ⟨s + 1, 0, none⟩ (.bool true)).ownsRow w.heap.size 61 2 (.slice none 0 0) (Told.rows (⟨true, false, 0, [], ⟨#[]⟩⟩ : Told)).length (flatI (Told.rows (⟨true, false, 0, [], ⟨#[]⟩⟩ : Told))) := World.ownsRow_nil _ _ _ _
            have hsz3 : w.heap.size ≤ ((w2).setCell ⟨s + 1, 0, none⟩ (.bool true)).heap.size := hM3.bas.below.size
            try simp only [World.size_setCell] at hsz3
            have HM3 := Lib.hid hM3
            have HSL3 := Lib.hid hsl3
            clear hM3 hsl3
            go_wp2_with (at_builtin; (refine wpList_append_own _ rfl _ _ 27 rfl w.heap.size 33 iT zT 5 56 Try.underlying27 hiT hzT hzT1 HT2.out HZ0.out (by decide) u8 P.length (flatT P) rfl (HM3.out.bas.tells.own.alloc _) ⟨(w2).heap.size, 0, none⟩ 1 1 [.bool true, .bool false, .int .i64 0, .slice none 0 0, .string ⟨#[]⟩] rfl rfl (cells_new #[.bool true, .bool false, .int .i64 0, .slice none 0 0, .string ⟨#[]⟩] (by simp)) (tcells_one (x := ((⟨true, false, 0, [], ⟨#[]⟩⟩ : Told), .slice none 0 0)) (by rfl)) (by unfold maxLen; omega) (by omega) (by simp; omega) ?_); intro v' w3 hown' hg3 hnil3; (have hb3 := Bas.snoc (t := (⟨true, false, 0, [], ⟨#[]⟩⟩ : Told)) (sl := .slice none 0 0) (HM3.out.bas.alloc _) (HSL3.out.alloc _) hg3 hown'); have HB3 := Lib.hid hb3; clear hown' hg3 hnil3 hb3)
            go_roundw
            case rel =>
              obtain ⟨h9, P9, hp9, hb9⟩ := round_end hkL E0.out E1.out E2.out HP.out (by rw [← HZS.out]; exact (by simp [tell, HIN.out])) (by rw [← HZS.out]; exact (by simp [behind, HIN.out])) HB3.out
              exact ⟨k + 1, h9, P9, by omega, by go_num, hp9, hb9⟩
            case measure => simp [intOf]; omega
          · rcases (show sa < 0 ∨ 8 * (zs.length : Int) ≤ sa from by unfold inB at hin; omega) with hlo | hhi
            · skip
              go_wp2_with fail
              refine (set_neg g sa W1 hlo).mono ?_
              rintro e w2 ⟨ve, rfl, ⟨te, xe, rfl⟩, hb2⟩
              have hM2 := HM1.out.keep hb2
              clear k0 k1 k2 k3 k4 kf
              have w2k0 := hM2.cell 0
              have w2k1 := hM2.cell 1
              have w2k2 := hM2.cell 2
              have w2k3 := hM2.cell 3
              have w2k4 := hM2.cell 4
              have w2kf := hM2.frz
              have HM2 := Lib.hid hM2
              have HIN := Lib.hid hin
              clear hM2 hin hb2
              have hM3 : Mid w ((w2).setCell ⟨s + 1, 0, none⟩ (.bool false)) g h (s + 1) (zs) u8 P _ := (HM2.out).put 0 (.bool false)
              have hsl3 : ((w2).setCell ⟨s + 1, 0, none⟩ (.bool false)).ownsRow w.heap.size 61 2 (.slice none 0 0) (Told.rows (⟨false, false, 0, [], ⟨#[]⟩⟩ : Told)).length (flatI (Told.rows (⟨false, false, 0, [], ⟨#[]⟩⟩ : Told))) := World.ownsRow_nil _ _ _ _
              have hsz3 : w.heap.size ≤ ((w2).setCell ⟨s + 1, 0, none⟩ (.bool false)).heap.size := hM3.bas.below.size
              try simp only [World.size_setCell] at hsz3
              have HM3 := Lib.hid hM3
              have HSL3 := Lib.hid hsl3
              clear hM3 hsl3
              go_wp2_with (at_builtin; (refine wpList_append_own _ rfl _ _ 27 rfl w.heap.size 33 iT zT 5 56 Try.underlying27 hiT hzT hzT1 HT2.out HZ0.out (by decide) u8 P.length (flatT P) rfl (HM3.out.bas.tells.own.alloc _) ⟨(w2).heap.size, 0, none⟩ 1 1 [.bool false, .bool false, .int .i64 0, .slice none 0 0, .string ⟨#[]⟩] rfl rfl (cells_new #[.bool false, .bool false, .int .i64 0, .slice none 0 0, .string ⟨#[]⟩] (by simp)) (tcells_one (x := ((⟨false, false, 0, [], ⟨#[]⟩⟩ : Told), .slice none 0 0)) (by rfl)) (by unfold maxLen; omega) (by omega) (by simp; omega) ?_); intro v' w3 hown' hg3 hnil3; (have hb3 := Bas.snoc (t := (⟨false, false, 0, [], ⟨#[]⟩⟩ : Told)) (sl := .slice none 0 0) (HM3.out.bas.alloc _) (HSL3.out.alloc _) hg3 hown'); have HB3 := Lib.hid hb3; clear hown' hg3 hnil3 hb3)
              go_roundw
              case rel =>
                obtain ⟨h9, P9, hp9, hb9⟩ := round_end hkL E0.out E1.out E2.out HP.out (by rw [← HZS.out]; exact (by simp [tell, HIN.out])) (by rw [← HZS.out]; exact (by simp [behind, HIN.out])) HB3.out
                exact ⟨k + 1, h9, P9, by omega, by go_num, hp9, hb9⟩
              case measure => simp [intOf]; omega
            · obtain ⟨p, rfl⟩ : ∃ p : Nat, sa = p := ⟨sa.toNat, by omega⟩
              go_wp2_with fail
              refine (set_out g h zs p W1 HM1.out.bas.bm hzl (by omega) (by omega)).mono ?_
              rintro e w2 ⟨ve, rfl, ⟨te, xe, rfl⟩, hb2⟩
              have hM2 := HM1.out.keep hb2
              clear k0 k1 k2 k3 k4 kf
              have w2k0 := hM2.cell 0
              have w2k1 := hM2.cell 1
              have w2k2 := hM2.cell 2
              have w2k3 := hM2.cell 3
              have w2k4 := hM2.cell 4
              have w2kf := hM2.frz
              have HM2 := Lib.hid hM2
              have HIN := Lib.hid hin
              clear hM2 hin hb2
              have hM3 : Mid w ((w2).setCell ⟨s + 1, 0, none⟩ (.bool false)) g h (s + 1) (zs) u8 P _ := (HM2.out).put 0 (.bool false)
              have hsl3 : ((w2).setCell ⟨s + 1, 0, none⟩ (.bool false)).ownsRow w.heap.size 61 2 (.slice none 0 0) (Told.rows (⟨false, false, 0, [], ⟨#[]⟩⟩ : Told)).length (flatI (Told.rows (⟨false, false, 0, [], ⟨#[]⟩⟩ : Told))) := World.ownsRow_nil _ _ _ _
              have hsz3 : w.heap.size ≤ ((w2).setCell ⟨s + 1, 0, none⟩ (.bool false)).heap.size := hM3.bas.below.size
              try simp only [World.size_setCell] at hsz3
              have HM3 := Lib.hid hM3
              have HSL3 := Lib.hid hsl3
              clear hM3 hsl3
              go_wp2_with (at_builtin; (refine wpList_append_own _ rfl _ _ 27 rfl w.heap.size 33 iT zT 5 56 Try.underlying27 hiT hzT hzT1 HT2.out HZ0.out (by decide) u8 P.length (flatT P) rfl (HM3.out.bas.tells.own.alloc _) ⟨(w2).heap.size, 0, none⟩ 1 1 [.bool false, .bool false, .int .i64 0, .slice none 0 0, .string ⟨#[]⟩] rfl rfl (cells_new #[.bool false, .bool false, .int .i64 0, .slice none 0 0, .string ⟨#[]⟩] (by simp)) (tcells_one (x := ((⟨false, false, 0, [], ⟨#[]⟩⟩ : Told), .slice none 0 0)) (by rfl)) (by unfold maxLen; omega) (by omega) (by simp; omega) ?_); intro v' w3 hown' hg3 hnil3; (have hb3 := Bas.snoc (t := (⟨false, false, 0, [], ⟨#[]⟩⟩ : Told)) (sl := .slice none 0 0) (HM3.out.bas.alloc _) (HSL3.out.alloc _) hg3 hown'); have HB3 := Lib.hid hb3; clear hown' hg3 hnil3 hb3)
              go_roundw
              case rel =>
                obtain ⟨h9, P9, hp9, hb9⟩ := round_end hkL E0.out E1.out E2.out HP.out (by rw [← HZS.out]; exact (by simp [tell, HIN.out])) (by rw [← HZS.out]; exact (by simp [behind, HIN.out])) HB3.out
                exact ⟨k + 1, h9, P9, by omega, by go_num, hp9, hb9⟩
              case measure => simp [intOf]; omega
        · by_cases hin : inB zs sa
          · obtain ⟨p, hp, rfl⟩ : ∃ p : Nat, p < 8 * zs.length ∧ sa = p := ⟨sa.toNat, by have := hin.1; have := hin.2; omega, by have := hin.1; omega⟩
            go_wp2_with fail
            refine (clear_in g h zs p W1 HM1.out.bas.bm hzl hp).mono ?_
            rintro e w2 ⟨rfl, hw2⟩
            have hbp := HM1.out.bas.bm.byt.at (i := p / 8) (by omega)
            have hM2 : Mid w w2 g h (s + 1) (ysClr zs p) u8 P #[.bool true, .bool false, .int .i64 0, .slice none 0 0, .string ⟨#[]⟩] := by rw [hw2]; exact HM1.out.store _ _ (clB_bd hbp.1 hbp.2 (by omega))
            clear hw2 k0 k1 k2 k3 k4 kf
            have w2k0 := hM2.cell 0
            have w2k1 := hM2.cell 1
            have w2k2 := hM2.cell 2
            have w2k3 := hM2.cell 3
            have w2k4 := hM2.cell 4
            have w2kf := hM2.frz
            have HM2 := Lib.hid hM2
            have HIN := Lib.hid hin
            clear hM2 hin
            have hM3 : Mid w ((w2).setCell ⟨s + 1, 0, none⟩ (.bool true)) g h (s + 1) (ysClr zs p) u8 P _ := (HM2.out).put 0 (.bool true)
            have hsl3 : ((w2).setCell ⟨s + 1, 0, none⟩ (.bool true)).ownsRow w.heap.size 61 2 (.slice none 0 0) (Told.rows (⟨true, false, 0, [], ⟨#[]⟩⟩ : Told)).length (flatI (Told.rows (⟨true, false, 0, [], ⟨#[]⟩⟩ : Told))) := World.ownsRow_nil _ _ _ _
            have hsz3 : w.heap.size ≤ ((w2).setCell ⟨s + 1, 0, none⟩ (.bool true)).heap.size := hM3.bas.below.size
            try simp only [World.size_setCell] at hsz3
            have HM3 := Lib.hid hM3
            have HSL3 := Lib.hid hsl3
            clear hM3 hsl3
            go_wp2_with (at_builtin; (refine wpList_append_own _ rfl _ _ 27 rfl w.heap.size 33 iT zT 5 56 Try.underlying27 hiT hzT hzT1 HT2.out HZ0.out (by decide) u8 P.length (flatT P) rfl (HM3.out.bas.tells.own.alloc _) ⟨(w2).heap.size, 0, none⟩ 1 1 [.bool true, .bool false, .int .i64 0, .slice none 0 0, .string ⟨#[]⟩] rfl rfl (cells_new #[.bool true, .bool false, .int .i64 0, .slice none 0 0, .string ⟨#[]⟩] (by simp)) (tcells_one (x := ((⟨true, false, 0, [], ⟨#[]⟩⟩ : Told), .slice none 0 0)) (by rfl)) (by unfold maxLen; omega) (by omega) (by simp; omega) ?_); intro v' w3 hown' hg3 hnil3; (have hb3 := Bas.snoc (t := (⟨true, false, 0, [], ⟨#[]⟩⟩ : Told)) (sl := .slice none 0 0) (HM3.out.bas.alloc _) (HSL3.out.alloc _) hg3 hown'); have HB3 := Lib.hid hb3; clear hown' hg3 hnil3 hb3)
            go_roundw
            case rel =>
              obtain ⟨h9, P9, hp9, hb9⟩ := round_end hkL E0.out E1.out E2.out HP.out (by rw [← HZS.out]; exact (by simp [tell, HIN.out])) (by rw [← HZS.out]; exact (by simp [behind, HIN.out])) HB3.out
              exact ⟨k + 1, h9, P9, by omega, by go_num, hp9, hb9⟩
            case measure => simp [intOf]; omega
          · rcases (show sa < 0 ∨ 8 * (zs.length : Int) ≤ sa from by unfold inB at hin; omega) with hlo | hhi
            · skip
              go_wp2_with fail
              refine (clear_neg g sa W1 hlo).mono ?_
              rintro e w2 ⟨ve, rfl, ⟨te, xe, rfl⟩, hb2⟩
              have hM2 := HM1.out.keep hb2
              clear k0 k1 k2 k3 k4 kf
              have w2k0 := hM2.cell 0
              have w2k1 := hM2.cell 1
              have w2k2 := hM2.cell 2
              have w2k3 := hM2.cell 3
              have w2k4 := hM2.cell 4
              have w2kf := hM2.frz
              have HM2 := Lib.hid hM2
              have HIN := Lib.hid hin
              clear hM2 hin hb2
              have hM3 : Mid w ((w2).setCell ⟨s + 1, 0, none⟩ (.bool false)) g h (s + 1) (zs) u8 P _ := (HM2.out).put 0 (.bool false)
              have hsl3 : ((w2).setCell ⟨s + 1, 0, none⟩ (.bool false)).ownsRow w.heap.size 61 2 (.slice none 0 0) (Told.rows (⟨false, false, 0, [], ⟨#[]⟩⟩ : Told)).length (flatI (Told.rows (⟨false, false, 0, [], ⟨#[]⟩⟩ : Told))) := World.ownsRow_nil _ _ _ _
              have hsz3 : w.heap.size ≤ ((w2).setCell ⟨s + 1, 0, none⟩ (.bool false)).heap.size := hM3.bas.below.size
              try simp only [World.size_setCell] at hsz3
              have HM3 := Lib.hid hM3
              have HSL3 := Lib.hid hsl3
              clear hM3 hsl3
              go_wp2_with (at_builtin; (refine wpList_append_own _ rfl _ _ 27 rfl w.heap.size 33 iT zT 5 56 Try.underlying27 hiT hzT hzT1 HT2.out HZ0.out (by decide) u8 P.length (flatT P) rfl (HM3.out.bas.tells.own.alloc _) ⟨(w2).heap.size, 0, none⟩ 1 1 [.bool false, .bool false, .int .i64 0, .slice none 0 0, .string ⟨#[]⟩] rfl rfl (cells_new #[.bool false, .bool false, .int .i64 0, .slice none 0 0, .string ⟨#[]⟩] (by simp)) (tcells_one (x := ((⟨false, false, 0, [], ⟨#[]⟩⟩ : Told), .slice none 0 0)) (by rfl)) (by unfold maxLen; omega) (by omega) (by simp; omega) ?_); intro v' w3 hown' hg3 hnil3; (have hb3 := Bas.snoc (t := (⟨false, false, 0, [], ⟨#[]⟩⟩ : Told)) (sl := .slice none 0 0) (HM3.out.bas.alloc _) (HSL3.out.alloc _) hg3 hown'); have HB3 := Lib.hid hb3; clear hown' hg3 hnil3 hb3)
              go_roundw
              case rel =>
                obtain ⟨h9, P9, hp9, hb9⟩ := round_end hkL E0.out E1.out E2.out HP.out (by rw [← HZS.out]; exact (by simp [tell, HIN.out])) (by rw [← HZS.out]; exact (by simp [behind, HIN.out])) HB3.out
                exact ⟨k + 1, h9, P9, by omega, by go_num, hp9, hb9⟩
              case measure => simp [intOf]; omega
            · obtain ⟨p, rfl⟩ : ∃ p : Nat, sa = p := ⟨sa.toNat, by omega⟩
              go_wp2_with fail
              refine (clear_out g h zs p W1 HM1.out.bas.bm hzl (by omega) (by omega)).mono ?_
              rintro e w2 ⟨ve, rfl, ⟨te, xe, rfl⟩, hb2⟩
              have hM2 := HM1.out.keep hb2
              clear k0 k1 k2 k3 k4 kf
              have w2k0 := hM2.cell 0
              have w2k1 := hM2.cell 1
              have w2k2 := hM2.cell 2
              have w2k3 := hM2.cell 3
              have w2k4 := hM2.cell 4
              have w2kf := hM2.frz
              have HM2 := Lib.hid hM2
              have HIN := Lib.hid hin
              clear hM2 hin hb2
              have hM3 : Mid w ((w2).setCell ⟨s + 1, 0, none⟩ (.bool false)) g h (s + 1) (zs) u8 P _ := (HM2.out).put 0 (.bool false)
              have hsl3 : ((w2).setCell ⟨s + 1, 0, none⟩ (.bool false)).ownsRow w.heap.size 61 2 (.slice none 0 0) (Told.rows (⟨false, false, 0, [], ⟨#[]⟩⟩ : Told)).length (flatI (Told.rows (⟨false, false, 0, [], ⟨#[]⟩⟩ : Told))) := World.ownsRow_nil _ _ _ _
              have hsz3 : w.heap.size ≤ ((w2).setCell ⟨s + 1, 0, none⟩ (.bool false)).heap.size := hM3.bas.below.size
              try simp only [World.size_setCell] at hsz3
              have HM3 := Lib.hid hM3
              have HSL3 := Lib.hid hsl3
              clear hM3 hsl3
              go_wp2_with (at_builtin; (refine wpList_append_own _ rfl _ _ 27 rfl w.heap.size 33 iT zT 5 56 Try.underlying27 hiT hzT hzT1 HT2.out HZ0.out (by decide) u8 P.length (flatT P) rfl (HM3.out.bas.tells.own.alloc _) ⟨(w2).heap.size, 0, none⟩ 1 1 [.bool false, .bool false, .int .i64 0, .slice none 0 0, .string ⟨#[]⟩] rfl rfl (cells_new #[.bool false, .bool false, .int .i64 0, .slice none 0 0, .string ⟨#[]⟩] (by simp)) (tcells_one (x := ((⟨false, false, 0, [], ⟨#[]⟩⟩ : Told), .slice none 0 0)) (by rfl)) (by unfold maxLen; omega) (by omega) (by simp; omega) ?_); intro v' w3 hown' hg3 hnil3; (have hb3 := Bas.snoc (t := (⟨false, false, 0, [], ⟨#[]⟩⟩ : Told)) (sl := .slice none 0 0) (HM3.out.bas.alloc _) (HSL3.out.alloc _) hg3 hown'); have HB3 := Lib.hid hb3; clear hown' hg3 hnil3 hb3)
              go_roundw
              case rel =>
                obtain ⟨h9, P9, hp9, hb9⟩ := round_end hkL E0.out E1.out E2.out HP.out (by rw [← HZS.out]; exact (by simp [tell, HIN.out])) (by rw [← HZS.out]; exact (by simp [behind, HIN.out])) HB3.out
                exact ⟨k + 1, h9, P9, by omega, by go_num, hp9, hb9⟩
              case measure => simp [intOf]; omega
        · have hs1 : s < W1.heap.size := (Array.getElem?_eq_some_iff.1 HBOX.out).1
          have hS0 := heldS HM1.out HBOX.out
          have hS1 := fun o => heldS (HM1.out.alloc o) ((Below.heap_alloc _ o _ hs1).trans HBOX.out)
          have hS2 := fun v o => heldS ((HM1.out.alloc o).put 0 v) ((heap_setCell_other _ _ _ _ (by show s ≠ s + 1; omega)).trans ((Below.heap_alloc _ o _ hs1).trans HBOX.out)) (by rw [Array.size_setIfInBounds]; decide)
          have hS3 := fun v => heldS (HM1.out.put 0 v) ((heap_setCell_other _ _ _ _ (by show s ≠ s + 1; omega)).trans HBOX.out) (by rw [Array.size_setIfInBounds]; decide)
          have HS3 := Lib.hid hS3
          clear hS3
          have HS0 := Lib.hid hS0
          have HS1 := Lib.hid hS1
          have HS2 := Lib.hid hS2
          clear hS0 hS1 hS2 hs1
          by_cases hin : inB zs sa
          · obtain ⟨p, hp, rfl⟩ : ∃ p : Nat, p < 8 * zs.length ∧ sa = p := ⟨sa.toNat, by have := hin.1; have := hin.2; omega, by have := hin.1; omega⟩
            have q0 : ¬ (p : Int) < 0 := by omega
            have q0' : decide ((p : Int) < 0) = false := by simp
            have hv : (IntKind.i64.wrap ((p : Int) / 8) != (zs.length : Int)) = true := by
              rw [IntWalk.i64_in _ (by omega)]
              simp
              omega
            go_wp2_with fail
            go_region_held3 (fun w' => w'.cell? ⟨s, 1, none⟩ = some (.int .i64 p) ∧ w'.cell? ⟨s + 1, 0, none⟩ = some (cellD w' ⟨s + 1, 0, none⟩) ∧ w'.frozen? ⟨s + 1, 0, none⟩ = false) (first | exact HS0.out | exact HS1.out _ | exact HS2.out _ _) (first | (go_at_call 19; refine (tobytes_any g h zs _ (HM1.out.keep (Below.refl _ _).drew).bas.bm hzl).mono ?_; rintro e w2 ⟨rfl, rfl⟩))
            obtain ⟨W2, hW2⟩ : ∃ W2, W2 = ((W1.alloc (.cells (byteRow zs) 5)).setCell ⟨s + 1, 0, none⟩ (.bool true)).drew := ⟨_, rfl⟩
            rw [← hW2]
            have hM2 : Mid w W2 g h (s + 1) zs u8 P #[.bool true, .bool false, .int .i64 0, .slice none 0 0, .string ⟨#[]⟩] := by rw [hW2]; exact ((HM1.out.alloc _).put 0 (.bool true)).keep (Below.refl _ _).drew
            have hb1 : W2.cell? ⟨s, 1, none⟩ = some (.int .i64 p) := by rw [hW2]; exact (HS2.out _ _).1
            clear hW2 m0 m1 m2 k0 k1 k2 k3 k4 kf
            have W2k0 := hM2.cell 0
            have W2k1 := hM2.cell 1
            have W2k2 := hM2.cell 2
            have W2k3 := hM2.cell 3
            have W2k4 := hM2.cell 4
            have W2kf := hM2.frz
            have HM2 := Lib.hid hM2
            clear hM2
            go_wp2_with fail
            refine (isset_in g h zs p W2 HM2.out.bas.bm hzl hp).mono ?_
            rintro e w3 ⟨rfl, rfl⟩
            go_wp2_with fail
            go_region
            obtain ⟨W4, hW4⟩ : ∃ W4, W4 = ((W2.setCell ⟨s + 1, 1, none⟩ (.bool (bitAt zs p))).setCell ⟨s + 1, 0, none⟩ (.bool true)).drew := ⟨_, rfl⟩
            rw [← hW4]
            have hM4 : Mid w W4 g h (s + 1) zs u8 P #[.bool true, .bool (bitAt zs p), .int .i64 0, .slice none 0 0, .string ⟨#[]⟩] := by rw [hW4]; exact ((HM2.out.put 1 (.bool (bitAt zs p))).put 0 (.bool true)).keep (Below.refl _ _).drew
            clear hW4 W2k0 W2k1 W2k2 W2k3 W2k4 W2kf
            have W4k0 := hM4.cell 0
            have W4k1 := hM4.cell 1
            have W4k2 := hM4.cell 2
            have W4k3 := hM4.cell 3
            have W4k4 := hM4.cell 4
            have W4kf := hM4.frz
            have HM4 := Lib.hid hM4
            have HIN := Lib.hid hin
            clear hM4 hin
            have hM3 : Mid w (W4) g h (s + 1) (zs) u8 P _ := HM4.out
            have hsl3 : (W4).ownsRow w.heap.size 61 2 (.slice none 0 0) (Told.rows (⟨true, (bitAt zs p), 0, [], ⟨#[]⟩⟩ : Told)).length (flatI (Told.rows (⟨true, (bitAt zs p), 0, [], ⟨#[]⟩⟩ : Told))) := World.ownsRow_nil _ _ _ _
            have hsz3 : w.heap.size ≤ (W4).heap.size := hM3.bas.below.size
            try simp only [World.size_setCell] at hsz3
            have HM3 := Lib.hid hM3
            have HSL3 := Lib.hid hsl3
            clear hM3 hsl3
            go_wp2_with (at_builtin; (refine wpList_append_own _ rfl _ _ 27 rfl w.heap.size 33 iT zT 5 56 Try.underlying27 hiT hzT hzT1 HT2.out HZ0.out (by decide) u8 P.length (flatT P) rfl (HM3.out.bas.tells.own.alloc _) ⟨(W4).heap.size, 0, none⟩ 1 1 [.bool true, .bool (bitAt zs p), .int .i64 0, .slice none 0 0, .string ⟨#[]⟩] rfl rfl (cells_new #[.bool true, .bool (bitAt zs p), .int .i64 0, .slice none 0 0, .string ⟨#[]⟩] (by simp)) (tcells_one (x := ((⟨true, (bitAt zs p), 0, [], ⟨#[]⟩⟩ : Told), .slice none 0 0)) (by rfl)) (by unfold maxLen; omega) (by omega) (by simp; omega) ?_); intro v' w3 hown' hg3 hnil3; (have hb3 := Bas.snoc (t := (⟨true, (bitAt zs p), 0, [], ⟨#[]⟩⟩ : Told)) (sl := .slice none 0 0) (HM3.out.bas.alloc _) (HSL3.out.alloc _) hg3 hown'); have HB3 := Lib.hid hb3; clear hown' hg3 hnil3 hb3)
            go_roundw
            case rel =>
              obtain ⟨h9, P9, hp9, hb9⟩ := round_end hkL E0.out E1.out E2.out HP.out (by rw [← HZS.out]; exact (by simp [tell, HIN.out])) (by rw [← HZS.out]; exact (by simp [behind])) HB3.out
              exact ⟨k + 1, h9, P9, by omega, by go_num, hp9, hb9⟩
            case measure => simp [intOf]; omega
          · rcases (show sa < 0 ∨ 8 * (zs.length : Int) ≤ sa from by unfold inB at hin; omega) with hlo | hhi
            · have q0' : decide (sa < 0) = true := by simpa using hlo
              go_wp2_with fail
              go_region
              obtain ⟨W2, hW2⟩ : ∃ W2, W2 = (W1.setCell ⟨s + 1, 0, none⟩ (.bool true)).drew := ⟨_, rfl⟩
              rw [← hW2]
              have hM2 : Mid w W2 g h (s + 1) zs u8 P #[.bool true, .bool false, .int .i64 0, .slice none 0 0, .string ⟨#[]⟩] := by rw [hW2]; exact (HM1.out.put 0 (.bool true)).keep (Below.refl _ _).drew
              have hb1 : W2.cell? ⟨s, 1, none⟩ = some (.int .i64 sa) := by rw [hW2]; exact (HS3.out _).1
              clear hW2 m0 m1 m2 k0 k1 k2 k3 k4 kf
              have W2k0 := hM2.cell 0
              have W2k1 := hM2.cell 1
              have W2k2 := hM2.cell 2
              have W2k3 := hM2.cell 3
              have W2k4 := hM2.cell 4
              have W2kf := hM2.frz
              have HM2 := Lib.hid hM2
              clear hM2
              go_wp2_with fail
              refine (isset_neg g sa W2 hlo).mono ?_
              rintro e w3 ⟨ve, rfl, ⟨te, xe, rfl⟩, hb3⟩
              have hM3 := HM2.out.keep hb3
              clear hb3 W2k0 W2k1 W2k2 W2k3 W2k4 W2kf
              have w3k0 := hM3.cell 0
              have w3k1 := hM3.cell 1
              have w3k2 := hM3.cell 2
              have w3k3 := hM3.cell 3
              have w3k4 := hM3.cell 4
              have w3kf := hM3.frz
              have HM5 := Lib.hid hM3
              clear hM3
              go_wp2_with fail
              go_region
              obtain ⟨W4, hW4⟩ : ∃ W4, W4 = ((w3.setCell ⟨s + 1, 1, none⟩ (.bool false)).setCell ⟨s + 1, 0, none⟩ (.bool false)).drew := ⟨_, rfl⟩
              rw [← hW4]
              have hM4 : Mid w W4 g h (s + 1) zs u8 P #[.bool false, .bool false, .int .i64 0, .slice none 0 0, .string ⟨#[]⟩] := by rw [hW4]; exact ((HM5.out.put 1 (.bool false)).put 0 (.bool false)).keep (Below.refl _ _).drew
              clear hW4 w3k0 w3k1 w3k2 w3k3 w3k4 w3kf
              have W4k0 := hM4.cell 0
              have W4k1 := hM4.cell 1
              have W4k2 := hM4.cell 2
              have W4k3 := hM4.cell 3
              have W4k4 := hM4.cell 4
              have W4kf := hM4.frz
              have HM4 := Lib.hid hM4
              have HIN := Lib.hid hin
              clear hM4 hin
              have hM3 : Mid w (W4) g h (s + 1) (zs) u8 P _ := HM4.out
              have hsl3 : (W4).ownsRow w.heap.size 61 2 (.slice none 0 0) (Told.rows (⟨false, false, 0, [], ⟨#[]⟩⟩ : Told)).length (flatI (Told.rows (⟨false, false, 0, [], ⟨#[]⟩⟩ : Told))) := World.ownsRow_nil _ _ _ _
              have hsz3 : w.heap.size ≤ (W4).heap.size := hM3.bas.below.size
              try simp only [World.size_setCell] at hsz3
              have HM3 := Lib.hid hM3
              have HSL3 := Lib.hid hsl3
              clear hM3 hsl3
              go_wp2_with (at_builtin; (refine wpList_append_own _ rfl _ _ 27 rfl w.heap.size 33 iT zT 5 56 Try.underlying27 hiT hzT hzT1 HT2.out HZ0.out (by decide) u8 P.length (flatT P) rfl (HM3.out.bas.tells.own.alloc _) ⟨(W4).heap.size, 0, none⟩ 1 1 [.bool false, .bool false, .int .i64 0, .slice none 0 0, .string ⟨#[]⟩] rfl rfl (cells_new #[.bool false, .bool false, .int .i64 0, .slice none 0 0, .string ⟨#[]⟩] (by simp)) (tcells_one (x := ((⟨false, false, 0, [], ⟨#[]⟩⟩ : Told), .slice none 0 0)) (by rfl)) (by unfold maxLen; omega) (by omega) (by simp; omega) ?_); intro v' w3 hown' hg3 hnil3; (have hb3 := Bas.snoc (t := (⟨false, false, 0, [], ⟨#[]⟩⟩ : Told)) (sl := .slice none 0 0) (HM3.out.bas.alloc _) (HSL3.out.alloc _) hg3 hown'); have HB3 := Lib.hid hb3; clear hown' hg3 hnil3 hb3)
              go_roundw
              case rel =>
                obtain ⟨h9, P9, hp9, hb9⟩ := round_end hkL E0.out E1.out E2.out HP.out (by rw [← HZS.out]; exact (by simp [tell, HIN.out])) (by rw [← HZS.out]; exact (by simp [behind])) HB3.out
                exact ⟨k + 1, h9, P9, by omega, by go_num, hp9, hb9⟩
              case measure => simp [intOf]; omega
            · obtain ⟨p, rfl⟩ : ∃ p : Nat, sa = p := ⟨sa.toNat, by omega⟩
              have q0 : ¬ (p : Int) < 0 := by omega
              have q0' : decide ((p : Int) < 0) = false := by simp
              rcases (show p / 8 = zs.length ∨ 8 * zs.length + 8 ≤ p from by omega) with heq | hfar
              · skip
                have hv : (IntKind.i64.wrap ((p : Int) / 8) != (zs.length : Int)) = false := by
                  rw [IntWalk.i64_in _ (by omega)]
                  simp
                  omega
                go_wp2_with fail
                go_region_held3 (fun w' => w'.cell? ⟨s, 1, none⟩ = some (.int .i64 p) ∧ w'.cell? ⟨s + 1, 0, none⟩ = some (cellD w' ⟨s + 1, 0, none⟩) ∧ w'.frozen? ⟨s + 1, 0, none⟩ = false) (first | exact HS0.out | exact HS1.out _ | exact HS2.out _ _) (first | (go_at_call 19; refine (tobytes_any g h zs _ (HM1.out.keep (Below.refl _ _).drew).bas.bm hzl).mono ?_; rintro e w2 ⟨rfl, rfl⟩))
                obtain ⟨W2, hW2⟩ : ∃ W2, W2 = ((W1.alloc (.cells (byteRow zs) 5)).setCell ⟨s + 1, 0, none⟩ (.bool false)).drew := ⟨_, rfl⟩
                rw [← hW2]
                have hM2 : Mid w W2 g h (s + 1) zs u8 P #[.bool false, .bool false, .int .i64 0, .slice none 0 0, .string ⟨#[]⟩] := by rw [hW2]; exact ((HM1.out.alloc _).put 0 (.bool false)).keep (Below.refl _ _).drew
                have hb1 : W2.cell? ⟨s, 1, none⟩ = some (.int .i64 p) := by rw [hW2]; exact (HS2.out _ _).1
                clear hW2 m0 m1 m2 k0 k1 k2 k3 k4 kf
                have W2k0 := hM2.cell 0
                have W2k1 := hM2.cell 1
                have W2k2 := hM2.cell 2
                have W2k3 := hM2.cell 3
                have W2k4 := hM2.cell 4
                have W2kf := hM2.frz
                have HM2 := Lib.hid hM2
                clear hM2
                have HIN := Lib.hid hin
                clear hin
                have hM3 : Mid w (W2) g h (s + 1) (zs) u8 P _ := HM2.out
                have hsl3 : (W2).ownsRow w.heap.size 61 2 (.slice none 0 0) (Told.rows (⟨false, false, 0, [], ⟨#[]⟩⟩ : Told)).length (flatI (Told.rows (⟨false, false, 0, [], ⟨#[]⟩⟩ : Told))) := World.ownsRow_nil _ _ _ _
                have hsz3 : w.heap.size ≤ (W2).heap.size := hM3.bas.below.size
                try simp only [World.size_setCell] at hsz3
                have HM3 := Lib.hid hM3
                have HSL3 := Lib.hid hsl3
                clear hM3 hsl3
                go_wp2_with (at_builtin; (refine wpList_append_own _ rfl _ _ 27 rfl w.heap.size 33 iT zT 5 56 Try.underlying27 hiT hzT hzT1 HT2.out HZ0.out (by decide) u8 P.length (flatT P) rfl (HM3.out.bas.tells.own.alloc _) ⟨(W2).heap.size, 0, none⟩ 1 1 [.bool false, .bool false, .int .i64 0, .slice none 0 0, .string ⟨#[]⟩] rfl rfl (cells_new #[.bool false, .bool false, .int .i64 0, .slice none 0 0, .string ⟨#[]⟩] (by simp)) (tcells_one (x := ((⟨false, false, 0, [], ⟨#[]⟩⟩ : Told), .slice none 0 0)) (by rfl)) (by unfold maxLen; omega) (by omega) (by simp; omega) ?_); intro v' w3 hown' hg3 hnil3; (have hb3 := Bas.snoc (t := (⟨false, false, 0, [], ⟨#[]⟩⟩ : Told)) (sl := .slice none 0 0) (HM3.out.bas.alloc _) (HSL3.out.alloc _) hg3 hown'); have HB3 := Lib.hid hb3; clear hown' hg3 hnil3 hb3)
                go_roundw
                case rel =>
                  obtain ⟨h9, P9, hp9, hb9⟩ := round_end hkL E0.out E1.out E2.out HP.out (by rw [← HZS.out]; exact (by simp [tell, HIN.out])) (by rw [← HZS.out]; exact (by simp [behind])) HB3.out
                  exact ⟨k + 1, h9, P9, by omega, by go_num, hp9, hb9⟩
                case measure => simp [intOf]; omega
              · skip
                have hv : (IntKind.i64.wrap ((p : Int) / 8) != (zs.length : Int)) = true := by
                  rw [IntWalk.i64_in _ (by omega)]
                  simp
                  omega
                go_wp2_with fail
                go_region_held3 (fun w' => w'.cell? ⟨s, 1, none⟩ = some (.int .i64 p) ∧ w'.cell? ⟨s + 1, 0, none⟩ = some (cellD w' ⟨s + 1, 0, none⟩) ∧ w'.frozen? ⟨s + 1, 0, none⟩ = false) (first | exact HS0.out | exact HS1.out _ | exact HS2.out _ _) (first | (go_at_call 19; refine (tobytes_any g h zs _ (HM1.out.keep (Below.refl _ _).drew).bas.bm hzl).mono ?_; rintro e w2 ⟨rfl, rfl⟩))
                obtain ⟨W2, hW2⟩ : ∃ W2, W2 = ((W1.alloc (.cells (byteRow zs) 5)).setCell ⟨s + 1, 0, none⟩ (.bool true)).drew := ⟨_, rfl⟩
                rw [← hW2]
                have hM2 : Mid w W2 g h (s + 1) zs u8 P #[.bool true, .bool false, .int .i64 0, .slice none 0 0, .string ⟨#[]⟩] := by rw [hW2]; exact ((HM1.out.alloc _).put 0 (.bool true)).keep (Below.refl _ _).drew
                have hb1 : W2.cell? ⟨s, 1, none⟩ = some (.int .i64 p) := by rw [hW2]; exact (HS2.out _ _).1
                clear hW2 m0 m1 m2 k0 k1 k2 k3 k4 kf
                have W2k0 := hM2.cell 0
                have W2k1 := hM2.cell 1
                have W2k2 := hM2.cell 2
                have W2k3 := hM2.cell 3
                have W2k4 := hM2.cell 4
                have W2kf := hM2.frz
                have HM2 := Lib.hid hM2
                clear hM2
                go_wp2_with fail
                refine (isset_out g h zs p W2 HM2.out.bas.bm hzl hfar (by omega)).mono ?_
                rintro e w3 ⟨ve, rfl, ⟨te, xe, rfl⟩, hb3⟩
                have hM3 := HM2.out.keep hb3
                clear hb3 W2k0 W2k1 W2k2 W2k3 W2k4 W2kf
                have w3k0 := hM3.cell 0
                have w3k1 := hM3.cell 1
                have w3k2 := hM3.cell 2
                have w3k3 := hM3.cell 3
                have w3k4 := hM3.cell 4
                have w3kf := hM3.frz
                have HM5 := Lib.hid hM3
                clear hM3
                go_wp2_with fail
                go_region
                obtain ⟨W4, hW4⟩ : ∃ W4, W4 = ((w3.setCell ⟨s + 1, 1, none⟩ (.bool false)).setCell ⟨s + 1, 0, none⟩ (.bool false)).drew := ⟨_, rfl⟩
                rw [← hW4]
                have hM4 : Mid w W4 g h (s + 1) zs u8 P #[.bool false, .bool false, .int .i64 0, .slice none 0 0, .string ⟨#[]⟩] := by rw [hW4]; exact ((HM5.out.put 1 (.bool false)).put 0 (.bool false)).keep (Below.refl _ _).drew
                clear hW4 w3k0 w3k1 w3k2 w3k3 w3k4 w3kf
                have W4k0 := hM4.cell 0
                have W4k1 := hM4.cell 1
                have W4k2 := hM4.cell 2
                have W4k3 := hM4.cell 3
                have W4k4 := hM4.cell 4
                have W4kf := hM4.frz
                have HM4 := Lib.hid hM4
                have HIN := Lib.hid hin
                clear hM4 hin
                have hM3 : Mid w (W4) g h (s + 1) (zs) u8 P _ := HM4.out
                have hsl3 : (W4).ownsRow w.heap.size 61 2 (.slice none 0 0) (Told.rows (⟨false, false, 0, [], ⟨#[]⟩⟩ : Told)).length (flatI (Told.rows (⟨false, false, 0, [], ⟨#[]⟩⟩ : Told))) := World.ownsRow_nil _ _ _ _
                have hsz3 : w.heap.size ≤ (W4).heap.size := hM3.bas.below.size
                try simp only [World.size_setCell] at hsz3
                have HM3 := Lib.hid hM3
                have HSL3 := Lib.hid hsl3
                clear hM3 hsl3
                go_wp2_with (at_builtin; (refine wpList_append_own _ rfl _ _ 27 rfl w.heap.size 33 iT zT 5 56 Try.underlying27 hiT hzT hzT1 HT2.out HZ0.out (by decide) u8 P.length (flatT P) rfl (HM3.out.bas.tells.own.alloc _) ⟨(W4).heap.size, 0, none⟩ 1 1 [.bool false, .bool false, .int .i64 0, .slice none 0 0, .string ⟨#[]⟩] rfl rfl (cells_new #[.bool false, .bool false, .int .i64 0, .slice none 0 0, .string ⟨#[]⟩] (by simp)) (tcells_one (x := ((⟨false, false, 0, [], ⟨#[]⟩⟩ : Told), .slice none 0 0)) (by rfl)) (by unfold maxLen; omega) (by omega) (by simp; omega) ?_); intro v' w3 hown' hg3 hnil3; (have hb3 := Bas.snoc (t := (⟨false, false, 0, [], ⟨#[]⟩⟩ : Told)) (sl := .slice none 0 0) (HM3.out.bas.alloc _) (HSL3.out.alloc _) hg3 hown'); have HB3 := Lib.hid hb3; clear hown' hg3 hnil3 hb3)
                go_roundw
                case rel =>
                  obtain ⟨h9, P9, hp9, hb9⟩ := round_end hkL E0.out E1.out E2.out HP.out (by rw [← HZS.out]; exact (by simp [tell, HIN.out])) (by rw [← HZS.out]; exact (by simp [behind])) HB3.out
                  exact ⟨k + 1, h9, P9, by omega, by go_num, hp9, hb9⟩
                case measure => simp [intOf]; omega
        · have hin : inB zs sa := by
            have := HSA.out
            simpa [saidB] using this
          obtain ⟨p, hp, rfl⟩ : ∃ p : Nat, p < 8 * zs.length ∧ sa = p := ⟨sa.toNat, by have := hin.1; have := hin.2; omega, by have := hin.1; omega⟩
          have HIN := Lib.hid hin
          clear hin
          go_wp2_with fail
          refine (ff_any g h zs p W1 HM1.out.bas.bm hzl hp).mono ?_
          rintro e w2 ⟨⟨r, rfl, hr⟩, rfl⟩
          have HR := Lib.hid hr
          clear hr
          have hM3 : Mid w ((W1).setCell ⟨s + 1, 2, none⟩ (.int .i64 r)) g h (s + 1) (zs) u8 P _ := (HM1.out).put 2 (.int .i64 r)
          have hsl3 : ((W1).setCell ⟨s + 1, 2, none⟩ (.int .i64 r)).ownsRow w.heap.size 61 2 (.slice none 0 0) (Told.rows (⟨true, false, r, [], ⟨#[]⟩⟩ : Told)).length (flatI (Told.rows (⟨true, false, r, [], ⟨#[]⟩⟩ : Told))) := World.ownsRow_nil _ _ _ _
          have hsz3 : w.heap.size ≤ ((W1).setCell ⟨s + 1, 2, none⟩ (.int .i64 r)).heap.size := hM3.bas.below.size
          try simp only [World.size_setCell] at hsz3
          have HM3 := Lib.hid hM3
          have HSL3 := Lib.hid hsl3
          clear hM3 hsl3
          go_wp2_with (at_builtin; (refine wpList_append_own _ rfl _ _ 27 rfl w.heap.size 33 iT zT 5 56 Try.underlying27 hiT hzT hzT1 HT2.out HZ0.out (by decide) u8 P.length (flatT P) rfl (HM3.out.bas.tells.own.alloc _) ⟨(W1).heap.size, 0, none⟩ 1 1 [.bool true, .bool false, .int .i64 r, .slice none 0 0, .string ⟨#[]⟩] rfl rfl (cells_new #[.bool true, .bool false, .int .i64 r, .slice none 0 0, .string ⟨#[]⟩] (by simp)) (tcells_one (x := ((⟨true, false, r, [], ⟨#[]⟩⟩ : Told), .slice none 0 0)) (by rfl)) (by unfold maxLen; omega) (by omega) (by simp; omega) ?_); intro v' w3 hown' hg3 hnil3; (have hb3 := Bas.snoc (t := (⟨true, false, r, [], ⟨#[]⟩⟩ : Told)) (sl := .slice none 0 0) (HM3.out.bas.alloc _) (HSL3.out.alloc _) hg3 hown'); have HB3 := Lib.hid hb3; clear hown' hg3 hnil3 hb3)
          go_roundw
          case rel =>
            obtain ⟨h9, P9, hp9, hb9⟩ := round_end hkL E0.out E1.out E2.out HP.out (by rw [← HZS.out]; exact (by rw [HR.out.uniq (firstOf_is _ _ _)]; simp [tell, HIN.out])) (by rw [← HZS.out]; exact (by simp [behind])) HB3.out
            exact ⟨k + 1, h9, P9, by omega, by go_num, hp9, hb9⟩
          case measure => simp [intOf]; omega
        · skip
          go_wp2_with fail
          refine (fs_any g h zs W1 HM1.out.bas.bm hzl).mono ?_
          rintro e w2 ⟨⟨r, rfl, hr⟩, rfl⟩
          have HR := Lib.hid hr
          clear hr
          have hM3 : Mid w ((W1).setCell ⟨s + 1, 2, none⟩ (.int .i64 r)) g h (s + 1) (zs) u8 P _ := (HM1.out).put 2 (.int .i64 r)
          have hsl3 : ((W1).setCell ⟨s + 1, 2, none⟩ (.int .i64 r)).ownsRow w.heap.size 61 2 (.slice none 0 0) (Told.rows (⟨true, false, r, [], ⟨#[]⟩⟩ : Told)).length (flatI (Told.rows (⟨true, false, r, [], ⟨#[]⟩⟩ : Told))) := World.ownsRow_nil _ _ _ _
          have hsz3 : w.heap.size ≤ ((W1).setCell ⟨s + 1, 2, none⟩ (.int .i64 r)).heap.size := hM3.bas.below.size
          try simp only [World.size_setCell] at hsz3
          have HM3 := Lib.hid hM3
          have HSL3 := Lib.hid hsl3
          clear hM3 hsl3
          go_wp2_with (at_builtin; (refine wpList_append_own _ rfl _ _ 27 rfl w.heap.size 33 iT zT 5 56 Try.underlying27 hiT hzT hzT1 HT2.out HZ0.out (by decide) u8 P.length (flatT P) rfl (HM3.out.bas.tells.own.alloc _) ⟨(W1).heap.size, 0, none⟩ 1 1 [.bool true, .bool false, .int .i64 r, .slice none 0 0, .string ⟨#[]⟩] rfl rfl (cells_new #[.bool true, .bool false, .int .i64 r, .slice none 0 0, .string ⟨#[]⟩] (by simp)) (tcells_one (x := ((⟨true, false, r, [], ⟨#[]⟩⟩ : Told), .slice none 0 0)) (by rfl)) (by unfold maxLen; omega) (by omega) (by simp; omega) ?_); intro v' w3 hown' hg3 hnil3; (have hb3 := Bas.snoc (t := (⟨true, false, r, [], ⟨#[]⟩⟩ : Told)) (sl := .slice none 0 0) (HM3.out.bas.alloc _) (HSL3.out.alloc _) hg3 hown'); have HB3 := Lib.hid hb3; clear hown' hg3 hnil3 hb3)
          go_roundw
          case rel =>
            obtain ⟨h9, P9, hp9, hb9⟩ := round_end hkL E0.out E1.out E2.out HP.out (by rw [← HZS.out]; exact (by rw [HR.out.uniq (firstOf_is _ _ _)]; simp [tell])) (by rw [← HZS.out]; exact (by simp [behind])) HB3.out
            exact ⟨k + 1, h9, P9, by omega, by go_num, hp9, hb9⟩
          case measure => simp [intOf]; omega
        · go_wp2_with fail
          refine (fl_any g h zs W1 HM1.out.bas.bm hzl).mono ?_
          rintro e w2 ⟨⟨vf, rfl, hfl⟩, hb2⟩
          obtain ⟨A2, c2, rfl⟩ := own_shape hfl
          obtain ⟨w9, hw9⟩ : ∃ x, x = wr := ⟨_, rfl⟩
          rw [← hw9] at HWR HBZ HSW
          have HS9 := HSW
          clear hw9
          obtain ⟨rows, hrows⟩ : ∃ x, x = freeOf (bitsOf zs) := ⟨_, rfl⟩
          rw [← hrows] at hfl ⊢
          have hrl : rows.length ≤ 8001 := by
            rw [hrows]
            have := freeOf_len (bitsOf zs)
            rw [bitsOf_len] at this
            omega
          obtain ⟨m, hm⟩ : ∃ m, m = rows.length := ⟨_, rfl⟩
          rw [← hm] at hrl hfl ⊢
          have hM2 := HM1.out.keep hb2
          have hwr2 : Below w9.heap.size w9 w2 := HWR.out.trans (hb2.mono HWR.out.size)
          have hfl2 := own_base hfl (show s + 2 ≤ W1.heap.size by rw [HSZ1.out]; exact Nat.le_refl _)
          have HM := Lib.hid hm
          have HROWS := Lib.hid hrows
          have HM2 := Lib.hid hM2
          have HWR2 := Lib.hid hwr2
          have HFL2 := Lib.hid hfl2
          clear hm hrows hM2 hwr2 hfl2 hfl hb2 m0 m1 m2 k0 k1 k2 k3 k4 kf
          go_wp2_with fail
          go_loopw [116] (fun i wi => ∃ (j : Nat) (sl : Value), j ≤ m ∧ i = .int .i64 j ∧ Below w9.heap.size w9 wi ∧ wi.heap[s + 1]? = some (.cells #[.bool true, .bool false, .int .i64 0, sl, .string ⟨#[]⟩] 33 (0, 0)) ∧ wi.ownsRow (s + 2) 61 2 sl j (flatI (rows.take j)) ∧ wi.ownsRow (s + 2) 60 2 (.slice A2 m c2) m (flatI rows)) (fun i _ => m - (intOf i).toNat)
          case atStart => exact ⟨0, .slice none 0 0, by omega, by go_num, HWR2.out, HM2.out.told, World.ownsRow_nil _ _ _ _, HFL2.out⟩
          case round =>
            obtain ⟨j, sl, hj, rfl, hwi, hto, hsl, hfl⟩ := hrel
            obtain ⟨A3, c3, rfl⟩ := own_shape hsl
            have hts : s + 1 < wr.heap.size := (Array.getElem?_eq_some_iff.1 hto).1
            have t0 := cell_of_row _ _ 0 _ _ _ hto
            have t1 := cell_of_row _ _ 1 _ _ _ hto
            have t2 := cell_of_row _ _ 2 _ _ _ hto
            have t3 := cell_of_row _ _ 3 _ _ _ hto
            have t4 := cell_of_row _ _ 4 _ _ _ hto
            have tf := fun i => frozen_of_row wr (s + 1) i _ _ hto
            by_cases hjm : j < m
            · have hjr : j < rows.length := by rw [← HM.out]; exact hjm
              obtain ⟨gF, cF, hgF, hfe⟩ : ∃ gF cF, gF < wr.heap.size ∧ Value.slice A2 m c2 = .slice (some ⟨gF, 0, none⟩) m cF := by
                rcases hfl.2 with ⟨_, hz⟩ | ⟨gF, cap, cur, e, hB, hg, _⟩
                · omega
                · exact ⟨gF, cap, (Array.getElem?_eq_some_iff.1 hg).1, e⟩
              cases hfe
              obtain ⟨f1, f2⟩ := flatI_at rows j hjr
              have d1 : wr.cell? ⟨gF, j * 2, none⟩ = some (.int .i64 rows[j].1) := by rw [World.ownsRow.cellAt hfl (j * 2) (by omega)]; exact f1
              have d2 : wr.cell? ⟨gF, j * 2 + 1, none⟩ = some (.int .i64 rows[j].2) := by rw [World.ownsRow.cellAt hfl (j * 2 + 1) (by omega)]; exact f2
              obtain ⟨ra, hra⟩ : ∃ x, x = rows[j].1 := ⟨_, rfl⟩
              obtain ⟨rb, hrb⟩ : ∃ x, x = rows[j].2 := ⟨_, rfl⟩
              rw [← hra] at d1
              rw [← hrb] at d2
              have HRA := Lib.hid hra
              have HRB := Lib.hid hrb
              have HWI := Lib.hid hwi
              have HTO := Lib.hid hto
              have HSL := Lib.hid hsl
              have HFL := Lib.hid hfl
              have hs9 : s ≤ wr.heap.size := by omega
              clear hra hrb hwi hto hsl hfl f1 f2
              go_wp2_with (at_builtin; (refine wpList_append_own _ rfl _ _ 31 rfl (s + 2) 61 iR (.agg #[.int .i64 0, .int .i64 0]) 2 16 Try.underlying31 hiR hzR hzR1 HR2.out rfl (by decide) _ _ _ rfl ((HSL.out.alloc _).alloc _) ⟨wr.heap.size + 1, 0, none⟩ 1 1 [.int .i64 ra, .int .i64 rb] rfl rfl (cells_new #[.int .i64 ra, .int .i64 rb] (by simp)) (ints_oneCell .i64 [ra, rb]) (by unfold maxLen; omega) (by omega) (by simp; omega) ?_); intro v' w3 hown' hg3 hnil3; obtain ⟨A4, c4, rfl⟩ := own_shape hown'; (have hto3 := (hg3.block (s + 1) (by simp; omega) (fun e' => by have := (HSL.out.lt _ e'.symm).1; omega)).trans ((Below.heap_alloc _ _ _ (by simp; omega)).trans ((Below.heap_alloc _ _ _ hts).trans HTO.out))); (have hfl3 := ((HFL.out.alloc _).alloc _).kept hg3 (own_apart HFL.out HSL.out (by decide))); (have hwi3 := (((HWI.out.alloc HWI.out.size _).alloc (by have := HWI.out.size; simp; omega) _).grown hg3 (by have := HWI.out.size; simp; omega) (fun k hk => by have := (HSL.out.lt k hk).1; have := HS9.out; omega))); have u0 := cell_of_row _ _ 0 _ _ _ hto3; have u1 := cell_of_row _ _ 1 _ _ _ hto3; have u2 := cell_of_row _ _ 2 _ _ _ hto3; have u3 := cell_of_row _ _ 3 _ _ _ hto3; have u4 := cell_of_row _ _ 4 _ _ _ hto3; have uf := fun i => frozen_of_row w3 (s + 1) i _ _ hto3; have HTO3 := Lib.hid hto3; have HFL3 := Lib.hid hfl3; have HWI3 := Lib.hid hwi3; have HOW3 := Lib.hid hown'; clear hto3 hfl3 hwi3 hown' hg3 hnil3)
              have hst := setCell_block (x := .slice A4 (j + 1) c4) (i := 3) HTO3.out (e := 61) (by decide)
              have hst2 := setCell_block (x := .slice A4 (j + 1) c4) (i := 3) HTO3.out (e := 60) (by decide)
              have HST := Lib.hid hst
              have HST2 := Lib.hid hst2
              clear hst hst2
              go_roundw
              case rel =>
                refine ⟨j + 1, .slice A4 (j + 1) c4, by omega, by go_num, HWI3.out.setCell (p := ⟨s + 1, 3, none⟩) (by rw [← HS9.out]; exact Nat.le_succ s) _, heap_setCell_same _ _ 3 _ _ (.slice A4 (j + 1) c4) HTO3.out, ?_, own_keep HFL3.out HST2.out⟩
                rw [flatI_take hjr, ← HRA.out, ← HRB.out]
                exact own_keep HOW3.out HST.out
              case measure => simp [intOf]; omega
            · obtain rfl : j = m := by omega
              have hM5 : Mid w wr g h (s + 1) zs u8 P #[.bool true, .bool false, .int .i64 0, .slice A3 j c3, .string ⟨#[]⟩] := ⟨HBZ.out.keep hwi, hto, HM2.out.fresh, HM2.out.hs⟩
              have hsl5 : wr.ownsRow w.heap.size 61 2 (.slice A3 j c3) rows.length (flatI rows) := by
                have h9 := own_base hsl (show w.heap.size ≤ s + 2 by omega)
                rw [List.take_of_length_le (by rw [← HM.out]; exact Nat.le_refl _)] at h9
                rw [← HM.out]
                exact h9
              have HM5 := Lib.hid hM5
              have HSL5 := Lib.hid hsl5
              clear hwi hto hsl hfl hM5 hsl5
              have hM3 : Mid w (wr) g h (s + 1) (zs) u8 P _ := HM5.out
              have hsl3 : (wr).ownsRow w.heap.size 61 2 (.slice A3 j c3) (Told.rows (⟨true, false, 0, rows, ⟨#[]⟩⟩ : Told)).length (flatI (Told.rows (⟨true, false, 0, rows, ⟨#[]⟩⟩ : Told))) := HSL5.out
              have hsz3 : w.heap.size ≤ (wr).heap.size := hM3.bas.below.size
              try simp only [World.size_setCell] at hsz3
              have HM3 := Lib.hid hM3
              have HSL3 := Lib.hid hsl3
              clear hM3 hsl3
              go_wp2_with (at_builtin; (refine wpList_append_own _ rfl _ _ 27 rfl w.heap.size 33 iT zT 5 56 Try.underlying27 hiT hzT hzT1 HT2.out HZ0.out (by decide) u8 P.length (flatT P) rfl (HM3.out.bas.tells.own.alloc _) ⟨(wr).heap.size, 0, none⟩ 1 1 [.bool true, .bool false, .int .i64 0, .slice A3 j c3, .string ⟨#[]⟩] rfl rfl (cells_new #[.bool true, .bool false, .int .i64 0, .slice A3 j c3, .string ⟨#[]⟩] (by simp)) (tcells_one (x := ((⟨true, false, 0, rows, ⟨#[]⟩⟩ : Told), .slice A3 j c3)) (by rfl)) (by unfold maxLen; omega) (by omega) (by simp; omega) ?_); intro v' w3 hown' hg3 hnil3; (have hb3 := Bas.snoc (t := (⟨true, false, 0, rows, ⟨#[]⟩⟩ : Told)) (sl := .slice A3 j c3) (HM3.out.bas.alloc _) (HSL3.out.alloc _) hg3 hown'); have HB3 := Lib.hid hb3; clear hown' hg3 hnil3 hb3)
              go_roundw
              case rel =>
                obtain ⟨h9, P9, hp9, hb9⟩ := round_end hkL E0.out E1.out E2.out HP.out (by rw [← HZS.out]; exact (by rw [HROWS.out]; simp [tell])) (by rw [← HZS.out]; exact (by simp [behind])) HB3.out
                exact ⟨k + 1, h9, P9, by omega, by go_num, hp9, hb9⟩
              case measure => simp [intOf]; omega
        · go_wp2_with fail
          refine (tobytes_any g h zs W1 HM1.out.bas.bm hzl).mono ?_
          rintro e w2 ⟨rfl, hw2⟩
          have hM2 : Mid w w2 g h (s + 1) zs u8 P #[.bool true, .bool false, .int .i64 0, .slice none 0 0, .string ⟨#[]⟩] := by rw [hw2]; exact HM1.out.alloc _
          have hcv : (convert 48 9 (.slice (some ⟨W1.heap.size, 0, none⟩) zs.length zs.length)).run Try.prog w2 = .ok (.string (strOfNums zs)) w2 :=
            run_convert_bytes_arg w2 48 5 Try.underlying48 Try.underlying5 W1.heap.size 0 zs.length zs.length zs rfl (fun i hi => by
              rw [Nat.zero_add, hw2, cell_of_row _ _ i _ _ _ (heap_new rfl), byteRow, List.getElem?_toArray, List.getElem?_map, List.getElem?_eq_getElem hi]
              simp [List.getD, hi]) 9 Try.underlying9
          clear hw2 k0 k1 k2 k3 k4 kf
          have w2k0 := hM2.cell 0
          have w2k1 := hM2.cell 1
          have w2k2 := hM2.cell 2
          have w2k3 := hM2.cell 3
          have w2k4 := hM2.cell 4
          have w2kf := hM2.frz
          have HM2 := Lib.hid hM2
          clear hM2
          have hM3 : Mid w ((w2).setCell ⟨s + 1, 4, none⟩ (.string (strOfNums zs))) g h (s + 1) (zs) u8 P _ := (HM2.out).put 4 (.string (strOfNums zs))
          have hsl3 : ((w2).setCell ⟨s + 1, 4, none⟩ (.string (strOfNums zs))).ownsRow w.heap.size 61 2 (.slice none 0 0) (Told.rows (⟨true, false, 0, [], strOfNums zs⟩ : Told)).length (flatI (Told.rows (⟨true, false, 0, [], strOfNums zs⟩ : Told))) := World.ownsRow_nil _ _ _ _
          have hsz3 : w.heap.size ≤ ((w2).setCell ⟨s + 1, 4, none⟩ (.string (strOfNums zs))).heap.size := hM3.bas.below.size
          try simp only [World.size_setCell] at hsz3
          have HM3 := Lib.hid hM3
          have HSL3 := Lib.hid hsl3
          clear hM3 hsl3
          go_wp2_with (at_builtin; (refine wpList_append_own _ rfl _ _ 27 rfl w.heap.size 33 iT zT 5 56 Try.underlying27 hiT hzT hzT1 HT2.out HZ0.out (by decide) u8 P.length (flatT P) rfl (HM3.out.bas.tells.own.alloc _) ⟨(w2).heap.size, 0, none⟩ 1 1 [.bool true, .bool false, .int .i64 0, .slice none 0 0, .string (strOfNums zs)] rfl rfl (cells_new #[.bool true, .bool false, .int .i64 0, .slice none 0 0, .string (strOfNums zs)] (by simp)) (tcells_one (x := ((⟨true, false, 0, [], strOfNums zs⟩ : Told), .slice none 0 0)) (by rfl)) (by unfold maxLen; omega) (by omega) (by simp; omega) ?_); intro v' w3 hown' hg3 hnil3; (have hb3 := Bas.snoc (t := (⟨true, false, 0, [], strOfNums zs⟩ : Told)) (sl := .slice none 0 0) (HM3.out.bas.alloc _) (HSL3.out.alloc _) hg3 hown'); have HB3 := Lib.hid hb3; clear hown' hg3 hnil3 hb3)
          go_roundw
          case rel =>
            obtain ⟨h9, P9, hp9, hb9⟩ := round_end hkL E0.out E1.out E2.out HP.out (by rw [← HZS.out]; exact (by simp [tell])) (by rw [← HZS.out]; exact (by simp [behind])) HB3.out
            exact ⟨k + 1, h9, P9, by omega, by go_num, hp9, hb9⟩
          case measure => simp [intOf]; omega
        · obtain ⟨cap, W, hcv, hbW, hlt2, hsrc⟩ := conv_src (W1.setCell ⟨s + 1, 0, none⟩ (.bool true)) sd
          have hM2 := (HM1.out.put 0 (.bool true)).keep hbW
          have hne : (W1.setCell ⟨s + 1, 0, none⟩ (.bool true)).heap.size ≠ g := by
            have := HM1.out.bas.bm.lt.1
            simp only [World.size_setCell]
            omega
          have HC := Lib.hid (mfrom_any g h (W1.setCell ⟨s + 1, 0, none⟩ (.bool true)).heap.size cap zs (numS sd) W hM2.bas.bm hsrc hlt2 hne (numS_byt sd) (by rw [numS_len]; exact hdz) w.heap.size hM2.bas.hg)
          have hbx : W.heap[s]? = some (.cells #[.int .i64 7, .int .i64 sa, .string sd] 29 (0, 0)) := by
            have h1 : (W1.setCell ⟨s + 1, 0, none⟩ (.bool true)).heap[s]? = some (.cells #[.int .i64 7, .int .i64 sa, .string sd] 29 (0, 0)) := (heap_setCell_other _ _ _ _ (by show s ≠ s + 1; omega)).trans HBOX.out
            exact (hbW.block s (Array.getElem?_eq_some_iff.1 h1).1).trans h1
          simp only [World.size_setCell] at hcv HC
          have HM2 := Lib.hid hM2
          have HBX := Lib.hid hbx
          clear hM2 hsrc hlt2 hne hbx hbW
          have hdz2 : (sd.size : Int) ≤ 131072 := by omega
          go_wp2_with fail
          refine HC.out.mono ?_
          rintro e w2 ⟨rfl, hbm2, hbl2, hfr2⟩
          have hM3 := HM2.out.take hbm2 hbl2 (Nat.le_trans HM2.out.bas.below.size (Nat.le_refl _)) hfr2
          clear hbm2 hbl2 hfr2 k0 k1 k2 k3 k4 kf
          have w2k0 := hM3.cell 0
          have w2k1 := hM3.cell 1
          have w2k2 := hM3.cell 2
          have w2k3 := hM3.cell 3
          have w2k4 := hM3.cell 4
          have w2kf := hM3.frz
          have HM4 := Lib.hid hM3
          clear hM3
          have hM3 : Mid w (w2) g W.heap.size (s + 1) (numS sd) u8 P _ := HM4.out
          have hsl3 : (w2).ownsRow w.heap.size 61 2 (.slice none 0 0) (Told.rows (⟨true, false, 0, [], ⟨#[]⟩⟩ : Told)).length (flatI (Told.rows (⟨true, false, 0, [], ⟨#[]⟩⟩ : Told))) := World.ownsRow_nil _ _ _ _
          have hsz3 : w.heap.size ≤ (w2).heap.size := hM3.bas.below.size
          try simp only [World.size_setCell] at hsz3
          have HM3 := Lib.hid hM3
          have HSL3 := Lib.hid hsl3
          clear hM3 hsl3
          go_wp2_with (at_builtin; (refine wpList_append_own _ rfl _ _ 27 rfl w.heap.size 33 iT zT 5 56 Try.underlying27 hiT hzT hzT1 HT2.out HZ0.out (by decide) u8 P.length (flatT P) rfl (HM3.out.bas.tells.own.alloc _) ⟨(w2).heap.size, 0, none⟩ 1 1 [.bool true, .bool false, .int .i64 0, .slice none 0 0, .string ⟨#[]⟩] rfl rfl (cells_new #[.bool true, .bool false, .int .i64 0, .slice none 0 0, .string ⟨#[]⟩] (by simp)) (tcells_one (x := ((⟨true, false, 0, [], ⟨#[]⟩⟩ : Told), .slice none 0 0)) (by rfl)) (by unfold maxLen; omega) (by omega) (by simp; omega) ?_); intro v' w3 hown' hg3 hnil3; (have hb3 := Bas.snoc (t := (⟨true, false, 0, [], ⟨#[]⟩⟩ : Told)) (sl := .slice none 0 0) (HM3.out.bas.alloc _) (HSL3.out.alloc _) hg3 hown'); have HB3 := Lib.hid hb3; clear hown' hg3 hnil3 hb3)
          go_roundw
          case rel =>
            obtain ⟨h9, P9, hp9, hb9⟩ := round_end hkL E0.out E1.out E2.out HP.out (by rw [← HZS.out]; exact (by simp [tell])) (by rw [← HZS.out]; exact (by simp [behind])) HB3.out
            exact ⟨k + 1, h9, P9, by omega, by go_num, hp9, hb9⟩
          case measure => simp [intOf]; omega
      · obtain rfl : k = nL := by omega
        have hP := HP.out
        rw [HNL.out, List.take_length] at hP
        have HP2 := Lib.hid hP
        clear hP
        go_wp2
        go_ret2
        exact ⟨u8, P, rfl, HP2.out, HBAS.out.tells, HBAS.out.below⟩
end Go.Proofs.Ytbajengoblcmnaa
