/- spec.Trim; what the bytes of a block of parameters say, read back. -/
import Derived.Test.YteklgajjclldkaaIB
import Derived.Test.YteklgajjclldkaaPF
namespace Go.Proofs.Yteklgajjclldkaa
open Go.RowKit
attribute [local go_sem ↓] Go.wp_at_zero Go.wp_at_succ
set_option linter.unusedVariables false
set_option linter.unusedSimpArgs false

set_option maxHeartbeats 1000000 in
theorem trim_any (zs : List Int) (w : World) (hb : Byt zs) (hn : zs.length ≤ 1000) :
    Calls Try.prog 7 #[.string (strOfNums zs)] w fun e w' => e = .returned (.string (strOfNums (trimL zs))) ∧ w = w' := by
  have HB := Lib.hid hb
  clear hb
  have HT0 := Lib.hid (show strOfNums zs = strOfNums (zs.take zs.length) by rw [List.take_length])
  go_enter Try.func7, Try.ntmps7
  go_wp2
  go_loopw [0] (fun s wr => ∃ k : Nat, k ≤ zs.length ∧ s = .string (strOfNums (zs.take k)) ∧ trimL (zs.take k) = trimL zs ∧ w = wr) (fun s _ => lenT s)
  case atStart => exact ⟨zs.length, Nat.le_refl _, by rw [HT0.out], by rw [List.take_length], rfl⟩
  case round =>
    obtain ⟨k, hk, rfl, ht, rfl⟩ := hrel
    have HT := Lib.hid ht
    clear ht
    have hsz : (strOfNums (zs.take k)).size = k := by rw [strOfNums_size, List.length_take]; omega
    rcases Nat.eq_zero_or_pos k with rfl | hpos
    · have HT2 := Lib.hid (show trimL zs = [] by rw [← HT.out]; rfl)
      go_wp2
      go_ret
      exact ⟨by rw [HT2.out]; rfl, rfl⟩
    · obtain ⟨m, rfl⟩ : ∃ m, k = m + 1 := ⟨k - 1, by omega⟩
      have hex := nums_extract zs (m + 1) m (by omega) hk
      obtain ⟨S, hS⟩ : ∃ S, S = strOfNums (zs.take (m + 1)) := ⟨_, rfl⟩
      have HS := Lib.hid hS
      rw [← hS] at hsz hex ⊢
      clear hS
      have hi : m < S.size := by omega
      have hat := nums_at' zs HB.out m (by omega) m (by omega) HS.out hi
      obtain ⟨x, hx⟩ : ∃ x, x = zs.getD m 0 := ⟨_, rfl⟩
      rw [← hx] at hat
      have HX := Lib.hid hx
      clear hx
      by_cases h32 : x = 32
      · subst h32
        go_wp2
        go_roundw
        case rel => exact ⟨m, by omega, by first | rfl | skip, by rw [← HT.out]; exact (trimL_step (by omega) HX.out.symm).symm, by first | rfl | trivial⟩
        case measure => simp [lenT, strOfNums_size, hsz]; omega
      · have HE := Lib.hid (show trimL zs = zs.take (m + 1) by rw [← HT.out]; exact trimL_last (by omega) (by rw [← HX.out]; exact h32))
        go_wp2
        go_ret
        exact ⟨by rw [HE.out, ← HS.out]; rfl, rfl⟩

/-- a text of letters has nothing to trim -/
theorem trimL_self {ts : List Int} (h : ∀ x ∈ ts, x ≠ 32) : trimL ts = ts := by
  rcases List.eq_nil_or_concat ts with rfl | ⟨l, x, rfl⟩
  · rfl
  · rw [List.concat_eq_append] at h ⊢
    exact trimL_other _ _ (h x (by simp))
theorem trimL_pad (ts : List Int) : ∀ k : Nat, trimL (ts ++ List.replicate k 32) = trimL ts
  | 0 => by simp
  | k + 1 => by rw [List.replicate_succ', ← List.append_assoc, trimL_blank]; exact trimL_pad ts k
theorem trimL_padL {ts : List Int} (n : Nat) (h : ∀ x ∈ ts, x ≠ 32) : trimL (padL ts n) = ts := (trimL_pad ts _).trans (trimL_self h)
theorem byt_all {ys : List Int} (h : ys.all inByte = true) : Byt ys := fun i => by
  rw [List.getD_eq_getElem?_getD]
  rcases Nat.lt_or_ge i ys.length with hi | hi
  · rw [List.getElem?_eq_getElem hi]
    have := List.all_eq_true.1 h _ (List.getElem_mem hi)
    simpa [inByte] using this
  · rw [List.getElem?_eq_none hi]; simp
theorem in_by0 (x : Int) : inByte (by0 x) = true := by unfold inByte by0; simp; omega
theorem in_by1 (x : Int) : inByte (by1 x) = true := by unfold inByte by1; simp; omega
theorem in_by2 (x : Int) : inByte (by2 x) = true := by unfold inByte by2; simp; omega
theorem in_by3 (x : Int) : inByte (by3 x) = true := by unfold inByte by3; simp; omega
theorem in_num {x : Int} (h0 : 0 ≤ x) (h1 : x ≤ 255) : inByte x = true := by unfold inByte; simp; omega
theorem nm16 {x : Int} (h0 : 0 ≤ x) (h1 : x ≤ 65535) : by0 x + by1 x * 256 = x := by unfold by0 by1; omega
theorem nm32 {x : Int} (h0 : 0 ≤ x) (h1 : x ≤ 4294967295) : by0 x + by1 x * 256 + by2 x * 65536 + by3 x * 16777216 = x := by unfold by0 by1 by2 by3; omega
theorem in41 : inByte 41 = true := by decide

set_option maxRecDepth 100000 in
set_option maxHeartbeats 4000000 in
theorem rb20_any (x2 x3 x4 x5 x6 x7 x8 : Int) (w : World) (a2 : 0 ≤ x2) (b2 : x2 ≤ 255) (a3 : 0 ≤ x3) (b3 : x3 ≤ 65535) (a4 : 0 ≤ x4) (b4 : x4 ≤ 255) (a5 : 0 ≤ x5) (b5 : x5 ≤ 65535) (a6 : 0 ≤ x6) (b6 : x6 ≤ 65535) (a7 : 0 ≤ x7) (b7 : x7 ≤ 255) (a8 : 0 ≤ x8) (b8 : x8 ≤ 65535) :
    Calls Try.prog 6 #[.int .i64 20, .string (strOfNums [(by0 512), (by1 512), x2, (by0 x3), (by1 x3), x4, (by0 x5), (by1 x5), (by0 x6), (by1 x6), x7, (by0 x8), (by1 x8)])] w fun e w' => e = .returned (.tuple #[.agg #[.int .i64 20, .int .i64 512, .int .i64 x2, .int .i64 x3, .int .i64 x4, .int .i64 x5, .int .i64 x6, .int .i64 x7, .int .i64 x8, .int .i64 0, .int .i64 0, .int .i64 0, .int .i64 0, .int .i64 0, .int .i64 0, .int .i64 0, .int .i64 0, .string ⟨#[]⟩, .string ⟨#[]⟩], .int .i64 13, .bool true]) ∧ Below w.heap.size w w' := by
  have hB : Byt [(by0 512), (by1 512), x2, (by0 x3), (by1 x3), x4, (by0 x5), (by1 x5), (by0 x6), (by1 x6), x7, (by0 x8), (by1 x8)] := byt_all (by simp only [List.all_cons, List.all_nil, in_by0, in_by1, in_by2, in_by3, in_num a2 b2, in_num a4 b4, in_num a7 b7, Bool.and_true])
  have h := br20_any [(by0 512), (by1 512), x2, (by0 x3), (by1 x3), x4, (by0 x5), (by1 x5), (by0 x6), (by1 x6), x7, (by0 x8), (by1 x8)] w hB rfl (nm16 (x := 512) (by omega) (by omega))
  refine h.mono ?_
  rintro e w' ⟨rfl, hb⟩
  refine ⟨?_, hb⟩
  clear h hb hB
  have q2 : p8 [(by0 512), (by1 512), x2, (by0 x3), (by1 x3), x4, (by0 x5), (by1 x5), (by0 x6), (by1 x6), x7, (by0 x8), (by1 x8)] 2 = x2 := rfl
  have q3 : p16 [(by0 512), (by1 512), x2, (by0 x3), (by1 x3), x4, (by0 x5), (by1 x5), (by0 x6), (by1 x6), x7, (by0 x8), (by1 x8)] 3 = x3 := nm16 a3 b3
  have q4 : p8 [(by0 512), (by1 512), x2, (by0 x3), (by1 x3), x4, (by0 x5), (by1 x5), (by0 x6), (by1 x6), x7, (by0 x8), (by1 x8)] 5 = x4 := rfl
  have q5 : p16 [(by0 512), (by1 512), x2, (by0 x3), (by1 x3), x4, (by0 x5), (by1 x5), (by0 x6), (by1 x6), x7, (by0 x8), (by1 x8)] 6 = x5 := nm16 a5 b5
  have q6 : p16 [(by0 512), (by1 512), x2, (by0 x3), (by1 x3), x4, (by0 x5), (by1 x5), (by0 x6), (by1 x6), x7, (by0 x8), (by1 x8)] 8 = x6 := nm16 a6 b6
  have q7 : p8 [(by0 512), (by1 512), x2, (by0 x3), (by1 x3), x4, (by0 x5), (by1 x5), (by0 x6), (by1 x6), x7, (by0 x8), (by1 x8)] 10 = x7 := rfl
  have q8 : p16 [(by0 512), (by1 512), x2, (by0 x3), (by1 x3), x4, (by0 x5), (by1 x5), (by0 x6), (by1 x6), x7, (by0 x8), (by1 x8)] 11 = x8 := nm16 a8 b8
  rw [q2, q3, q4, q5, q6, q7, q8]

set_option maxRecDepth 100000 in
set_option maxHeartbeats 4000000 in
theorem rb331_any (x2 x3 x4 x5 x6 x7 x8 x9 x10 x11 x12 : Int) (w : World) (a2 : 0 ≤ x2) (b2 : x2 ≤ 255) (a3 : 0 ≤ x3) (b3 : x3 ≤ 65535) (a4 : 0 ≤ x4) (b4 : x4 ≤ 255) (a5 : 0 ≤ x5) (b5 : x5 ≤ 65535) (a6 : 0 ≤ x6) (b6 : x6 ≤ 65535) (a7 : 0 ≤ x7) (b7 : x7 ≤ 255) (a8 : 0 ≤ x8) (b8 : x8 ≤ 65535) (a9 : 0 ≤ x9) (b9 : x9 ≤ 65535) (a10 : 0 ≤ x10) (b10 : x10 ≤ 65535) (a11 : 0 ≤ x11) (b11 : x11 ≤ 4294967295) (a12 : 0 ≤ x12) (b12 : x12 ≤ 4294967295) :
    Calls Try.prog 6 #[.int .i64 331, .string (strOfNums [(by0 512), (by1 512), x2, (by0 x3), (by1 x3), x4, (by0 x5), (by1 x5), (by0 x6), (by1 x6), x7, (by0 x8), (by1 x8), (by0 x9), (by1 x9), (by0 x10), (by1 x10), (by0 x11), (by1 x11), (by2 x11), (by3 x11), (by0 x12), (by1 x12), (by2 x12), (by3 x12)])] w fun e w' => e = .returned (.tuple #[.agg #[.int .i64 331, .int .i64 512, .int .i64 x2, .int .i64 x3, .int .i64 x4, .int .i64 x5, .int .i64 x6, .int .i64 x7, .int .i64 x8, .int .i64 x9, .int .i64 x10, .int .i64 x11, .int .i64 x12, .int .i64 0, .int .i64 0, .int .i64 0, .int .i64 0, .string ⟨#[]⟩, .string ⟨#[]⟩], .int .i64 25, .bool true]) ∧ Below w.heap.size w w' := by
  have hB : Byt [(by0 512), (by1 512), x2, (by0 x3), (by1 x3), x4, (by0 x5), (by1 x5), (by0 x6), (by1 x6), x7, (by0 x8), (by1 x8), (by0 x9), (by1 x9), (by0 x10), (by1 x10), (by0 x11), (by1 x11), (by2 x11), (by3 x11), (by0 x12), (by1 x12), (by2 x12), (by3 x12)] := byt_all (by simp only [List.all_cons, List.all_nil, in_by0, in_by1, in_by2, in_by3, in_num a2 b2, in_num a4 b4, in_num a7 b7, Bool.and_true])
  have h := br331_any [(by0 512), (by1 512), x2, (by0 x3), (by1 x3), x4, (by0 x5), (by1 x5), (by0 x6), (by1 x6), x7, (by0 x8), (by1 x8), (by0 x9), (by1 x9), (by0 x10), (by1 x10), (by0 x11), (by1 x11), (by2 x11), (by3 x11), (by0 x12), (by1 x12), (by2 x12), (by3 x12)] w hB rfl (nm16 (x := 512) (by omega) (by omega))
  refine h.mono ?_
  rintro e w' ⟨rfl, hb⟩
  refine ⟨?_, hb⟩
  clear h hb hB
  have q2 : p8 [(by0 512), (by1 512), x2, (by0 x3), (by1 x3), x4, (by0 x5), (by1 x5), (by0 x6), (by1 x6), x7, (by0 x8), (by1 x8), (by0 x9), (by1 x9), (by0 x10), (by1 x10), (by0 x11), (by1 x11), (by2 x11), (by3 x11), (by0 x12), (by1 x12), (by2 x12), (by3 x12)] 2 = x2 := rfl
  have q3 : p16 [(by0 512), (by1 512), x2, (by0 x3), (by1 x3), x4, (by0 x5), (by1 x5), (by0 x6), (by1 x6), x7, (by0 x8), (by1 x8), (by0 x9), (by1 x9), (by0 x10), (by1 x10), (by0 x11), (by1 x11), (by2 x11), (by3 x11), (by0 x12), (by1 x12), (by2 x12), (by3 x12)] 3 = x3 := nm16 a3 b3
  have q4 : p8 [(by0 512), (by1 512), x2, (by0 x3), (by1 x3), x4, (by0 x5), (by1 x5), (by0 x6), (by1 x6), x7, (by0 x8), (by1 x8), (by0 x9), (by1 x9), (by0 x10), (by1 x10), (by0 x11), (by1 x11), (by2 x11), (by3 x11), (by0 x12), (by1 x12), (by2 x12), (by3 x12)] 5 = x4 := rfl
  have q5 : p16 [(by0 512), (by1 512), x2, (by0 x3), (by1 x3), x4, (by0 x5), (by1 x5), (by0 x6), (by1 x6), x7, (by0 x8), (by1 x8), (by0 x9), (by1 x9), (by0 x10), (by1 x10), (by0 x11), (by1 x11), (by2 x11), (by3 x11), (by0 x12), (by1 x12), (by2 x12), (by3 x12)] 6 = x5 := nm16 a5 b5
  have q6 : p16 [(by0 512), (by1 512), x2, (by0 x3), (by1 x3), x4, (by0 x5), (by1 x5), (by0 x6), (by1 x6), x7, (by0 x8), (by1 x8), (by0 x9), (by1 x9), (by0 x10), (by1 x10), (by0 x11), (by1 x11), (by2 x11), (by3 x11), (by0 x12), (by1 x12), (by2 x12), (by3 x12)] 8 = x6 := nm16 a6 b6
  have q7 : p8 [(by0 512), (by1 512), x2, (by0 x3), (by1 x3), x4, (by0 x5), (by1 x5), (by0 x6), (by1 x6), x7, (by0 x8), (by1 x8), (by0 x9), (by1 x9), (by0 x10), (by1 x10), (by0 x11), (by1 x11), (by2 x11), (by3 x11), (by0 x12), (by1 x12), (by2 x12), (by3 x12)] 10 = x7 := rfl
  have q8 : p16 [(by0 512), (by1 512), x2, (by0 x3), (by1 x3), x4, (by0 x5), (by1 x5), (by0 x6), (by1 x6), x7, (by0 x8), (by1 x8), (by0 x9), (by1 x9), (by0 x10), (by1 x10), (by0 x11), (by1 x11), (by2 x11), (by3 x11), (by0 x12), (by1 x12), (by2 x12), (by3 x12)] 11 = x8 := nm16 a8 b8
  have q9 : p16 [(by0 512), (by1 512), x2, (by0 x3), (by1 x3), x4, (by0 x5), (by1 x5), (by0 x6), (by1 x6), x7, (by0 x8), (by1 x8), (by0 x9), (by1 x9), (by0 x10), (by1 x10), (by0 x11), (by1 x11), (by2 x11), (by3 x11), (by0 x12), (by1 x12), (by2 x12), (by3 x12)] 13 = x9 := nm16 a9 b9
  have q10 : p16 [(by0 512), (by1 512), x2, (by0 x3), (by1 x3), x4, (by0 x5), (by1 x5), (by0 x6), (by1 x6), x7, (by0 x8), (by1 x8), (by0 x9), (by1 x9), (by0 x10), (by1 x10), (by0 x11), (by1 x11), (by2 x11), (by3 x11), (by0 x12), (by1 x12), (by2 x12), (by3 x12)] 15 = x10 := nm16 a10 b10
  have q11 : p32 [(by0 512), (by1 512), x2, (by0 x3), (by1 x3), x4, (by0 x5), (by1 x5), (by0 x6), (by1 x6), x7, (by0 x8), (by1 x8), (by0 x9), (by1 x9), (by0 x10), (by1 x10), (by0 x11), (by1 x11), (by2 x11), (by3 x11), (by0 x12), (by1 x12), (by2 x12), (by3 x12)] 17 = x11 := nm32 a11 b11
  have q12 : p32 [(by0 512), (by1 512), x2, (by0 x3), (by1 x3), x4, (by0 x5), (by1 x5), (by0 x6), (by1 x6), x7, (by0 x8), (by1 x8), (by0 x9), (by1 x9), (by0 x10), (by1 x10), (by0 x11), (by1 x11), (by2 x11), (by3 x11), (by0 x12), (by1 x12), (by2 x12), (by3 x12)] 21 = x12 := nm32 a12 b12
  rw [q2, q3, q4, q5, q6, q7, q8, q9, q10, q11, q12]

set_option maxRecDepth 100000 in
set_option maxHeartbeats 4000000 in
theorem rb40_any (x2 x3 x4 x5 x6 x7 x8 x9 x10 x11 x12 x13 x14 x16 t0 t1 t2 t3 t4 t5 t6 t7 t8 t9 t10 u0 u1 u2 u3 u4 u5 u6 u7 : Int) (ts us : List Int) (ha : AscL ts) (hu : AscL us) (hpt : padL ts 11 = [t0, t1, t2, t3, t4, t5, t6, t7, t8, t9, t10]) (hpu : padL us 8 = [u0, u1, u2, u3, u4, u5, u6, u7]) (e0 : inByte t0 = true) (e1 : inByte t1 = true) (e2 : inByte t2 = true) (e3 : inByte t3 = true) (e4 : inByte t4 = true) (e5 : inByte t5 = true) (e6 : inByte t6 = true) (e7 : inByte t7 = true) (e8 : inByte t8 = true) (e9 : inByte t9 = true) (e10 : inByte t10 = true) (f0 : inByte u0 = true) (f1 : inByte u1 = true) (f2 : inByte u2 = true) (f3 : inByte u3 = true) (f4 : inByte u4 = true) (f5 : inByte u5 = true) (f6 : inByte u6 = true) (f7 : inByte u7 = true) (w : World) (a2 : 0 ≤ x2) (b2 : x2 ≤ 255) (a3 : 0 ≤ x3) (b3 : x3 ≤ 65535) (a4 : 0 ≤ x4) (b4 : x4 ≤ 255) (a5 : 0 ≤ x5) (b5 : x5 ≤ 65535) (a6 : 0 ≤ x6) (b6 : x6 ≤ 65535) (a7 : 0 ≤ x7) (b7 : x7 ≤ 255) (a8 : 0 ≤ x8) (b8 : x8 ≤ 65535) (a9 : 0 ≤ x9) (b9 : x9 ≤ 65535) (a10 : 0 ≤ x10) (b10 : x10 ≤ 65535) (a11 : 0 ≤ x11) (b11 : x11 ≤ 4294967295) (a12 : 0 ≤ x12) (b12 : x12 ≤ 4294967295) (a13 : 0 ≤ x13) (b13 : x13 ≤ 255) (a14 : 0 ≤ x14) (b14 : x14 ≤ 255) (a16 : 0 ≤ x16) (b16 : x16 ≤ 4294967295) :
    Calls Try.prog 6 #[.int .i64 40, .string (strOfNums [(by0 512), (by1 512), x2, (by0 x3), (by1 x3), x4, (by0 x5), (by1 x5), (by0 x6), (by1 x6), x7, (by0 x8), (by1 x8), (by0 x9), (by1 x9), (by0 x10), (by1 x10), (by0 x11), (by1 x11), (by2 x11), (by3 x11), (by0 x12), (by1 x12), (by2 x12), (by3 x12), x13, x14, 41, (by0 x16), (by1 x16), (by2 x16), (by3 x16), t0, t1, t2, t3, t4, t5, t6, t7, t8, t9, t10, u0, u1, u2, u3, u4, u5, u6, u7])] w fun e w' => e = .returned (.tuple #[.agg #[.int .i64 40, .int .i64 512, .int .i64 x2, .int .i64 x3, .int .i64 x4, .int .i64 x5, .int .i64 x6, .int .i64 x7, .int .i64 x8, .int .i64 x9, .int .i64 x10, .int .i64 x11, .int .i64 x12, .int .i64 x13, .int .i64 x14, .int .i64 41, .int .i64 x16, .string (strOfNums ts), .string (strOfNums us)], .int .i64 51, .bool true]) ∧ Below w.heap.size w w' := by
  have hB : Byt [(by0 512), (by1 512), x2, (by0 x3), (by1 x3), x4, (by0 x5), (by1 x5), (by0 x6), (by1 x6), x7, (by0 x8), (by1 x8), (by0 x9), (by1 x9), (by0 x10), (by1 x10), (by0 x11), (by1 x11), (by2 x11), (by3 x11), (by0 x12), (by1 x12), (by2 x12), (by3 x12), x13, x14, 41, (by0 x16), (by1 x16), (by2 x16), (by3 x16), t0, t1, t2, t3, t4, t5, t6, t7, t8, t9, t10, u0, u1, u2, u3, u4, u5, u6, u7] := byt_all (by simp only [List.all_cons, List.all_nil, in_by0, in_by1, in_by2, in_by3, in_num a2 b2, in_num a4 b4, in_num a7 b7, in_num a13 b13, in_num a14 b14, in41, e0, e1, e2, e3, e4, e5, e6, e7, e8, e9, e10, f0, f1, f2, f3, f4, f5, f6, f7, Bool.and_true])
  have g41 : p8 [(by0 512), (by1 512), x2, (by0 x3), (by1 x3), x4, (by0 x5), (by1 x5), (by0 x6), (by1 x6), x7, (by0 x8), (by1 x8), (by0 x9), (by1 x9), (by0 x10), (by1 x10), (by0 x11), (by1 x11), (by2 x11), (by3 x11), (by0 x12), (by1 x12), (by2 x12), (by3 x12), x13, x14, 41, (by0 x16), (by1 x16), (by2 x16), (by3 x16), t0, t1, t2, t3, t4, t5, t6, t7, t8, t9, t10, u0, u1, u2, u3, u4, u5, u6, u7] 27 = 41 := rfl
  have h := br40_any [(by0 512), (by1 512), x2, (by0 x3), (by1 x3), x4, (by0 x5), (by1 x5), (by0 x6), (by1 x6), x7, (by0 x8), (by1 x8), (by0 x9), (by1 x9), (by0 x10), (by1 x10), (by0 x11), (by1 x11), (by2 x11), (by3 x11), (by0 x12), (by1 x12), (by2 x12), (by3 x12), x13, x14, 41, (by0 x16), (by1 x16), (by2 x16), (by3 x16), t0, t1, t2, t3, t4, t5, t6, t7, t8, t9, t10, u0, u1, u2, u3, u4, u5, u6, u7] w hB rfl (nm16 (x := 512) (by omega) (by omega)) g41
  refine h.mono ?_
  rintro e w' ⟨rfl, hb⟩
  refine ⟨?_, hb⟩
  clear h hb hB
  have q2 : p8 [(by0 512), (by1 512), x2, (by0 x3), (by1 x3), x4, (by0 x5), (by1 x5), (by0 x6), (by1 x6), x7, (by0 x8), (by1 x8), (by0 x9), (by1 x9), (by0 x10), (by1 x10), (by0 x11), (by1 x11), (by2 x11), (by3 x11), (by0 x12), (by1 x12), (by2 x12), (by3 x12), x13, x14, 41, (by0 x16), (by1 x16), (by2 x16), (by3 x16), t0, t1, t2, t3, t4, t5, t6, t7, t8, t9, t10, u0, u1, u2, u3, u4, u5, u6, u7] 2 = x2 := rfl
  have q3 : p16 [(by0 512), (by1 512), x2, (by0 x3), (by1 x3), x4, (by0 x5), (by1 x5), (by0 x6), (by1 x6), x7, (by0 x8), (by1 x8), (by0 x9), (by1 x9), (by0 x10), (by1 x10), (by0 x11), (by1 x11), (by2 x11), (by3 x11), (by0 x12), (by1 x12), (by2 x12), (by3 x12), x13, x14, 41, (by0 x16), (by1 x16), (by2 x16), (by3 x16), t0, t1, t2, t3, t4, t5, t6, t7, t8, t9, t10, u0, u1, u2, u3, u4, u5, u6, u7] 3 = x3 := nm16 a3 b3
  have q4 : p8 [(by0 512), (by1 512), x2, (by0 x3), (by1 x3), x4, (by0 x5), (by1 x5), (by0 x6), (by1 x6), x7, (by0 x8), (by1 x8), (by0 x9), (by1 x9), (by0 x10), (by1 x10), (by0 x11), (by1 x11), (by2 x11), (by3 x11), (by0 x12), (by1 x12), (by2 x12), (by3 x12), x13, x14, 41, (by0 x16), (by1 x16), (by2 x16), (by3 x16), t0, t1, t2, t3, t4, t5, t6, t7, t8, t9, t10, u0, u1, u2, u3, u4, u5, u6, u7] 5 = x4 := rfl
  have q5 : p16 [(by0 512), (by1 512), x2, (by0 x3), (by1 x3), x4, (by0 x5), (by1 x5), (by0 x6), (by1 x6), x7, (by0 x8), (by1 x8), (by0 x9), (by1 x9), (by0 x10), (by1 x10), (by0 x11), (by1 x11), (by2 x11), (by3 x11), (by0 x12), (by1 x12), (by2 x12), (by3 x12), x13, x14, 41, (by0 x16), (by1 x16), (by2 x16), (by3 x16), t0, t1, t2, t3, t4, t5, t6, t7, t8, t9, t10, u0, u1, u2, u3, u4, u5, u6, u7] 6 = x5 := nm16 a5 b5
  have q6 : p16 [(by0 512), (by1 512), x2, (by0 x3), (by1 x3), x4, (by0 x5), (by1 x5), (by0 x6), (by1 x6), x7, (by0 x8), (by1 x8), (by0 x9), (by1 x9), (by0 x10), (by1 x10), (by0 x11), (by1 x11), (by2 x11), (by3 x11), (by0 x12), (by1 x12), (by2 x12), (by3 x12), x13, x14, 41, (by0 x16), (by1 x16), (by2 x16), (by3 x16), t0, t1, t2, t3, t4, t5, t6, t7, t8, t9, t10, u0, u1, u2, u3, u4, u5, u6, u7] 8 = x6 := nm16 a6 b6
  have q7 : p8 [(by0 512), (by1 512), x2, (by0 x3), (by1 x3), x4, (by0 x5), (by1 x5), (by0 x6), (by1 x6), x7, (by0 x8), (by1 x8), (by0 x9), (by1 x9), (by0 x10), (by1 x10), (by0 x11), (by1 x11), (by2 x11), (by3 x11), (by0 x12), (by1 x12), (by2 x12), (by3 x12), x13, x14, 41, (by0 x16), (by1 x16), (by2 x16), (by3 x16), t0, t1, t2, t3, t4, t5, t6, t7, t8, t9, t10, u0, u1, u2, u3, u4, u5, u6, u7] 10 = x7 := rfl
  have q8 : p16 [(by0 512), (by1 512), x2, (by0 x3), (by1 x3), x4, (by0 x5), (by1 x5), (by0 x6), (by1 x6), x7, (by0 x8), (by1 x8), (by0 x9), (by1 x9), (by0 x10), (by1 x10), (by0 x11), (by1 x11), (by2 x11), (by3 x11), (by0 x12), (by1 x12), (by2 x12), (by3 x12), x13, x14, 41, (by0 x16), (by1 x16), (by2 x16), (by3 x16), t0, t1, t2, t3, t4, t5, t6, t7, t8, t9, t10, u0, u1, u2, u3, u4, u5, u6, u7] 11 = x8 := nm16 a8 b8
  have q9 : p16 [(by0 512), (by1 512), x2, (by0 x3), (by1 x3), x4, (by0 x5), (by1 x5), (by0 x6), (by1 x6), x7, (by0 x8), (by1 x8), (by0 x9), (by1 x9), (by0 x10), (by1 x10), (by0 x11), (by1 x11), (by2 x11), (by3 x11), (by0 x12), (by1 x12), (by2 x12), (by3 x12), x13, x14, 41, (by0 x16), (by1 x16), (by2 x16), (by3 x16), t0, t1, t2, t3, t4, t5, t6, t7, t8, t9, t10, u0, u1, u2, u3, u4, u5, u6, u7] 13 = x9 := nm16 a9 b9
  have q10 : p16 [(by0 512), (by1 512), x2, (by0 x3), (by1 x3), x4, (by0 x5), (by1 x5), (by0 x6), (by1 x6), x7, (by0 x8), (by1 x8), (by0 x9), (by1 x9), (by0 x10), (by1 x10), (by0 x11), (by1 x11), (by2 x11), (by3 x11), (by0 x12), (by1 x12), (by2 x12), (by3 x12), x13, x14, 41, (by0 x16), (by1 x16), (by2 x16), (by3 x16), t0, t1, t2, t3, t4, t5, t6, t7, t8, t9, t10, u0, u1, u2, u3, u4, u5, u6, u7] 15 = x10 := nm16 a10 b10
  have q11 : p32 [(by0 512), (by1 512), x2, (by0 x3), (by1 x3), x4, (by0 x5), (by1 x5), (by0 x6), (by1 x6), x7, (by0 x8), (by1 x8), (by0 x9), (by1 x9), (by0 x10), (by1 x10), (by0 x11), (by1 x11), (by2 x11), (by3 x11), (by0 x12), (by1 x12), (by2 x12), (by3 x12), x13, x14, 41, (by0 x16), (by1 x16), (by2 x16), (by3 x16), t0, t1, t2, t3, t4, t5, t6, t7, t8, t9, t10, u0, u1, u2, u3, u4, u5, u6, u7] 17 = x11 := nm32 a11 b11
  have q12 : p32 [(by0 512), (by1 512), x2, (by0 x3), (by1 x3), x4, (by0 x5), (by1 x5), (by0 x6), (by1 x6), x7, (by0 x8), (by1 x8), (by0 x9), (by1 x9), (by0 x10), (by1 x10), (by0 x11), (by1 x11), (by2 x11), (by3 x11), (by0 x12), (by1 x12), (by2 x12), (by3 x12), x13, x14, 41, (by0 x16), (by1 x16), (by2 x16), (by3 x16), t0, t1, t2, t3, t4, t5, t6, t7, t8, t9, t10, u0, u1, u2, u3, u4, u5, u6, u7] 21 = x12 := nm32 a12 b12
  have q13 : p8 [(by0 512), (by1 512), x2, (by0 x3), (by1 x3), x4, (by0 x5), (by1 x5), (by0 x6), (by1 x6), x7, (by0 x8), (by1 x8), (by0 x9), (by1 x9), (by0 x10), (by1 x10), (by0 x11), (by1 x11), (by2 x11), (by3 x11), (by0 x12), (by1 x12), (by2 x12), (by3 x12), x13, x14, 41, (by0 x16), (by1 x16), (by2 x16), (by3 x16), t0, t1, t2, t3, t4, t5, t6, t7, t8, t9, t10, u0, u1, u2, u3, u4, u5, u6, u7] 25 = x13 := rfl
  have q14 : p8 [(by0 512), (by1 512), x2, (by0 x3), (by1 x3), x4, (by0 x5), (by1 x5), (by0 x6), (by1 x6), x7, (by0 x8), (by1 x8), (by0 x9), (by1 x9), (by0 x10), (by1 x10), (by0 x11), (by1 x11), (by2 x11), (by3 x11), (by0 x12), (by1 x12), (by2 x12), (by3 x12), x13, x14, 41, (by0 x16), (by1 x16), (by2 x16), (by3 x16), t0, t1, t2, t3, t4, t5, t6, t7, t8, t9, t10, u0, u1, u2, u3, u4, u5, u6, u7] 26 = x14 := rfl
  have q16 : p32 [(by0 512), (by1 512), x2, (by0 x3), (by1 x3), x4, (by0 x5), (by1 x5), (by0 x6), (by1 x6), x7, (by0 x8), (by1 x8), (by0 x9), (by1 x9), (by0 x10), (by1 x10), (by0 x11), (by1 x11), (by2 x11), (by3 x11), (by0 x12), (by1 x12), (by2 x12), (by3 x12), x13, x14, 41, (by0 x16), (by1 x16), (by2 x16), (by3 x16), t0, t1, t2, t3, t4, t5, t6, t7, t8, t9, t10, u0, u1, u2, u3, u4, u5, u6, u7] 28 = x16 := nm32 a16 b16
  have qt : trimL (subL [(by0 512), (by1 512), x2, (by0 x3), (by1 x3), x4, (by0 x5), (by1 x5), (by0 x6), (by1 x6), x7, (by0 x8), (by1 x8), (by0 x9), (by1 x9), (by0 x10), (by1 x10), (by0 x11), (by1 x11), (by2 x11), (by3 x11), (by0 x12), (by1 x12), (by2 x12), (by3 x12), x13, x14, 41, (by0 x16), (by1 x16), (by2 x16), (by3 x16), t0, t1, t2, t3, t4, t5, t6, t7, t8, t9, t10, u0, u1, u2, u3, u4, u5, u6, u7] 32 11) = ts := by
    rw [show subL [(by0 512), (by1 512), x2, (by0 x3), (by1 x3), x4, (by0 x5), (by1 x5), (by0 x6), (by1 x6), x7, (by0 x8), (by1 x8), (by0 x9), (by1 x9), (by0 x10), (by1 x10), (by0 x11), (by1 x11), (by2 x11), (by3 x11), (by0 x12), (by1 x12), (by2 x12), (by3 x12), x13, x14, 41, (by0 x16), (by1 x16), (by2 x16), (by3 x16), t0, t1, t2, t3, t4, t5, t6, t7, t8, t9, t10, u0, u1, u2, u3, u4, u5, u6, u7] 32 11 = [t0, t1, t2, t3, t4, t5, t6, t7, t8, t9, t10] from rfl, ← hpt]
    exact trimL_padL 11 ha.2
  have qu : trimL (subL [(by0 512), (by1 512), x2, (by0 x3), (by1 x3), x4, (by0 x5), (by1 x5), (by0 x6), (by1 x6), x7, (by0 x8), (by1 x8), (by0 x9), (by1 x9), (by0 x10), (by1 x10), (by0 x11), (by1 x11), (by2 x11), (by3 x11), (by0 x12), (by1 x12), (by2 x12), (by3 x12), x13, x14, 41, (by0 x16), (by1 x16), (by2 x16), (by3 x16), t0, t1, t2, t3, t4, t5, t6, t7, t8, t9, t10, u0, u1, u2, u3, u4, u5, u6, u7] 43 8) = us := by
    rw [show subL [(by0 512), (by1 512), x2, (by0 x3), (by1 x3), x4, (by0 x5), (by1 x5), (by0 x6), (by1 x6), x7, (by0 x8), (by1 x8), (by0 x9), (by1 x9), (by0 x10), (by1 x10), (by0 x11), (by1 x11), (by2 x11), (by3 x11), (by0 x12), (by1 x12), (by2 x12), (by3 x12), x13, x14, 41, (by0 x16), (by1 x16), (by2 x16), (by3 x16), t0, t1, t2, t3, t4, t5, t6, t7, t8, t9, t10, u0, u1, u2, u3, u4, u5, u6, u7] 43 8 = [u0, u1, u2, u3, u4, u5, u6, u7] from rfl, ← hpu]
    exact trimL_padL 8 hu.2
  rw [q2, q3, q4, q5, q6, q7, q8, q9, q10, q11, q12, q13, q14, q16, qt, qu]
end Go.Proofs.Yteklgajjclldkaa
