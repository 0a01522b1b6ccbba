/- Texts: what bpbText, Pad and zzLeft make. -/
import Derived.Test.YteklgajjclldkaaW
import Derived.Laws.IdiomStrings
import Derived.Laws.RangeString
import Derived.Outline
import Derived.Lib.Strings
namespace Go.Proofs.Yteklgajjclldkaa
open Go.RowKit

/-- letters of seven bits -/
def Asc (ts : List Int) : Prop := ∀ x ∈ ts, 0 ≤ x ∧ x < 128
theorem Asc.nil : Asc [] := fun x hx => by cases hx
theorem Asc.snoc {ts : List Int} (h : Asc ts) {x : Int} (h0 : 0 ≤ x) (h1 : x < 128) : Asc (ts ++ [x]) := fun y hy => by
  rcases List.mem_append.1 hy with hy | hy
  · exact h y hy
  · simp at hy; subst hy; exact ⟨h0, h1⟩
/-- letters of seven bits, none of them a blank -/
def AscL (ts : List Int) : Prop := Asc ts ∧ ∀ x ∈ ts, x ≠ 32
theorem AscL.nil : AscL [] := ⟨Asc.nil, fun x hx => by cases hx⟩
theorem AscL.snoc {ts : List Int} (h : AscL ts) {x : Int} (h0 : 33 ≤ x) (h1 : x < 128) : AscL (ts ++ [x]) := ⟨h.1.snoc (by omega) h1, fun y hy => by
  rcases List.mem_append.1 hy with hy | hy
  · exact h.2 y hy
  · simp at hy; omega⟩
def padL (ts : List Int) (n : Nat) : List Int := ts ++ List.replicate (n - ts.length) 32
theorem padL_full {ts : List Int} {n : Nat} (h : n ≤ ts.length) : padL ts n = ts := by simp [padL, Nat.sub_eq_zero_of_le h]
theorem padL_snoc {ts : List Int} {n : Nat} (h : ts.length < n) : padL (ts ++ [32]) n = padL ts n := by
  unfold padL
  rw [show n - ts.length = (n - (ts ++ [32]).length) + 1 from by simp; omega, List.replicate_succ, List.append_assoc]
  rfl
theorem padL_length {ts : List Int} {n : Nat} (h : ts.length ≤ n) : (padL ts n).length = n := by simp [padL]; omega
theorem Asc.pad {ts : List Int} (h : Asc ts) (n : Nat) : Asc (padL ts n) := fun x hx => by
  rcases List.mem_append.1 hx with hx | hx
  · exact h x hx
  · rw [List.eq_of_mem_replicate hx]; omega

/-- one byte of a text -/
theorem extract_one (s : ByteArray) (k : Nat) (h : k < s.size) : s.extract k (k + 1) = strOfNums [((s[k]'h).toNat : Int)] := by
  have h' : k < s.data.toList.length := by simpa using h
  apply ByteArray.ext
  apply Array.ext'
  rw [Lib.extract_data, strOfNums_data, show k + 1 - k = 1 from by omega, List.drop_eq_getElem_cons h']
  simp
  rfl

theorem text_any (s : ByteArray) (n : Nat) (w : World) (hs : s.size ≤ maxLen) (hn : n ≤ 100) :
    Calls Try.prog 9 #[.string s, .int .i64 n] w fun e w' => ∃ ts : List Int, e = .returned (.string (strOfNums ts)) ∧ AscL ts ∧ ts.length ≤ n ∧ w = w' := by
  unfold maxLen at hs
  go_enter Try.func9, Try.ntmps9
  go_wp2
  go_loop [5, 6] (fun o i => ∃ (k : Nat) (ts : List Int), k ≤ s.size ∧ i = .int .i64 k ∧ o = .string (strOfNums ts) ∧ AscL ts ∧ ts.length ≤ n) (fun _ i => s.size - (intOf i).toNat)
  case atStart => exact ⟨0, [], Nat.zero_le _, rfl, rfl, AscL.nil, Nat.zero_le _⟩
  case round =>
    obtain ⟨k, ts, hk, rfl, rfl, ha, hl⟩ := hrel
    have HA := Lib.hid ha
    clear ha
    by_cases hlt : k < s.size
    · by_cases hln : ts.length < n
      · by_cases hc : (65 ≤ (s[k].toNat : Int) ∧ (s[k].toNat : Int) ≤ 90) ∨ (48 ≤ (s[k].toNat : Int) ∧ (s[k].toNat : Int) ≤ 57)
        · have hx := Lib.hid (extract_one s k hlt)
          rcases hc with ⟨h1, h2⟩ | ⟨h1, h2⟩
          all_goals
            go_wp2
            go_round
            case rel => exact ⟨k + 1, _, by omega, by go_num, by rw [hx.out, nums_append], HA.out.snoc (by omega) (by omega), by simp; omega⟩
            case measure => simp [intOf]; omega
        · go_wp2
          all_goals
            go_round
            case rel => exact ⟨k + 1, ts, by omega, by go_num, rfl, HA.out, hl⟩
            case measure => simp [intOf]; omega
      · go_wp2
        go_ret
        exact ⟨ts, rfl, HA.out, hl, rfl⟩
    · go_wp2
      go_ret
      exact ⟨ts, rfl, HA.out, hl, rfl⟩
def lenV : Value → Nat
  | .string s => s.size
  | _ => 0
theorem lenV_nums (ts : List Int) : lenV (.string (strOfNums ts)) = ts.length := strOfNums_size ts
theorem extract_all (ts : List Int) : (strOfNums ts).extract 0 ts.length = strOfNums ts := by
  apply ByteArray.ext
  apply Array.ext'
  rw [Lib.extract_data, strOfNums_data]
  simp only [List.drop_zero, Nat.sub_zero]
  exact List.take_of_length_le (by simp)

theorem byte_of {x : Int} (h0 : 0 ≤ x) (h1 : x < 256) : ((UInt8.ofNat x.toNat).toNat : Int) = x := by
  simp only [UInt8.toNat_ofNat']
  omega
theorem get_nums (ts : List Int) (i : Nat) (h : i < (strOfNums ts).size) (h' : i < ts.length) : (strOfNums ts)[i] = UInt8.ofNat (ts[i]).toNat := by
  show (strOfNums ts).data[i] = _
  simp [strOfNums]
theorem runes_asc (ts : List Int) (ha : Asc ts) : ∀ (bound i : Nat) (acc : Array Value), i + bound = ts.length → (Conv.runesFrom (strOfNums ts) bound i acc).size = acc.size + bound
  | 0, _, _, _ => rfl
  | bound + 1, i, acc, h => by
    have hi : i < (strOfNums ts).size := by rw [strOfNums_size]; omega
    have hi' : i < ts.length := by omega
    have hx := ha _ (List.getElem_mem hi')
    have hb := byte_of hx.1 (by omega)
    have hd := decode_ascii (strOfNums ts) i hi (by rw [get_nums ts i hi hi']; omega)
    rw [Conv.runesFrom, if_pos hi, hd]
    simp only []
    rw [runes_asc ts ha bound (i + 1) _ (by omega)]
    simp
    omega

theorem left_any (ts : List Int) (n : Nat) (w : World) (ha : Asc ts) (hl : ts.length ≤ n) (hn : n ≤ 100) :
    Calls Try.prog 24 #[.string (strOfNums ts), .int .i64 n] w fun e w' => e = .returned (.string (strOfNums (padL ts n))) ∧ ∃ o, w' = w.drew.alloc o := by
  have hr : (Conv.runesFrom (strOfNums ts) (strOfNums ts).size 0 #[]).size = ts.length := by
    rw [runes_asc ts ha _ _ _ (by rw [strOfNums_size]; omega), strOfNums_size]; simp
  obtain ⟨cap, o, hcv⟩ : ∃ cap o, (convert 9 76 (.string (strOfNums ts))).run Try.prog w = .ok (.slice (some ⟨w.heap.size, 0, none⟩) ts.length cap) (w.drew.alloc o) := by
    have h := run_runes_of_string (P := Try.prog) w 9 76 21 (strOfNums ts) Try.underlying9 Try.underlying76 Try.underlying21 (by rw [hr]; omega)
    rw [hr] at h
    exact ⟨_, _, h⟩
  clear ha hr
  go_enter Try.func24, Try.ntmps24
  go_wp2
  go_loop [0, 5] (fun t i => ∃ (k : Nat) (zs : List Int), i = .int .i64 k ∧ t = .string (strOfNums zs) ∧ zs.length = k ∧ k ≤ n ∧ padL zs n = padL ts n) (fun t _ => n - lenV t)
  case atStart => exact ⟨ts.length, ts, rfl, rfl, rfl, hl, rfl⟩
  case round =>
    obtain ⟨k, zs, rfl, rfl, rfl, hz, hp⟩ := hrel
    have HP := Lib.hid hp
    clear hp
    by_cases hlt : zs.length < n
    · go_wp2
      go_round
      case rel => exact ⟨zs.length + 1, zs ++ [32], by go_num, by rw [← nums_append]; rfl, by simp, by omega, (padL_snoc hlt).trans HP.out⟩
      case measure => rw [show (ByteArray.mk #[32]) = strOfNums [32] from rfl, nums_append, lenV_nums, lenV_nums]; simp; omega
    · obtain rfl : n = zs.length := by omega
      go_wp2
      go_ret
      exact ⟨by rw [← HP.out, padL_full (Nat.le_refl _)]; rfl, o, rfl⟩
end Go.Proofs.Yteklgajjclldkaa
