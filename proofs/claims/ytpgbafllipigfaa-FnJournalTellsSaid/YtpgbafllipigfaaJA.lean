/- Bytes of a row, four at a time: written, read. No walk. -/
import Derived.Test.YtpgbafllipigfaaInst
import Derived.Lib.EndianBits
namespace Go.Proofs.Ytpgbafllipigfaa
open Go.RowKit

def by0 (x : Int) : Int := x % 256
def by1 (x : Int) : Int := x / 256 % 256
def by2 (x : Int) : Int := x / 65536 % 256
def by3 (x : Int) : Int := x / 16777216 % 256

/-- the number in a cell -/
def numIn : Value → Int
  | .int _ x => x
  | _ => 0
/-- the number in a row's cell -/
def nb (C : Array Value) (i : Nat) : Int := numIn (C.getD i undef)
def rd4 (C : Array Value) (o : Nat) : Int := nb C o * 16777216 + nb C (o + 1) * 65536 + nb C (o + 2) * 256 + nb C (o + 3)
/-- all cells are bytes -/
def Bytes (C : Array Value) : Prop := ∀ i, i < C.size → C[i]? = some (.int .u8 (nb C i)) ∧ 0 ≤ nb C i ∧ nb C i < 256
def put4 (C : Array Value) (o : Nat) (x : Int) : Array Value :=
  (((C.setIfInBounds o (.int .u8 (by3 x))).setIfInBounds (o + 1) (.int .u8 (by2 x))).setIfInBounds (o + 2) (.int .u8 (by1 x))).setIfInBounds (o + 3) (.int .u8 (by0 x))
/-- cells laid into a row -/
def sp (C : Array Value) (o : Nat) (cs : Array Value) : Array Value := (C.toList.take o ++ cs.toList ++ C.toList.drop (o + cs.size)).toArray
def zero1024 : Array Value := Array.replicate 1024 (.int .u8 0)
def hdB (h0 h1 h2 : Int) : Array Value := #[.int .u8 (by3 h0), .int .u8 (by2 h0), .int .u8 (by1 h0), .int .u8 (by0 h0), .int .u8 (by3 h1), .int .u8 (by2 h1), .int .u8 (by1 h1), .int .u8 (by0 h1), .int .u8 (by3 h2), .int .u8 (by2 h2), .int .u8 (by1 h2), .int .u8 (by0 h2)]

@[go_sem] theorem size_zero1024 : zero1024.size = 1024 := by simp [zero1024]
@[go_sem] theorem size_put4 (C : Array Value) (o : Nat) (x : Int) : (put4 C o x).size = C.size := by simp [put4]
theorem size_sp (C cs : Array Value) (o : Nat) (h : o + cs.size ≤ C.size) : (sp C o cs).size = C.size := by simp [sp]; omega
@[go_sem] theorem size_hdB (h0 h1 h2 : Int) : (hdB h0 h1 h2).size = 12 := rfl

theorem nb_set (C : Array Value) (k i : Nat) (k' : IntKind) (v : Int) (hk : k < C.size) : nb (C.setIfInBounds k (.int k' v)) i = if i = k then v else nb C i := by
  unfold nb
  by_cases h : i = k
  · subst h
    simp [hk, numIn]
  · simp [h, Array.getElem?_setIfInBounds_ne (Ne.symm h)]
theorem nb_put4 (C : Array Value) (o i : Nat) (x : Int) (ho : o + 3 < C.size) :
    nb (put4 C o x) i = if i = o + 3 then by0 x else if i = o + 2 then by1 x else if i = o + 1 then by2 x else if i = o then by3 x else nb C i := by
  unfold put4
  rw [nb_set _ _ _ _ _ (by simp; omega), nb_set _ _ _ _ _ (by simp; omega), nb_set _ _ _ _ _ (by simp; omega), nb_set _ _ _ _ _ (by omega)]
theorem sp_get (C cs : Array Value) (o i : Nat) (h : o + cs.size ≤ C.size) : (sp C o cs)[i]? = if o ≤ i ∧ i < o + cs.size then cs[i - o]? else C[i]? := by
  unfold sp
  rw [List.getElem?_toArray]
  have h1 : (C.toList.take o).length = o := by simp; omega
  by_cases ha : i < o
  · rw [if_neg (by omega), List.append_assoc, List.getElem?_append_left (by omega), List.getElem?_take_of_lt ha]
    simp
  · by_cases hb : i < o + cs.size
    · rw [if_pos ⟨by omega, hb⟩, List.append_assoc, List.getElem?_append_right (by omega), h1, List.getElem?_append_left (by simp; omega)]
      simp
    · rw [if_neg (by omega), List.getElem?_append_right (by simp; omega), List.getElem?_drop]
      have : o + cs.size + (i - (C.toList.take o ++ cs.toList).length) = i := by simp; omega
      rw [this]
      simp
theorem nb_of_get {C D : Array Value} {i j : Nat} (h : C[i]? = D[j]?) : nb C i = nb D j := by
  unfold nb
  rw [Array.getD_eq_getD_getElem?, Array.getD_eq_getD_getElem?, h]
theorem nb_sp (C cs : Array Value) (o i : Nat) (h : o + cs.size ≤ C.size) : nb (sp C o cs) i = if o ≤ i ∧ i < o + cs.size then nb cs (i - o) else nb C i := by
  have hg := sp_get C cs o i h
  by_cases hc : o ≤ i ∧ i < o + cs.size
  · rw [if_pos hc] at hg ⊢; exact nb_of_get hg
  · rw [if_neg hc] at hg ⊢; exact nb_of_get hg

theorem rd4_same (C : Array Value) (o : Nat) (x : Int) (ho : o + 3 < C.size) (h0 : 0 ≤ x) (h1 : x ≤ 4294967295) : rd4 (put4 C o x) o = x := by
  unfold rd4
  rw [nb_put4 C o _ x ho, nb_put4 C o _ x ho, nb_put4 C o _ x ho, nb_put4 C o _ x ho]
  simp
  unfold by0 by1 by2 by3
  omega
theorem rd4_other (C : Array Value) (o p : Nat) (x : Int) (ho : o + 3 < C.size) (h : p + 4 ≤ o ∨ o + 4 ≤ p) : rd4 (put4 C o x) p = rd4 C p := by
  unfold rd4
  rw [nb_put4 C o _ x ho, nb_put4 C o _ x ho, nb_put4 C o _ x ho, nb_put4 C o _ x ho]
  repeat rw [if_neg (by omega)]
theorem rd4_set (C : Array Value) (k p : Nat) (k' : IntKind) (v : Int) (hk : k < C.size) (h : p + 4 ≤ k ∨ k < p) : rd4 (C.setIfInBounds k (.int k' v)) p = rd4 C p := by
  unfold rd4
  rw [nb_set C k _ k' v hk, nb_set C k _ k' v hk, nb_set C k _ k' v hk, nb_set C k _ k' v hk]
  repeat rw [if_neg (by omega)]
theorem rd4_sp_other (C cs : Array Value) (o p : Nat) (ho : o + cs.size ≤ C.size) (h : p + 4 ≤ o ∨ o + cs.size ≤ p) : rd4 (sp C o cs) p = rd4 C p := by
  unfold rd4
  rw [nb_sp C cs o _ ho, nb_sp C cs o _ ho, nb_sp C cs o _ ho, nb_sp C cs o _ ho]
  repeat rw [if_neg (by omega)]
theorem rd4_sp_in (C cs : Array Value) (o p : Nat) (ho : o + cs.size ≤ C.size) (h : o ≤ p) (h2 : p + 4 ≤ o + cs.size) : rd4 (sp C o cs) p = rd4 cs (p - o) := by
  unfold rd4
  rw [nb_sp C cs o _ ho, nb_sp C cs o _ ho, nb_sp C cs o _ ho, nb_sp C cs o _ ho, if_pos (by omega), if_pos (by omega), if_pos (by omega), if_pos (by omega),
    show p + 1 - o = p - o + 1 from by omega, show p + 2 - o = p - o + 2 from by omega, show p + 3 - o = p - o + 3 from by omega]
theorem rd4_hdB0 (h0 h1 h2 : Int) (a : 0 ≤ h0) (b : h0 ≤ 4294967295) : rd4 (hdB h0 h1 h2) 0 = h0 := by
  simp only [rd4, nb, hdB, numIn, Array.getD_eq_getD_getElem?]
  simp
  unfold by0 by1 by2 by3
  omega
theorem rd4_hdB4 (h0 h1 h2 : Int) (a : 0 ≤ h1) (b : h1 ≤ 4294967295) : rd4 (hdB h0 h1 h2) 4 = h1 := by
  simp only [rd4, nb, hdB, numIn, Array.getD_eq_getD_getElem?]
  simp
  unfold by0 by1 by2 by3
  omega
theorem rd4_hdB8 (h0 h1 h2 : Int) (a : 0 ≤ h2) (b : h2 ≤ 4294967295) : rd4 (hdB h0 h1 h2) 8 = h2 := by
  simp only [rd4, nb, hdB, numIn, Array.getD_eq_getD_getElem?]
  simp
  unfold by0 by1 by2 by3
  omega

/-! ### all cells are bytes -/
theorem Bytes.zero : Bytes zero1024 := fun i hi => by
  have : i < 1024 := by simpa [zero1024] using hi
  simp [nb, zero1024, numIn, this]
theorem Bytes.set {C : Array Value} (h : Bytes C) {k : Nat} (hk : k < C.size) {v : Int} (h0 : 0 ≤ v) (h1 : v < 256) : Bytes (C.setIfInBounds k (.int .u8 v)) := fun i hi => by
  rw [nb_set C k i .u8 v hk]
  by_cases e : i = k
  · subst e
    simp [hk, h0, h1]
  · rw [if_neg e, Array.getElem?_setIfInBounds_ne (Ne.symm e)]
    exact h i (by simpa using hi)
theorem by0_bd (x : Int) : 0 ≤ by0 x ∧ by0 x < 256 := by unfold by0; omega
theorem by1_bd (x : Int) : 0 ≤ by1 x ∧ by1 x < 256 := by unfold by1; omega
theorem by2_bd (x : Int) : 0 ≤ by2 x ∧ by2 x < 256 := by unfold by2; omega
theorem by3_bd (x : Int) : 0 ≤ by3 x ∧ by3 x < 256 := by unfold by3; omega
theorem Bytes.put {C : Array Value} (h : Bytes C) {o : Nat} (ho : o + 3 < C.size) (x : Int) : Bytes (put4 C o x) :=
  (((h.set (by omega) (by3_bd x).1 (by3_bd x).2).set (by simp; omega) (by2_bd x).1 (by2_bd x).2).set (by simp; omega) (by1_bd x).1 (by1_bd x).2).set (by simp; omega) (by0_bd x).1 (by0_bd x).2
theorem Bytes.sp {C cs : Array Value} (h : Bytes C) (hc : Bytes cs) {o : Nat} (ho : o + cs.size ≤ C.size) : Bytes (sp C o cs) := fun i hi => by
  rw [size_sp C cs o ho] at hi
  rw [sp_get C cs o i ho, nb_sp C cs o i ho]
  by_cases e : o ≤ i ∧ i < o + cs.size
  · rw [if_pos e, if_pos e]; exact hc _ (by omega)
  · rw [if_neg e, if_neg e]; exact h i hi
theorem Bytes.hd (h0 h1 h2 : Int) : Bytes (hdB h0 h1 h2) := fun i hi => by
  have hi' : i < 12 := hi
  rcases (show i = 0 ∨ i = 1 ∨ i = 2 ∨ i = 3 ∨ i = 4 ∨ i = 5 ∨ i = 6 ∨ i = 7 ∨ i = 8 ∨ i = 9 ∨ i = 10 ∨ i = 11 from by omega) with rfl | rfl | rfl | rfl | rfl | rfl | rfl | rfl | rfl | rfl | rfl | rfl
  all_goals first
    | exact ⟨rfl, (by3_bd _).1, (by3_bd _).2⟩
    | exact ⟨rfl, (by2_bd _).1, (by2_bd _).2⟩
    | exact ⟨rfl, (by1_bd _).1, (by1_bd _).2⟩
    | exact ⟨rfl, (by0_bd _).1, (by0_bd _).2⟩

/-- four bytes in one word -/
theorem or4 (y0 y1 y2 y3 : Int) (a0 : 0 ≤ y0) (b0 : y0 < 256) (a1 : 0 ≤ y1) (b1 : y1 < 256) (a2 : 0 ≤ y2) (b2 : y2 < 256) (a3 : 0 ≤ y3) (b3 : y3 < 256) :
    bits BinOp.or IntKind.u32 (bits BinOp.or IntKind.u32 (bits BinOp.or IntKind.u32 y3 (y2 * 256)) (y1 * 65536)) (y0 * 16777216) = y0 * 16777216 + y1 * 65536 + y2 * 256 + y3 := by
  rw [u32_or8 y3 (y2 * 256) a3 b3 (by omega) (by omega) (by omega), u32_or16 (y3 + y2 * 256) (y1 * 65536) (by omega) (by omega) (by omega) (by omega) (by omega), u32_or24 (y3 + y2 * 256 + y1 * 65536) (y0 * 16777216) (by omega) (by omega) (by omega) (by omega) (by omega)]
  omega
end Go.Proofs.Ytpgbafllipigfaa
