/- Walks of impl.Unique and of the law FnUnique. -/
import Derived.Test.YtginjbmjofkomaaUnB
import Derived.Laws.AppendOwnNone
import Derived.Outline
namespace Go.Proofs.Ytginjbmjofkomaa
open Go.RowKit Go.Maps

theorem impl_uniq_any (A : Option Addr) (n c : Nat) (zs : List Int) (w : World) (hz : zs.length = n) (hm : n ≤ 1000) (hwf : ∀ x ∈ zs, (Lit.int .i64 x).wf = true) (h : IntsAt w w.heap.size A zs) :
    Calls Try.prog 6 #[.slice A n c] w fun e w' => ∃ (g cap : Nat) (ss : List Int), e = .returned (.slice (some ⟨g, 0, none⟩) ss.length cap) ∧ ss.Nodup ∧ (∀ x, x ∈ ss ↔ x ∈ zs) ∧ ss.length ≤ n ∧ ss.length ≤ cap ∧
      w'.ownsRow (w.heap.size + 1) 3 1 (.slice (some ⟨g, 0, none⟩) ss.length cap) ss.length (ss.map (.int .i64)) ∧ Below w.heap.size w w' := by
  have HI := Lib.hid h
  have HZ := Lib.hid hz
  have HW := Lib.hid hwf
  clear h hz hwf
  go_enter Try.func6, Try.ntmps6
  go_wp2_with (go_at_call 12; refine (uniq_any A n c zs _ HZ.out hm HW.out HI.out).mono ?_; rintro e w' ⟨g, cap, ss, rfl, h1, h2, h3, h4, h5, h6⟩)
  go_ret
  exact ⟨g, cap, ss, rfl, h1, h2, h3, h4, h5, h6⟩

theorem hasInt_yes (A : Option Addr) (n c B : Nat) (zs : List Int) (x : Int) (w : World) (hz : zs.length = n) (hm : n ≤ 9223372036854775807) (h : IntsAt w B A zs) (hx : x ∈ zs) :
    Calls Try.prog 7 #[.slice A n c, .int .i64 x] w fun e w' => e = .returned (.bool true) ∧ w = w' :=
  (hasInt_any A n c B zs x w hz hm h).mono fun _ _ ⟨he, hw⟩ => ⟨by rw [he]; simp [memB, hx], hw⟩
theorem hasInt_no (A : Option Addr) (n c B : Nat) (zs : List Int) (x : Int) (w : World) (hz : zs.length = n) (hm : n ≤ 9223372036854775807) (h : IntsAt w B A zs) (hx : x ∉ zs) :
    Calls Try.prog 7 #[.slice A n c, .int .i64 x] w fun e w' => e = .returned (.bool false) ∧ w = w' :=
  (hasInt_any A n c B zs x w hz hm h).mono fun _ _ ⟨he, hw⟩ => ⟨by rw [he]; simp [memB, hx], hw⟩

theorem one_of_ones {ss : List Int} (hn : ss.Nodup) (h : ∀ x, x ∈ ss ↔ x ∈ [(1 : Int), 1]) : ss.length = 1 := by
  match ss, hn, h with
  | [], _, h => have := (h 1).2 (by simp); simp at this
  | [a], _, _ => rfl
  | a :: b :: r, hn, h =>
    have ha : a = 1 := by simpa using (h a).1 (by simp)
    have hb : b = 1 := by simpa using (h b).1 (by simp)
    subst ha hb
    simp at hn

theorem uniq_ones (w : World) (g : Nat) (hg : g < w.heap.size) (c0 : w.cell? ⟨g, 0, none⟩ = some (.int .i64 1)) (c1 : w.cell? ⟨g, 1, none⟩ = some (.int .i64 1)) :
    Calls Try.prog 6 #[.slice (some ⟨g, 0, none⟩) 2 2] w fun e w' => ∃ g' cap : Nat, e = .returned (.slice (some ⟨g', 0, none⟩) 1 cap) ∧ Below w.heap.size w w' := by
  refine (impl_uniq_any (some ⟨g, 0, none⟩) 2 2 [1, 1] w rfl (by decide) (fun x hx => by simp at hx; subst hx; decide) (fun j hj => ?_)).mono ?_
  · refine ⟨_, rfl, hg, ?_⟩
    match j, hj with
    | 0, _ => simpa [Addr.add] using c0
    | 1, _ => simpa [Addr.add] using c1
  · rintro e w' ⟨g', cap, ss, rfl, h1, h2, _, _, _, h6⟩
    rw [one_of_ones h1 h2]
    exact ⟨g', cap, rfl, h6⟩

theorem own_empty (w : World) : (w.alloc (.cells #[] 3)).ownsRow w.heap.size 3 1 (.slice (some ⟨w.heap.size, 0, none⟩) 0 0) 0 [] :=
  ⟨rfl, .inr ⟨w.heap.size, 0, #[], rfl, Nat.le_refl _, heap_alloc_new _ _, Nat.le_refl _, by decide, rfl, rfl⟩⟩
theorem own_shape {w : World} {base e size n : Nat} {v : Value} {xs : List Value} (h : w.ownsRow base e size v n xs) : ∃ A c, v = .slice A n c := by
  rcases h.2 with ⟨rfl, rfl, _⟩ | ⟨g, cap, cur, rfl, _⟩
  · exact ⟨none, 0, rfl⟩
  · exact ⟨_, cap, rfl⟩

end Go.Proofs.Ytginjbmjofkomaa
