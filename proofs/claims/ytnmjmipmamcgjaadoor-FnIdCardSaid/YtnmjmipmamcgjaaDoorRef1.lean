/- Contracts of the reference: names, sizes, places. -/
import Derived.Test.YtnmjmipmamcgjaaDoorTools
namespace Go.Proofs.YtnmjmipmamcgjaaDoor
open Go Go.RowKit
set_option linter.unusedVariables false
set_option linter.unusedSimpArgs false
set_option maxRecDepth 100000

theorem isName_yes (n : Int) (w : World) (h : IsNm n) : Calls Tryd.prog 4 #[.int .i64 n] w (Gives (.bool true) w) := by
  obtain ⟨h1, h2⟩ := h
  go_enter Tryd.func4, Tryd.ntmps4
  go_wp2
  go_ret
  exact ⟨rfl, Below.refl _ _⟩
theorem isName_no (n : Int) (w : World) (h : ¬ IsNm n) : Calls Tryd.prog 4 #[.int .i64 n] w (Gives (.bool false) w) := by
  unfold IsNm at h
  by_cases h1 : 0 ≤ n
  · have h2 : ¬ n < 16 := by omega
    clear h
    go_enter Tryd.func4, Tryd.ntmps4
    go_wp2
    go_ret
    exact ⟨rfl, Below.refl _ _⟩
  · clear h
    go_enter Tryd.func4, Tryd.ntmps4
    go_wp2
    go_ret
    exact ⟨rfl, Below.refl _ _⟩
theorem exported_any (n : Int) (w : World) : Calls Tryd.prog 11 #[.int .i64 n] w (Gives (.bool (exported n)) w) := by
  by_cases h1 : 4 ≤ n
  · by_cases h2 : n ≤ 7
    · go_enter Tryd.func11, Tryd.ntmps11
      go_wp2
      go_ret
      exact ⟨by simp [exported, h1, h2], Below.refl _ _⟩
    · by_cases h3 : n = 10
      · subst h3
        go_enter Tryd.func11, Tryd.ntmps11
        go_wp2
        go_ret
        exact ⟨by simp [exported], Below.refl _ _⟩
      · have h3' : (n == 10) = false := by simpa using h3
        by_cases h4 : 13 ≤ n
        all_goals
          go_enter Tryd.func11, Tryd.ntmps11
          go_wp2
          go_ret
          exact ⟨by simp [exported, h1, h2, h3, h4]; try omega, Below.refl _ _⟩
  · have h3' : (n == 10) = false := by simp; omega
    go_enter Tryd.func11, Tryd.ntmps11
    go_wp2
    go_ret
    exact ⟨by simp [exported]; omega, Below.refl _ _⟩

def nmV : List Value := nmB.map fun l => .string ⟨l.toArray⟩
theorem nmV_get (n : Int) (h : IsNm n) : nmV[n.toNat]? = some (.string (nameS n)) := by
  obtain ⟨h1, h2⟩ := h
  have : n.toNat < 16 := by omega
  have hl : nmB.length = 16 := rfl
  simp [nmV, nameS, List.getElem?_map, List.getD_eq_getElem?_getD]
  rw [List.getElem?_eq_getElem (by omega)]
  simp
theorem names_any (w : World) : Calls Tryd.prog 12 #[] w fun e w' => ∃ b, e = .returned (.slice (some ⟨b, 0, none⟩) 16 16) ∧ CellsAt w' b 0 nmV ∧ Below w.heap.size w w' := by
  go_enter Tryd.func12, Tryd.ntmps12
  go_wp2
  go_ret
  refine ⟨_, rfl, ?_, (Below.refl _ _).alloc (Nat.le_refl _) _⟩
  intro j v hv
  rw [Nat.zero_add, World.cell?_alloc_new]
  simp only [List.getElem?_toArray]; exact hv
theorem nameOf_any (n : Int) (w : World) (h : IsNm n) : Calls Tryd.prog 8 #[.int .i64 n] w (Gives (.string (nameS n)) w) := by
  have hv := nmV_get n h
  have HV := hid hv; clear hv
  obtain ⟨h1, h2⟩ := h
  go_enter Tryd.func8, Tryd.ntmps8
  go_wp2_with fail
  refine (names_any _).mono ?_
  rintro e w1 ⟨b, rfl, hc, hb⟩
  have hc' := hc _ _ HV.out
  rw [Nat.zero_add] at hc'
  clear hc
  go_wp2_with fail
  go_ret
  exact ⟨rfl, hb⟩
theorem nameS_size (n : Int) (h : IsNm n) : (nameS n).size ≤ 6 := by
  obtain ⟨h1, h2⟩ := h
  have : ∀ k, k < 16 → (nmB.getD k []).length ≤ 6 := by decide
  exact this n.toNat (by omega)
theorem str_app (a b : List UInt8) : (⟨a.toArray⟩ : ByteArray) ++ ⟨b.toArray⟩ = ⟨(a ++ b).toArray⟩ := by
  apply ByteArray.ext; simp
set_option maxHeartbeats 1000000 in
theorem id_any (p n : Int) (w : World) (h : IsNm n) (hp : p = 0 ∨ p = 1) : Calls Tryd.prog 6 #[.int .i64 p, .int .i64 n] w (Gives (.string (idS p n)) w) := by
  cases he : exported n with
  | true =>
    have Hn := hid h
    have He := hid he
    go_enter Tryd.func6, Tryd.ntmps6
    go_wp2_with fail
    refine (exported_any _ _).mono ?_
    rintro e w1 ⟨rfl, hb⟩
    have hz := Below.size hb; (try simp only [World.size_alloc, size_drew] at hz)
    go_wp2_with fail
    refine (nameOf_any _ _ Hn.out).mono ?_
    rintro e w2 ⟨rfl, hb2⟩
    go_wp2_with fail
    go_ret
    exact ⟨by simp [idS, idL, He.out, nameS], (by (repeat (first | (with_reducible assumption) | (with_reducible exact Below.refl _ _) | (with_reducible refine Below.drew ?_) | (with_reducible refine Below.setCell ?_ (by first | omega | (simp; done) | (simp; omega)) _) | (with_reducible refine Below.alloc ?_ (by first | omega | (simp; done) | (simp; omega)) _) | (refine below_via (by with_reducible assumption) ?_ (by first | omega | (simp; done) | (simp; omega))))))⟩
  | false =>
    have Hn := hid h
    have He := hid he
    have hsz := nameS_size n h
    clear h
    rcases hp with rfl | rfl
    all_goals
      go_enter Tryd.func6, Tryd.ntmps6
      go_wp2_with fail
      refine (exported_any _ _).mono ?_
      rintro e w1 ⟨rfl, hb⟩
      have hz := Below.size hb; (try simp only [World.size_alloc, size_drew] at hz)
      go_wp2_with fail
      refine Mix.wp_region [1, 5, 6] [(0, true), (2, false), (3, false), (4, false), (7, false)] [8] (fun _ => ⟨.cells #[.string ⟨#[112]⟩, .string ⟨#[113]⟩] 9, fun b => .slice (some ⟨b, 0, none⟩) 2 2⟩) (by kernel_rfl) (by kernel_rfl) (by decide) ?_
      iterate 3 (first | (refine pre_yes rfl rfl ?_; apply Exists.intro; refine ⟨fun W1 hW1 => ?_, ?_⟩; (focus (have hc1 := (bcell hW1).1; (try simp only [World.size_alloc, size_drew] at hc1); have hk1 := Keeps.below hW1; go_simp; first | exact rfl | (go_at_call 8; exact nameOf_any _ _ Hn.out))); simp only [Act.put, List.setIfInBounds_toArray, List.set_cons_succ, List.set_cons_zero]) | (refine pre_no rfl rfl ?_; simp only [Act.put, List.setIfInBounds_toArray, List.set_cons_succ, List.set_cons_zero]))
      refine pre_end ?_ (fun W2 hW2 => ?_)
      · refine fl_made rfl rfl (fun W1 hW1 => ?_) (fl_op (fl_op (fl_op (fl_op fl_nil))))
        go_simp
      · refine mid_made rfl (fun b W3 hW3 hh hb3 hn => ?_)
        simp only [Act.put, List.setIfInBounds_toArray, List.set_cons_succ, List.set_cons_zero]
        have hz2 := Below.size hW2; (try simp only [World.size_alloc, size_drew] at hz2)
        have hz3 := Below.size hW3; (try simp only [World.size_alloc, size_drew] at hz3)
        have hb0 : b < W3.heap.size := (Array.getElem?_eq_some_iff.1 hh).1
        have hc3 := fun j => cell_of_row W3 b j _ _ _ hh
        have hB3 := below_via hW3 hW2 (by first | omega | (simp; done) | (simp; omega))
        refine mid_val hB3 rfl rfl ?_
        apply Exists.intro
        refine ⟨?_, fun W4 hW4 => ?_⟩
        (focus (go_simp; first | exact rfl | fail))
        simp only [Act.put, List.setIfInBounds_toArray, List.set_cons_succ, List.set_cons_zero]
        have hz4 := Below.size hW4; (try simp only [World.size_alloc, size_drew] at hz4)
        have hB4 := below_via hW4 hB3 (by first | omega | (simp; done) | (simp; omega))
        have hc4 := (bcell hW4).1; (try simp only [World.size_alloc, size_drew] at hc4); have hf4 := (bcell hW4).2; (try simp only [World.size_alloc, size_drew] at hf4)
        have hb4 : b < W4.heap.size := by omega
        refine mid_val hB4 rfl rfl ?_
        apply Exists.intro
        refine ⟨?_, fun W5 hW5 => ?_⟩
        (focus (go_simp; first | exact rfl | fail))
        simp only [Act.put, List.setIfInBounds_toArray, List.set_cons_succ, List.set_cons_zero]
        have hz5 := Below.size hW5; (try simp only [World.size_alloc, size_drew] at hz5)
        have hB5 := below_via hW5 hB4 (by first | omega | (simp; done) | (simp; omega))
        have hc5 := (bcell hW5).1; (try simp only [World.size_alloc, size_drew] at hc5); have hf5 := (bcell hW5).2; (try simp only [World.size_alloc, size_drew] at hf5)
        refine mid_val hB5 rfl rfl ?_
        apply Exists.intro
        refine ⟨?_, fun W6 hW6 => ?_⟩
        (focus (go_simp; first | exact rfl | fail))
        simp only [Act.put, List.setIfInBounds_toArray, List.set_cons_succ, List.set_cons_zero]
        have hz6 := Below.size hW6; (try simp only [World.size_alloc, size_drew] at hz6)
        have hB6 := below_via hW6 hB5 (by first | omega | (simp; done) | (simp; omega))
        have hc6 := (bcell hW6).1; (try simp only [World.size_alloc, size_drew] at hc6); have hf6 := (bcell hW6).2; (try simp only [World.size_alloc, size_drew] at hf6)
        refine mid_val hB6 rfl rfl ?_
        apply Exists.intro
        refine ⟨?_, fun W7 hW7 => ?_⟩
        (focus (go_simp; first | exact rfl | (rw [if_neg (by omega)]; exact ⟨rfl, rfl⟩)))
        simp only [Act.put, List.setIfInBounds_toArray, List.set_cons_succ, List.set_cons_zero]
        have hz7 := Below.size hW7; (try simp only [World.size_alloc, size_drew] at hz7)
        have hB7 := below_via hW7 hB6 (by first | omega | (simp; done) | (simp; omega))
        have hc7 := (bcell hW7).1; (try simp only [World.size_alloc, size_drew] at hc7); have hf7 := (bcell hW7).2; (try simp only [World.size_alloc, size_drew] at hf7)
        refine mid_nil (tail_1 rfl ?_)
        go_wp2_with fail
        go_ret
        exact ⟨by simp [idS, idL, He.out, nameS, str_app], (by (repeat (first | (with_reducible assumption) | (with_reducible exact Below.refl _ _) | (with_reducible refine Below.drew ?_) | (with_reducible refine Below.setCell ?_ (by first | omega | (simp; done) | (simp; omega)) _) | (with_reducible refine Below.alloc ?_ (by first | omega | (simp; done) | (simp; omega)) _) | (refine below_via (by with_reducible assumption) ?_ (by first | omega | (simp; done) | (simp; omega))))))⟩
end Go.Proofs.YtnmjmipmamcgjaaDoor
