/- The walks of FnId: the package's Id and the thin package's functions. -/
import Derived.Test.YtnmjmipmamcgjaaDoorRef1
import Derived.Test.YtnmjmipmamcgjaaDoorShelf
namespace Go.Proofs.YtnmjmipmamcgjaaDoor
open Go Go.RowKit Go.Shelf
set_option linter.unusedVariables false
set_option linter.unusedSimpArgs false
set_option maxRecDepth 100000

/-- the tables of unicode and utf8 lie in memory -/
structure Tabs (w : World) : Prop where
  props : Lib.TabIs Tryd.prog w "unicode.properties" .u8 Lib.propertiesTab
  utf : Lib.Utf8Tabs 2 3 w
  upper : Lib.RVar 1 Lib.upperT w
theorem gProps : Tryd.prog.globalNamed "unicode.properties" = some 0 := by kernel_rfl
theorem Tabs.below {w W : World} (h : Tabs w) (hb : Below w.heap.size w W) : Tabs W :=
  ⟨TabIs_below gProps h.props hb, Utf8Tabs_below h.utf hb, RVar_below h.upper hb⟩
theorem dec_range : ∀ k, k < 16 → -2147483648 ≤ (((Lib.decodeGo ⟨(nmB.getD k []).toArray⟩).1 : Nat) : Int) ∧ (((Lib.decodeGo ⟨(nmB.getD k []).toArray⟩).1 : Nat) : Int) ≤ 2147483647 ∧ Lib.isUpperU (((Lib.decodeGo ⟨(nmB.getD k []).toArray⟩).1 : Nat) : Int) = exported (k : Int) := by
  decide +kernel
theorem isExported_any (n : Int) (w : World) (h : IsNm n) (hT : Tabs w) : Calls Tryd.prog 13 #[.string (nameS n)] w (Gives (.bool (exported n)) w) := by
  obtain ⟨h1, h2⟩ := h
  obtain ⟨k, rfl⟩ : ∃ k : Nat, n = k := ⟨n.toNat, by omega⟩
  obtain ⟨d1, d2, d3⟩ := dec_range k (by omega)
  have D3 := hid d3; clear d3
  have HT := hid hT; clear hT
  have hn : nameS (k : Int) = ⟨(nmB.getD k []).toArray⟩ := by simp [nameS]
  rw [hn]
  generalize (⟨(nmB.getD k []).toArray⟩ : ByteArray) = s at *
  go_enter Tryd.func13, Tryd.ntmps13
  go_wp2_with (go_at_call 14; refine (Tryd.utf8_DecodeRuneInString _ _ HT.out.utf).mono ?_; rintro e w1 ⟨rfl, hb⟩)
  have hz := Below.size hb; (try simp only [World.size_alloc, size_drew] at hz)
  go_wp2_with (go_at_call 15; refine (Tryd.unicode_IsUpper_all _ _ d1 d2 (HT.out.below hb).props (HT.out.below hb).upper).mono ?_; rintro e w2 ⟨rfl, hb2⟩)
  go_ret
  exact ⟨by rw [D3.out]; rfl, (by (repeat (first | (with_reducible assumption) | (with_reducible exact Below.refl _ _) | (with_reducible refine Below.drew ?_) | (with_reducible refine Below.setCell ?_ (by first | omega | (simp; done) | (simp; omega)) _) | (with_reducible refine Below.alloc ?_ (by first | omega | (simp; done) | (simp; omega)) _) | (refine below_via (by with_reducible assumption) ?_ (by first | omega | (simp; done) | (simp; omega))))))⟩

theorem implName_any (n : Int) (w : World) (h : IsNm n) : Calls Tryd.prog 7 #[.int .i64 n] w (Gives (.string (nameS n)) w) := by
  have hv := nmV_get n h
  have HV := hid hv; clear hv
  obtain ⟨h1, h2⟩ := h
  go_enter Tryd.func7, Tryd.ntmps7
  go_wp2_with fail
  go_ret
  obtain ⟨_, e⟩ := List.getElem?_eq_some_iff.1 HV.out
  exact ⟨congrArg Ending.returned e, (by (repeat (first | (with_reducible assumption) | (with_reducible exact Below.refl _ _) | (with_reducible refine Below.drew ?_) | (with_reducible refine Below.setCell ?_ (by first | omega | (simp; done) | (simp; omega)) _) | (with_reducible refine Below.alloc ?_ (by first | omega | (simp; done) | (simp; omega)) _) | (refine below_via (by with_reducible assumption) ?_ (by first | omega | (simp; done) | (simp; omega))))))⟩

/-- the path of a package -/
def pathB (p : Int) : ByteArray := ⟨#[if p = 0 then 112 else 113]⟩
theorem newPackage_any (s t : ByteArray) (w : World) : Calls Tryd.prog 10 #[.string s, .string t] w fun e w' =>
    ∃ b, e = .returned (.pointer (some ⟨b, 0, none⟩)) ∧ w'.cell? ⟨b, 0, none⟩ = some (.string s) ∧ Below w.heap.size w w' := by
  go_enter Tryd.func10, Tryd.ntmps10
  go_wp2_with fail
  go_ret
  exact ⟨_, rfl, by simp, (by (repeat (first | (with_reducible assumption) | (with_reducible exact Below.refl _ _) | (with_reducible refine Below.drew ?_) | (with_reducible refine Below.setCell ?_ (by first | omega | (simp; done) | (simp; omega)) _) | (with_reducible refine Below.alloc ?_ (by first | omega | (simp; done) | (simp; omega)) _) | (refine below_via (by with_reducible assumption) ?_ (by first | omega | (simp; done) | (simp; omega))))))⟩
theorem pkgId_any (b : Nat) (p n : Int) (w : World) (h : IsNm n) (hp : p = 0 ∨ p = 1) (hT : Tabs w) (hc : w.cell? ⟨b, 0, none⟩ = some (.string (pathB p))) :
    Calls Tryd.prog 9 #[.pointer (some ⟨b, 0, none⟩), .string (nameS n)] w (Gives (.string (idS p n)) w) := by
  have HT := hid hT; clear hT
  have Hn := hid h; clear h
  have hsz := nameS_size n Hn.out
  have hpz : (pathB p).size = 1 := rfl
  have hbb := World.block_lt_of_cell? w _ hc
  simp only at hbb
  cases he : exported n with
  | true =>
    have He := hid he; clear he
    go_enter Tryd.func9, Tryd.ntmps9
    go_wp2_with (go_at_call 13; refine (isExported_any _ _ Hn.out HT.out).mono ?_; rintro e w1 ⟨rfl, hb⟩; rw [He.out])
    have hz := Below.size hb; (try simp only [World.size_alloc, size_drew] at hz)
    go_wp2_with fail
    go_ret
    exact ⟨by simp [idS, idL, He.out, nameS], (by (repeat (first | (with_reducible assumption) | (with_reducible exact Below.refl _ _) | (with_reducible refine Below.drew ?_) | (with_reducible refine Below.setCell ?_ (by first | omega | (simp; done) | (simp; omega)) _) | (with_reducible refine Below.alloc ?_ (by first | omega | (simp; done) | (simp; omega)) _) | (refine below_via (by with_reducible assumption) ?_ (by first | omega | (simp; done) | (simp; omega))))))⟩
  | false =>
    have He := hid he; clear he
    have hne : (pathB p).toList.isEmpty = false := by rcases hp with rfl | rfl <;> decide +kernel
    go_enter Tryd.func9, Tryd.ntmps9
    go_wp2_with (go_at_call 13; refine (isExported_any _ _ Hn.out HT.out).mono ?_; rintro e w1 ⟨rfl, hb⟩; rw [He.out]; have hc1 := Keeps.below hb _ _ hc)
    go_ret
    exact ⟨by rcases hp with rfl | rfl <;> simp [idS, idL, He.out, nameS, str_app, pathB, ByteArray.ext_iff], (by (repeat (first | (with_reducible assumption) | (with_reducible exact Below.refl _ _) | (with_reducible refine Below.drew ?_) | (with_reducible refine Below.setCell ?_ (by first | omega | (simp; done) | (simp; omega)) _) | (with_reducible refine Below.alloc ?_ (by first | omega | (simp; done) | (simp; omega)) _) | (refine below_via (by with_reducible assumption) ?_ (by first | omega | (simp; done) | (simp; omega))))))⟩

theorem implId_any (p n : Int) (w : World) (h : IsNm n) (hp : p = 0 ∨ p = 1) (hT : Tabs w) :
    Calls Tryd.prog 5 #[.int .i64 p, .int .i64 n] w (Gives (.string (idS p n)) w) := by
  have HT := hid hT; clear hT
  have Hn := hid h; clear h
  have hpp : pathB p = ⟨#[if p = 0 then 112 else 113]⟩ := rfl
  rcases hp with rfl | rfl
  all_goals
    go_enter Tryd.func5, Tryd.ntmps5
    go_wp2_with (first
      | (go_at_call 10; refine (newPackage_any _ _ _).mono ?_; rintro e w1 ⟨b, rfl, hc, hb⟩; have hz := Below.size hb; simp only [World.size_alloc, size_drew] at hz)
      | (go_at_call 7; refine (implName_any _ _ Hn.out).mono ?_; rintro e w2 ⟨rfl, hb2⟩; have hz2 := Below.size hb2; have hc2 := Keeps.below hb2 _ _ hc)
      | (go_at_call 9; (first | refine (pkgId_any b 0 _ _ Hn.out (.inl rfl) (by exact HT.out.below (by (repeat (first | (with_reducible assumption) | (with_reducible exact Below.refl _ _) | (with_reducible refine Below.drew ?_) | (with_reducible refine Below.setCell ?_ (by first | omega | (simp; done) | (simp; omega)) _) | (with_reducible refine Below.alloc ?_ (by first | omega | (simp; done) | (simp; omega)) _) | (refine below_via (by with_reducible assumption) ?_ (by first | omega | (simp; done) | (simp; omega))))))) (by exact hc2)).mono ?_ | refine (pkgId_any b 1 _ _ Hn.out (.inr rfl) (by exact HT.out.below (by (repeat (first | (with_reducible assumption) | (with_reducible exact Below.refl _ _) | (with_reducible refine Below.drew ?_) | (with_reducible refine Below.setCell ?_ (by first | omega | (simp; done) | (simp; omega)) _) | (with_reducible refine Below.alloc ?_ (by first | omega | (simp; done) | (simp; omega)) _) | (refine below_via (by with_reducible assumption) ?_ (by first | omega | (simp; done) | (simp; omega))))))) (by exact hc2)).mono ?_); rintro e w3 ⟨rfl, hb3⟩; have hz3 := Below.size hb3))
    go_ret
    exact ⟨rfl, (by (repeat (first | (with_reducible assumption) | (with_reducible exact Below.refl _ _) | (with_reducible refine Below.drew ?_) | (with_reducible refine Below.setCell ?_ (by first | omega | (simp; done) | (simp; omega)) _) | (with_reducible refine Below.alloc ?_ (by first | omega | (simp; done) | (simp; omega)) _) | (refine below_via (by with_reducible assumption) ?_ (by first | omega | (simp; done) | (simp; omega))))))⟩

/-- the law -/
theorem law_any (p n : Int) (w : World) (hT : Tabs w) : Calls Tryd.prog 3 #[.int .i64 p, .int .i64 n] w fun e w' => e = .returned (.bool true) ∧ Below w.heap.size w w' := by
  have HT := hid hT; clear hT
  by_cases h0 : p < 0
  · go_enter Tryd.func3, Tryd.ntmps3
    go_wp2_with fail
    go_ret
    exact ⟨rfl, (by (repeat (first | (with_reducible assumption) | (with_reducible exact Below.refl _ _) | (with_reducible refine Below.drew ?_) | (with_reducible refine Below.setCell ?_ (by first | omega | (simp; done) | (simp; omega)) _) | (with_reducible refine Below.alloc ?_ (by first | omega | (simp; done) | (simp; omega)) _) | (refine below_via (by with_reducible assumption) ?_ (by first | omega | (simp; done) | (simp; omega))))))⟩
  by_cases h1 : p > 1
  · go_enter Tryd.func3, Tryd.ntmps3
    go_wp2_with fail
    go_ret
    exact ⟨rfl, (by (repeat (first | (with_reducible assumption) | (with_reducible exact Below.refl _ _) | (with_reducible refine Below.drew ?_) | (with_reducible refine Below.setCell ?_ (by first | omega | (simp; done) | (simp; omega)) _) | (with_reducible refine Below.alloc ?_ (by first | omega | (simp; done) | (simp; omega)) _) | (refine below_via (by with_reducible assumption) ?_ (by first | omega | (simp; done) | (simp; omega))))))⟩
  by_cases h2 : IsNm n
  · have H2 := hid h2; clear h2
    have hp : p = 0 ∨ p = 1 := by omega
    clear h0 h1
    rcases hp with rfl | rfl
    all_goals
      go_enter Tryd.func3, Tryd.ntmps3
      go_wp2_with (first
        | (go_at_call 4; refine (isName_yes _ _ H2.out).mono ?_; rintro e w1 ⟨rfl, hb1⟩; have hz1 := Below.size hb1)
        | (go_at_call 5; refine (implId_any _ _ _ H2.out (by first | exact .inl rfl | exact .inr rfl) (by exact HT.out.below (by (repeat (first | (with_reducible assumption) | (with_reducible exact Below.refl _ _) | (with_reducible refine Below.drew ?_) | (with_reducible refine Below.setCell ?_ (by first | omega | (simp; done) | (simp; omega)) _) | (with_reducible refine Below.alloc ?_ (by first | omega | (simp; done) | (simp; omega)) _) | (refine below_via (by with_reducible assumption) ?_ (by first | omega | (simp; done) | (simp; omega)))))))).mono ?_; rintro e w2 ⟨rfl, hb2⟩; have hz2 := Below.size hb2)
        | (go_at_call 6; refine (id_any _ _ _ H2.out (by first | exact .inl rfl | exact .inr rfl)).mono ?_; rintro e w3 ⟨rfl, hb3⟩; have hz3 := Below.size hb3)
        | (go_at_call 7; refine (implName_any _ _ H2.out).mono ?_; rintro e w4 ⟨rfl, hb4⟩; have hz4 := Below.size hb4)
        | (go_at_call 8; refine (nameOf_any _ _ H2.out).mono ?_; rintro e w5 ⟨rfl, hb5⟩; have hz5 := Below.size hb5))
      go_ret
      exact ⟨rfl, (by (repeat (first | (with_reducible assumption) | (with_reducible exact Below.refl _ _) | (with_reducible refine Below.drew ?_) | (with_reducible refine Below.setCell ?_ (by first | omega | (simp; done) | (simp; omega)) _) | (with_reducible refine Below.alloc ?_ (by first | omega | (simp; done) | (simp; omega)) _) | (refine below_via (by with_reducible assumption) ?_ (by first | omega | (simp; done) | (simp; omega))))))⟩
  · go_enter Tryd.func3, Tryd.ntmps3
    go_wp2_with (go_at_call 4; refine (isName_no _ _ h2).mono ?_; rintro e w1 ⟨rfl, hb1⟩; have hz1 := Below.size hb1)
    go_ret
    exact ⟨rfl, (by (repeat (first | (with_reducible assumption) | (with_reducible exact Below.refl _ _) | (with_reducible refine Below.drew ?_) | (with_reducible refine Below.setCell ?_ (by first | omega | (simp; done) | (simp; omega)) _) | (with_reducible refine Below.alloc ?_ (by first | omega | (simp; done) | (simp; omega)) _) | (refine below_via (by with_reducible assumption) ?_ (by first | omega | (simp; done) | (simp; omega))))))⟩
end Go.Proofs.YtnmjmipmamcgjaaDoor
