/- What the reference says of declarations and types, in plain Lean. -/
import Derived.Test.YtnmjmipmamcgjaaDoorData
namespace Go.Proofs.YtnmjmipmamcgjaaDoor
open Go Go.RowKit
set_option linter.unusedVariables false

def ty0 : Ty := .mk 0 0 [] [] [] []
def dc0 : Dc := ⟨0, 0, false, ty0, []⟩
def dc (W : Wd) (d : Nat) : Dc := W.getD d dc0
theorem dc_eq {W : Wd} {d : Nat} (h : d < W.length) : dc W d = W[d] := by simp [dc, h]

def sizeD (d : Dc) : Nat := d.methods.length + d.of.size
def sumD : Wd → Nat
  | [] => 0
  | d :: r => sizeD d + sumD r
def start (W : Wd) (d : Nat) : Nat := sumD (W.take d)
theorem sumD_take : ∀ (l : Wd) (k : Nat) (hk : k < l.length), sumD (l.take (k + 1)) = sumD (l.take k) + sizeD l[k]
  | t :: r, 0, _ => by simp [sumD]
  | t :: r, k + 1, hk => by
    have := sumD_take r k (by simpa using hk)
    simp only [List.take_succ_cons, List.getElem_cons_succ, sumD, this]; omega
theorem start_succ {W : Wd} {k : Nat} (hk : k < W.length) : start W (k + 1) = start W k + sizeD (dc W k) := by
  rw [dc_eq hk]; exact sumD_take W k hk
theorem sumD_take_le (l : Wd) (k : Nat) : sumD (l.take k) ≤ sumD l := by
  induction l generalizing k with
  | nil => simp
  | cons t r ih => cases k with
    | zero => simp [sumD]
    | succ k => have := ih k; simp only [List.take_succ_cons, sumD]; omega
theorem sumD_le : ∀ (l : Wd), sumD l ≤ bulkW l
  | [] => by simp [sumD]
  | t :: r => by have := sumD_le r; have := size_le_bulk t.of; simp only [sumD, bulkW, sizeD, Dc.bulk]; omega
theorem start_le (W : Wd) (k : Nat) : start W k ≤ bulkW W := Nat.le_trans (sumD_take_le W k) (sumD_le W)
theorem start_mono (W : Wd) {i j : Nat} (h : i ≤ j) : start W i ≤ start W j := by
  unfold start
  have : W.take i = (W.take j).take i := by rw [List.take_take, Nat.min_eq_left h]
  rw [this]; exact sumD_take_le _ _
theorem start_all (W : Wd) : start W W.length = sumD W := by unfold start; rw [List.take_length]
theorem spot_le {W : Wd} {d : Nat} (h : d < W.length) : start W d + (dc W d).methods.length + (dc W d).of.size ≤ bulkW W := by
  have h1 := start_succ h
  have h2 := start_le W (d + 1)
  unfold sizeD at h1; omega
theorem dc_bulk {W : Wd} {d : Nat} (h : d < W.length) : (dc W d).bulk ≤ bulkW W := by rw [dc_eq h]; exact bulkW_get W d h

/-- a type, where it is written -/
structure Spot where
  of : Ty
  at_ : Nat
  pkg : Int
def spotOf (W : Wd) (d : Nat) : Spot := ⟨(dc W d).of, start W d + (dc W d).methods.length, (dc W d).pkg⟩
def operand (W : Wd) (t : Ty) : Spot := ⟨t, start W W.length, 0⟩
def plainN (W : Wd) : Nat → Spot → Spot
  | 0, s => s
  | n + 1, s => if s.of.kind = 1 ∧ (dc W s.of.num.toNat).alias = true then plainN W n (spotOf W s.of.num.toNat) else s
def plain (W : Wd) (s : Spot) : Spot := plainN W (W.length + 1) s
def underN (W : Wd) : Nat → Spot → Spot
  | 0, s => s
  | n + 1, s => if s.of.kind = 1 then underN W n (spotOf W s.of.num.toNat) else s
def under (W : Wd) (s : Spot) : Spot := underN W (W.length + 1) s
def Ty.el0 (t : Ty) : Ty := t.elem.getD 0 ty0
def elemS (s : Spot) : Spot := ⟨s.of.el0, s.at_, s.pkg⟩
def fd0 : Fd := .mk 0 false ty0
def fieldS (s : Spot) (i : Nat) : Spot := ⟨(s.of.fields.getD i fd0).of, s.at_ + sizeF (s.of.fields.take i) + 1, s.pkg⟩
def embedS (s : Spot) (i : Nat) : Spot := ⟨s.of.embeds.getD i ty0, s.at_ + s.of.methods.length + sizeT (s.of.embeds.take i), s.pkg⟩
/-- the name of a field -/
def fname (W : Wd) (f : Fd) : Int :=
  if f.embedded = false then f.name
  else if f.of.kind = 2 then (dc W f.of.el0.num.toNat).name
  else (dc W f.of.num.toNat).name

def IsNm (n : Int) : Prop := 0 ≤ n ∧ n < 16
def exported (n : Int) : Bool := (decide (n ≥ 4) && decide (n ≤ 7)) || n == 10 || decide (n ≥ 13)
def nmB : List (List UInt8) := [[97], [98], [99], [120], [65], [66], [67], [88], [95], [195, 169], [195, 137], [199, 133], [228, 184, 150], [84], [83, 116, 114, 105, 110, 103], [69, 114, 114, 111, 114]]
def nameS (n : Int) : ByteArray := ⟨(nmB.getD n.toNat []).toArray⟩
def idL (pkg name : Int) : List UInt8 := if exported name then nmB.getD name.toNat [] else (if pkg = 0 then 112 else 113) :: 46 :: nmB.getD name.toNat []
def idS (pkg name : Int) : ByteArray := ⟨(idL pkg name).toArray⟩

/-! ### Well formed declarations -/
/- all names of declarations in a type are names of declarations -/
mutual
def Ty.clo (n : Nat) : Ty → Prop
  | .mk k m el fs ms em => (k = 1 → 0 ≤ m ∧ m < n) ∧ cloT n el ∧ cloF n fs ∧ cloT n em
def cloT (n : Nat) : List Ty → Prop
  | [] => True
  | t :: r => t.clo n ∧ cloT n r
def cloF (n : Nat) : List Fd → Prop
  | [] => True
  | .mk _ _ t :: r => t.clo n ∧ cloF n r
end
def Namedish (t : Ty) : Prop := t.kind = 1 ∨ t.kind = 2 ∧ t.elem.length = 1 ∧ t.el0.kind = 1
mutual
def Formed (W : Wd) (d : Int) : Bool → Ty → Prop
  | val, .mk k n el fs ms em =>
    (k = 0 ∧ el = [] ∧ fs = [] ∧ ms = [] ∧ em = [] ∧ 0 ≤ n ∧ n ≤ 2) ∨
    (k = 1 ∧ el = [] ∧ fs = [] ∧ ms = [] ∧ em = [] ∧ 0 ≤ n ∧ n < W.length ∧ (d < n ∨ val = false ∧ (d < 0 ∨ (dc W d.toNat).alias = false ∨ (dc W n.toNat).alias = false))) ∨
    ((k = 2 ∨ k = 3) ∧ n = 0 ∧ fs = [] ∧ ms = [] ∧ em = [] ∧ Formed1 W d el) ∨
    (k = 4 ∧ n = 0 ∧ el = [] ∧ ms = [] ∧ em = [] ∧ FormedF W d val fs) ∨
    (k = 5 ∧ n = 0 ∧ el = [] ∧ fs = [] ∧ (∀ m ∈ ms, IsNm m.name ∧ m.name ≠ 8 ∧ m.ptr = false) ∧ FormedE W d em)
def Formed1 (W : Wd) (d : Int) : List Ty → Prop
  | [] => False
  | t :: r => r = [] ∧ Formed W d false t
def FormedF (W : Wd) (d : Int) : Bool → List Fd → Prop
  | _, [] => True
  | val, .mk n e t :: r => (IsNm n ∧ (e = true → n = 0 ∧ Namedish t) ∧ Formed W d val t) ∧ FormedF W d val r
def FormedE (W : Wd) (d : Int) : List Ty → Prop
  | [] => True
  | t :: r => ((t.kind = 1 ∨ t.kind = 5) ∧ Formed W d true t) ∧ FormedE W d r
end

/-- whether a type can be embedded in a struct that is written in a package -/
def EmbedsOk (W : Wd) (pkg : Int) (s : Spot) : Prop :=
  let p := s.of.kind = 2
  let s' := if s.of.kind = 2 then elemS s else s
  (under W s').of.kind ≠ 2 ∧ (p → (under W s').of.kind ≠ 5) ∧ ((dc W s'.of.num.toNat).pkg = pkg ∨ exported (dc W s'.of.num.toNat).name = true)
/-- no two methods have one name -/
def Distinct : List Int → Prop
  | [] => True
  | a :: r => (∀ b ∈ r, a ≠ b) ∧ Distinct r
mutual
def Valid (W : Wd) (pkg : Int) : Ty → Nat → Prop
  | .mk k n el fs ms em, at_ => Distinct (ms.map Meth.name) ∧ ValidE W pkg em (at_ + ms.length) ∧ ValidF W pkg [] fs at_ ∧ Valid1 W pkg el at_
def Valid1 (W : Wd) (pkg : Int) : List Ty → Nat → Prop
  | [], _ => True
  | t :: _, at_ => Valid W pkg t at_
def ValidE (W : Wd) (pkg : Int) : List Ty → Nat → Prop
  | [], _ => True
  | t :: r, at_ => ((under W ⟨t, at_, pkg⟩).of.kind = 5 ∧ Valid W pkg t at_) ∧ ValidE W pkg r (at_ + t.size)
def ValidF (W : Wd) (pkg : Int) : List Fd → List Fd → Nat → Prop
  | _, [], _ => True
  | prev, .mk n e t :: r, at_ => ((∀ g ∈ prev, fname W (.mk n e t) ≠ 8 → fname W (.mk n e t) ≠ fname W g) ∧ Valid W pkg t (at_ + 1) ∧ (e = true → EmbedsOk W pkg ⟨t, at_ + 1, pkg⟩)) ∧
      ValidF W pkg (prev ++ [.mk n e t]) r (at_ + (1 + t.size))
end
def ValidS (W : Wd) (s : Spot) : Prop := Valid W s.pkg s.of s.at_
/-- whether a declaration can have its methods, and does not point to a pointer -/
def Declared (W : Wd) (d : Nat) : Prop :=
  let u := under W (spotOf W d)
  let x := dc W d
  ¬ (u.of.kind = 2 ∧ (under W (elemS u)).of.kind = 2) ∧ (x.methods ≠ [] → u.of.kind ≠ 2 ∧ u.of.kind ≠ 5) ∧
  (∀ m ∈ x.methods, IsNm m.name ∧ m.name ≠ 8) ∧ Distinct (x.methods.map Meth.name) ∧
  (∀ m ∈ x.methods, ∀ f ∈ u.of.fields, idL u.pkg (fname W f) ≠ idL x.pkg m.name)
structure FitOk (W : Wd) (t : Ty) : Prop where
  names : ∀ d, d < W.length → IsNm (dc W d).name ∧ (dc W d).name ≠ 8 ∧ ((dc W d).pkg = 0 ∨ (dc W d).pkg = 1) ∧ Formed W d true (dc W d).of ∧ ((dc W d).alias = true → (dc W d).methods = [])
  distinct : ∀ d e, d < e → e < W.length → (dc W d).name = (dc W e).name → (dc W d).pkg ≠ (dc W e).pkg
  formed : Formed W (-1) true t
  valid : ∀ d, d < W.length → ValidS W (spotOf W d)
  declared : ∀ d, d < W.length → Declared W d
  validT : ValidS W (operand W t)
end Go.Proofs.YtnmjmipmamcgjaaDoor
