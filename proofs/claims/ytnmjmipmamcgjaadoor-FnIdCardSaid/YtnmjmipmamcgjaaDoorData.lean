/- Types, fields and declarations as data, and how they lie in memory. -/
import Derived.WalkKit
import Derived.WalkSpells
import Derived.WalkLawsBesides
namespace Go.Proofs.YtnmjmipmamcgjaaDoor
open Go Go.RowKit
set_option linter.unusedVariables false

theorem hid {p : Prop} (h : p) : Hid p := h

structure Meth where
  name : Int
  ptr : Bool

mutual
inductive Ty where
  | mk (kind num : Int) (elem : List Ty) (fields : List Fd) (methods : List Meth) (embeds : List Ty)
inductive Fd where
  | mk (name : Int) (embedded : Bool) (of : Ty)
end

def Ty.kind : Ty → Int | .mk k _ _ _ _ _ => k
def Ty.num : Ty → Int | .mk _ n _ _ _ _ => n
def Ty.elem : Ty → List Ty | .mk _ _ e _ _ _ => e
def Ty.fields : Ty → List Fd | .mk _ _ _ f _ _ => f
def Ty.methods : Ty → List Meth | .mk _ _ _ _ m _ => m
def Ty.embeds : Ty → List Ty | .mk _ _ _ _ _ e => e
def Fd.name : Fd → Int | .mk n _ _ => n
def Fd.embedded : Fd → Bool | .mk _ e _ => e
def Fd.of : Fd → Ty | .mk _ _ t => t

mutual
def Ty.bulk : Ty → Nat
  | .mk _ _ el fs ms em => 1 + bulkT el + bulkF fs + ms.length + bulkT em
def bulkT : List Ty → Nat
  | [] => 0
  | t :: r => t.bulk + bulkT r
def bulkF : List Fd → Nat
  | [] => 0
  | .mk _ _ t :: r => 1 + t.bulk + bulkF r
end

mutual
def Ty.size : Ty → Nat
  | .mk _ _ el fs ms em => ms.length + sizeT el + sizeF fs + sizeT em
def sizeT : List Ty → Nat
  | [] => 0
  | t :: r => t.size + sizeT r
def sizeF : List Fd → Nat
  | [] => 0
  | .mk _ _ t :: r => 1 + t.size + sizeF r
end

theorem bulk_pos (t : Ty) : 1 ≤ t.bulk := by cases t; simp only [Ty.bulk]; omega
theorem bulkT_get : ∀ (l : List Ty) (k : Nat) (hk : k < l.length), l[k].bulk ≤ bulkT l
  | t :: r, 0, _ => by simp [bulkT]
  | t :: r, k + 1, hk => by
    have := bulkT_get r k (by simpa using hk)
    simp only [List.getElem_cons_succ, bulkT]; omega
theorem bulkF_get : ∀ (l : List Fd) (k : Nat) (hk : k < l.length), l[k].of.bulk + 1 ≤ bulkF l
  | .mk _ _ t :: r, 0, _ => by simp [bulkF, Fd.of]; omega
  | .mk _ _ t :: r, k + 1, hk => by
    have := bulkF_get r k (by simpa using hk)
    simp only [List.getElem_cons_succ, bulkF]; omega
theorem bulkT_len : ∀ (l : List Ty), l.length ≤ bulkT l
  | [] => by simp
  | t :: r => by have := bulkT_len r; have := bulk_pos t; simp only [List.length_cons, bulkT]; omega
theorem bulkF_len : ∀ (l : List Fd), l.length ≤ bulkF l
  | [] => by simp
  | .mk _ _ t :: r => by have := bulkF_len r; simp only [List.length_cons, bulkF]; omega

mutual
theorem size_le_bulk : ∀ (t : Ty), t.size ≤ t.bulk
  | .mk _ _ el fs ms em => by
    have := sizeT_le el; have := sizeF_le fs; have := sizeT_le em
    simp only [Ty.size, Ty.bulk]; omega
theorem sizeT_le : ∀ (l : List Ty), sizeT l ≤ bulkT l
  | [] => by simp [sizeT]
  | t :: r => by have := size_le_bulk t; have := sizeT_le r; simp only [sizeT, bulkT]; omega
theorem sizeF_le : ∀ (l : List Fd), sizeF l ≤ bulkF l
  | [] => by simp [sizeF]
  | .mk _ _ t :: r => by have := size_le_bulk t; have := sizeF_le r; simp only [sizeF, bulkF]; omega
end
theorem sizeT_take : ∀ (l : List Ty) (k : Nat) (hk : k < l.length), sizeT (l.take (k + 1)) = sizeT (l.take k) + l[k].size
  | t :: r, 0, _ => by simp [sizeT]
  | t :: r, k + 1, hk => by
    have := sizeT_take r k (by simpa using hk)
    simp only [List.take_succ_cons, List.getElem_cons_succ, sizeT, this]; omega
theorem sizeF_take : ∀ (l : List Fd) (k : Nat) (hk : k < l.length), sizeF (l.take (k + 1)) = sizeF (l.take k) + (1 + l[k].of.size)
  | .mk _ _ t :: r, 0, _ => by simp [sizeF, Fd.of]
  | .mk _ _ t :: r, k + 1, hk => by
    have := sizeF_take r k (by simpa using hk)
    simp only [List.take_succ_cons, List.getElem_cons_succ, sizeF, this]; omega
theorem sizeT_take_le (l : List Ty) (k : Nat) : sizeT (l.take k) ≤ sizeT l := by
  induction l generalizing k with
  | nil => simp
  | cons t r ih => cases k with
    | zero => simp [sizeT]
    | succ k => have := ih k; simp only [List.take_succ_cons, sizeT]; omega
theorem sizeF_take_le (l : List Fd) (k : Nat) : sizeF (l.take k) ≤ sizeF l := by
  induction l generalizing k with
  | nil => simp
  | cons t r ih => cases t; cases k with
    | zero => simp [sizeF]
    | succ k => have := ih k; simp only [List.take_succ_cons, sizeF]; omega

/-! ### Memory -/
/-- every cell of 'w' stays as it is in 'W' -/
def Keeps (w W : World) : Prop := ∀ ad v, w.cell? ad = some v → W.cell? ad = some v
theorem Keeps.refl (w : World) : Keeps w w := fun _ _ h => h
theorem Keeps.trans {a b c : World} (h : Keeps a b) (k : Keeps b c) : Keeps a c := fun ad v hv => k ad v (h ad v hv)
theorem Keeps.below {w W : World} (h : Below w.heap.size w W) : Keeps w W := fun ad v hv =>
  (h.cell (World.block_lt_of_cell? w ad hv)).trans hv
theorem Keeps.belowGe {B : Nat} {w W : World} (h : Below B w W) (hB : w.heap.size ≤ B) : Keeps w W := Keeps.below (h.mono hB)
theorem Keeps.alloc (w : World) (o : Obj) : Keeps w (w.alloc o) := Keeps.below ((Below.refl _ _).alloc (Nat.le_refl _) o)

def CellsAt (w : World) (b o : Nat) (cs : List Value) : Prop := ∀ j v, cs[j]? = some v → w.cell? ⟨b, o + j, none⟩ = some v
theorem CellsAt.keep {w W : World} {b o : Nat} {cs : List Value} (h : CellsAt w b o cs) (k : Keeps w W) : CellsAt W b o cs := fun j v hv => k _ _ (h j v hv)

def i64 (n : Int) : Prop := -9223372036854775808 ≤ n ∧ n ≤ 9223372036854775807

def MsR (w : World) (a : Option Addr) : Nat → List Meth → Prop
  | _, [] => True
  | i, m :: r => (∃ b o, a = some ⟨b, o, none⟩ ∧ i64 m.name ∧ CellsAt w b (o + i * 2) [.int .i64 m.name, .bool m.ptr]) ∧ MsR w a (i + 1) r

mutual
def TyC (w : World) : Ty → List Value → Prop
  | .mk k n el fs ms em, cs => ∃ a1 c1 a2 c2 a3 c3 a4 c4,
      cs = [.int .i64 k, .int .i64 n, .slice a1 el.length c1, .slice a2 fs.length c2, .slice a3 ms.length c3, .slice a4 em.length c4] ∧
      (el.length ≤ c1 ∧ fs.length ≤ c2 ∧ ms.length ≤ c3 ∧ em.length ≤ c4) ∧ i64 k ∧ i64 n ∧ TysR w a1 0 el ∧ FdsR w a2 0 fs ∧ MsR w a3 0 ms ∧ TysR w a4 0 em
def TysR (w : World) (a : Option Addr) : Nat → List Ty → Prop
  | _, [] => True
  | i, t :: r => (∃ b o cs, a = some ⟨b, o, none⟩ ∧ CellsAt w b (o + i * 6) cs ∧ TyC w t cs) ∧ TysR w a (i + 1) r
def FdsR (w : World) (a : Option Addr) : Nat → List Fd → Prop
  | _, [] => True
  | i, f :: r => FdE w a i f ∧ FdsR w a (i + 1) r
def FdE (w : World) (a : Option Addr) (i : Nat) : Fd → Prop
  | .mk n e t => ∃ b o cs, a = some ⟨b, o, none⟩ ∧ i64 n ∧ CellsAt w b (o + i * 8) (.int .i64 n :: .bool e :: cs) ∧ TyC w t cs
end

theorem MsR.keep {w W : World} (k : Keeps w W) {a : Option Addr} : ∀ {i : Nat} {l : List Meth}, MsR w a i l → MsR W a i l
  | _, [], _ => trivial
  | i, m :: r, ⟨⟨b, o, e, hn, hc⟩, h⟩ => ⟨⟨b, o, e, hn, hc.keep k⟩, MsR.keep k h⟩
mutual
theorem TyC.keep {w W : World} (k : Keeps w W) : ∀ {t : Ty} {cs : List Value}, TyC w t cs → TyC W t cs
  | .mk _ _ el fs ms em, cs, h => by
    simp only [TyC] at h ⊢
    obtain ⟨a1, c1, a2, c2, a3, c3, a4, c4, e, hcap, hk, hn, h1, h2, h3, h4⟩ := h
    exact ⟨a1, c1, a2, c2, a3, c3, a4, c4, e, hcap, hk, hn, TysR.keep k h1, FdsR.keep k h2, h3.keep k, TysR.keep k h4⟩
theorem TysR.keep {w W : World} (k : Keeps w W) {a : Option Addr} : ∀ {i : Nat} {l : List Ty}, TysR w a i l → TysR W a i l
  | _, [], _ => by simp [TysR]
  | i, t :: r, h => by
    simp only [TysR] at h ⊢
    obtain ⟨⟨b, o, cs, e, hc, ht⟩, h⟩ := h
    exact ⟨⟨b, o, cs, e, hc.keep k, TyC.keep k ht⟩, TysR.keep k h⟩
theorem FdsR.keep {w W : World} (k : Keeps w W) {a : Option Addr} : ∀ {i : Nat} {l : List Fd}, FdsR w a i l → FdsR W a i l
  | _, [], _ => by simp [FdsR]
  | i, .mk n e t :: r, h => by
    simp only [FdsR, FdE] at h ⊢
    obtain ⟨⟨b, o, cs, e, hn, hc, ht⟩, h⟩ := h
    exact ⟨⟨b, o, cs, e, hn, hc.keep k, TyC.keep k ht⟩, FdsR.keep k h⟩
end

/-- element k of a row of types -/
theorem TysR.get {w : World} {a : Option Addr} : ∀ {l : List Ty} {i : Nat} (h : TysR w a i l) (k : Nat) (hk : k < l.length),
    ∃ b o cs, a = some ⟨b, o, none⟩ ∧ CellsAt w b (o + (i + k) * 6) cs ∧ TyC w l[k] cs
  | t :: r, i, h, 0, _ => by simp only [TysR] at h; simpa using h.1
  | t :: r, i, h, k + 1, hk => by
    simp only [TysR] at h
    have := TysR.get h.2 k (by simpa using hk)
    simpa [Nat.add_assoc, Nat.add_comm 1 k] using this
theorem FdsR.get {w : World} {a : Option Addr} : ∀ {l : List Fd} {i : Nat} (h : FdsR w a i l) (k : Nat) (hk : k < l.length),
    ∃ b o cs, a = some ⟨b, o, none⟩ ∧ i64 l[k].name ∧ CellsAt w b (o + (i + k) * 8) (.int .i64 l[k].name :: .bool l[k].embedded :: cs) ∧ TyC w l[k].of cs
  | .mk n e t :: r, i, h, 0, _ => by simp only [FdsR, FdE] at h; simpa [Fd.name, Fd.embedded, Fd.of] using h.1
  | .mk n e t :: r, i, h, k + 1, hk => by
    simp only [FdsR] at h
    have := FdsR.get h.2 k (by simpa using hk)
    simpa [Nat.add_assoc, Nat.add_comm 1 k] using this
theorem MsR.get {w : World} {a : Option Addr} : ∀ {l : List Meth} {i : Nat} (h : MsR w a i l) (k : Nat) (hk : k < l.length),
    ∃ b o, a = some ⟨b, o, none⟩ ∧ i64 l[k].name ∧ CellsAt w b (o + (i + k) * 2) [.int .i64 l[k].name, .bool l[k].ptr]
  | t :: r, i, h, 0, _ => by simp only [MsR] at h; simpa using h.1
  | t :: r, i, h, k + 1, hk => by
    simp only [MsR] at h
    have := MsR.get h.2 k (by simpa using hk)
    simpa [Nat.add_assoc, Nat.add_comm 1 k] using this

/-- the cells of a type, opened; and the type itself -/
theorem TyC.full {w : World} {t : Ty} {cs : List Value} (h : TyC w t cs) : ∃ a1 c1 a2 c2 a3 c3 a4 c4,
      cs = [.int .i64 t.kind, .int .i64 t.num, .slice a1 t.elem.length c1, .slice a2 t.fields.length c2, .slice a3 t.methods.length c3, .slice a4 t.embeds.length c4] ∧
      (t.elem.length ≤ c1 ∧ t.fields.length ≤ c2 ∧ t.methods.length ≤ c3 ∧ t.embeds.length ≤ c4) ∧ i64 t.kind ∧ i64 t.num ∧ TysR w a1 0 t.elem ∧ FdsR w a2 0 t.fields ∧ MsR w a3 0 t.methods ∧ TysR w a4 0 t.embeds ∧
      TyC w t [.int .i64 t.kind, .int .i64 t.num, .slice a1 t.elem.length c1, .slice a2 t.fields.length c2, .slice a3 t.methods.length c3, .slice a4 t.embeds.length c4] := by
  have h0 := h
  cases t; simp only [TyC] at h
  obtain ⟨a1, c1, a2, c2, a3, c3, a4, c4, rfl, h⟩ := h
  exact ⟨a1, c1, a2, c2, a3, c3, a4, c4, rfl, h.1, h.2.1, h.2.2.1, h.2.2.2.1, h.2.2.2.2.1, h.2.2.2.2.2.1, h.2.2.2.2.2.2, h0⟩
/-- the cells of a type, opened -/
theorem TyC.open {w : World} {t : Ty} {cs : List Value} (h : TyC w t cs) : ∃ a1 c1 a2 c2 a3 c3 a4 c4,
      cs = [.int .i64 t.kind, .int .i64 t.num, .slice a1 t.elem.length c1, .slice a2 t.fields.length c2, .slice a3 t.methods.length c3, .slice a4 t.embeds.length c4] ∧
      (t.elem.length ≤ c1 ∧ t.fields.length ≤ c2 ∧ t.methods.length ≤ c3 ∧ t.embeds.length ≤ c4) ∧ i64 t.kind ∧ i64 t.num ∧ TysR w a1 0 t.elem ∧ FdsR w a2 0 t.fields ∧ MsR w a3 0 t.methods ∧ TysR w a4 0 t.embeds := by
  cases t; simp only [TyC] at h; exact h
theorem TyC.shut {w : World} {t : Ty} {cs : List Value} (h : ∃ a1 c1 a2 c2 a3 c3 a4 c4,
      cs = [.int .i64 t.kind, .int .i64 t.num, .slice a1 t.elem.length c1, .slice a2 t.fields.length c2, .slice a3 t.methods.length c3, .slice a4 t.embeds.length c4] ∧
      (t.elem.length ≤ c1 ∧ t.fields.length ≤ c2 ∧ t.methods.length ≤ c3 ∧ t.embeds.length ≤ c4) ∧ i64 t.kind ∧ i64 t.num ∧ TysR w a1 0 t.elem ∧ FdsR w a2 0 t.fields ∧ MsR w a3 0 t.methods ∧ TysR w a4 0 t.embeds) : TyC w t cs := by
  cases t; simp only [TyC]; exact h

theorem six {w : World} {b o : Nat} {v0 v1 v2 v3 v4 v5 : Value} (h : CellsAt w b o [v0, v1, v2, v3, v4, v5]) :
    w.cell? ⟨b, o, none⟩ = some v0 ∧ w.cell? ⟨b, o + 1, none⟩ = some v1 ∧ w.cell? ⟨b, o + 2, none⟩ = some v2 ∧ w.cell? ⟨b, o + 3, none⟩ = some v3 ∧ w.cell? ⟨b, o + 4, none⟩ = some v4 ∧ w.cell? ⟨b, o + 5, none⟩ = some v5 :=
  ⟨h 0 v0 rfl, h 1 v1 rfl, h 2 v2 rfl, h 3 v3 rfl, h 4 v4 rfl, h 5 v5 rfl⟩
theorem eight {w : World} {b o : Nat} {u0 u1 v0 v1 v2 v3 v4 v5 : Value} (h : CellsAt w b o [u0, u1, v0, v1, v2, v3, v4, v5]) :
    w.cell? ⟨b, o, none⟩ = some u0 ∧ w.cell? ⟨b, o + 1, none⟩ = some u1 ∧ w.cell? ⟨b, o + 2, none⟩ = some v0 ∧ w.cell? ⟨b, o + 3, none⟩ = some v1 ∧ w.cell? ⟨b, o + 4, none⟩ = some v2 ∧ w.cell? ⟨b, o + 5, none⟩ = some v3 ∧ w.cell? ⟨b, o + 6, none⟩ = some v4 ∧ w.cell? ⟨b, o + 7, none⟩ = some v5 :=
  ⟨h 0 u0 rfl, h 1 u1 rfl, h 2 v0 rfl, h 3 v1 rfl, h 4 v2 rfl, h 5 v3 rfl, h 6 v4 rfl, h 7 v5 rfl⟩

structure Dc where
  name : Int
  pkg : Int
  alias : Bool
  of : Ty
  methods : List Meth
abbrev Wd := List Dc
def Dc.bulk (d : Dc) : Nat := 1 + d.of.bulk + d.methods.length
def bulkW : Wd → Nat
  | [] => 0
  | d :: r => d.bulk + bulkW r
theorem bulkW_get : ∀ (l : Wd) (k : Nat) (hk : k < l.length), l[k].bulk ≤ bulkW l
  | t :: r, 0, _ => by simp [bulkW]
  | t :: r, k + 1, hk => by
    have := bulkW_get r k (by simpa using hk)
    simp only [List.getElem_cons_succ, bulkW]; omega
theorem bulkW_len : ∀ (l : Wd), l.length ≤ bulkW l
  | [] => by simp
  | t :: r => by have := bulkW_len r; simp only [List.length_cons, bulkW, Dc.bulk]; omega

/-- the cells of a declaration -/
def DcC (w : World) (d : Dc) (cs : List Value) : Prop := ∃ ts a c, cs = (.int .i64 d.name :: .int .i64 d.pkg :: .bool d.alias :: ts) ++ [.slice a d.methods.length c] ∧
  d.methods.length ≤ c ∧ i64 d.name ∧ i64 d.pkg ∧ TyC w d.of ts ∧ MsR w a 0 d.methods
theorem DcC.keep {w W : World} (k : Keeps w W) {d : Dc} {cs : List Value} : DcC w d cs → DcC W d cs
  | ⟨ts, a, c, e, h0, h1, h2, h3, h4⟩ => ⟨ts, a, c, e, h0, h1, h2, TyC.keep k h3, h4.keep k⟩
/-- a row of declarations, ten cells each -/
def WdR (w : World) (a : Option Addr) (l : Wd) : Prop := ∀ (k : Nat) (hk : k < l.length), ∃ b o cs, a = some ⟨b, o, none⟩ ∧ CellsAt w b (o + k * 10) cs ∧ DcC w l[k] cs
theorem WdR.keep {w W : World} (k : Keeps w W) {a : Option Addr} {l : Wd} (h : WdR w a l) : WdR W a l := fun i hi =>
  let ⟨b, o, cs, e, hc, hd⟩ := h i hi
  ⟨b, o, cs, e, hc.keep k, hd.keep k⟩
theorem ten {w : World} {b o : Nat} {u0 u1 u2 v0 v1 v2 v3 v4 v5 u3 : Value} (h : CellsAt w b o [u0, u1, u2, v0, v1, v2, v3, v4, v5, u3]) :
    w.cell? ⟨b, o, none⟩ = some u0 ∧ w.cell? ⟨b, o + 1, none⟩ = some u1 ∧ w.cell? ⟨b, o + 2, none⟩ = some u2 ∧ w.cell? ⟨b, o + 3, none⟩ = some v0 ∧ w.cell? ⟨b, o + 4, none⟩ = some v1 ∧ w.cell? ⟨b, o + 5, none⟩ = some v2 ∧ w.cell? ⟨b, o + 6, none⟩ = some v3 ∧ w.cell? ⟨b, o + 7, none⟩ = some v4 ∧ w.cell? ⟨b, o + 8, none⟩ = some v5 ∧ w.cell? ⟨b, o + 9, none⟩ = some u3 :=
  ⟨h 0 u0 rfl, h 1 u1 rfl, h 2 u2 rfl, h 3 v0 rfl, h 4 v1 rfl, h 5 v2 rfl, h 6 v3 rfl, h 7 v4 rfl, h 8 v5 rfl, h 9 u3 rfl⟩
/-- declaration k: its cells, one by one -/
theorem WdR.get {w : World} {a : Option Addr} {l : Wd} (h : WdR w a l) (k : Nat) (hk : k < l.length) :
    ∃ b o a1 c1 a2 c2 a3 c3 a4 c4 a5 c5, a = some ⟨b, o, none⟩ ∧ l[k].methods.length ≤ c5 ∧ i64 l[k].name ∧ i64 l[k].pkg ∧ MsR w a5 0 l[k].methods ∧
    TyC w l[k].of [.int .i64 l[k].of.kind, .int .i64 l[k].of.num, .slice a1 l[k].of.elem.length c1, .slice a2 l[k].of.fields.length c2, .slice a3 l[k].of.methods.length c3, .slice a4 l[k].of.embeds.length c4] ∧
    CellsAt w b (o + k * 10) [.int .i64 l[k].name, .int .i64 l[k].pkg, .bool l[k].alias, .int .i64 l[k].of.kind, .int .i64 l[k].of.num, .slice a1 l[k].of.elem.length c1, .slice a2 l[k].of.fields.length c2, .slice a3 l[k].of.methods.length c3, .slice a4 l[k].of.embeds.length c4, .slice a5 l[k].methods.length c5] := by
  obtain ⟨b, o, cs, e, hc, ts, a5, c5, rfl, h0, h1, h2, h3, h4⟩ := h k hk
  have h3' := h3
  obtain ⟨a1, c1, a2, c2, a3, c3, a4, c4, rfl, -⟩ := h3.open
  exact ⟨b, o, a1, c1, a2, c2, a3, c3, a4, c4, a5, c5, e, h0, h1, h2, h4, h3', hc⟩

/-- a result, and memory that was there stays as it was -/
def Gives (v : Value) (w : World) (e : Ending) (w' : World) : Prop := e = .returned v ∧ Below w.heap.size w w'

theorem box {w wr : World} {O : Obj} {vs : List Value} {T : TypeId} (h : Below (w.heap.size + 1) (w.alloc O) wr) (hO : O = .cells vs.toArray T) : CellsAt wr w.heap.size 0 vs := by
  intro j v hv
  rw [h.cell (by simp)]
  subst hO
  rw [Nat.zero_add, World.cell?_alloc_new]
  simpa using hv
end Go.Proofs.YtnmjmipmamcgjaaDoor
