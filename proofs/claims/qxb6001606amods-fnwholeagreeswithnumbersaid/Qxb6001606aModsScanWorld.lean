/-
  What the walks know of the scanner's memory.
-/
import Derived.Test.Qxb6001606aModsRows
import Derived.Test.Qxb6001606aModsScanPlain
import Derived.WalkKit
import Derived.WalkSpells
import Derived.ProofKit
import Derived.BigQuiet
namespace Go.Proofs.Qxb6001606aMods.ScanWorld
open Go.RowKit ScanPlain

/-- The scanner lies in block B: its bytes are l (a row in block bb, none where there are none), it stands at p. -/
structure Sc (w : World) (B bb : Nat) (a : Option Addr) (n c : Nat) (l : List Int) (p : Nat) : Prop where
  c0 : w.cell? ⟨B, 0, none⟩ = some (.slice a n c)
  c1 : w.cell? ⟨B, 1, none⟩ = some (.int .i64 p)
  fz : w.frozen? ⟨B, 1, none⟩ = false
  ad : 0 < n → a = some ⟨bb, 0, none⟩
  lt : 0 < n → bb < B
  cell : ∀ j, j < n → w.cell? ⟨bb, j, none⟩ = some (.int .u8 (gt l j))
  ln : l.length = n
  sm : n ≤ 1048576
  cp : n ≤ c
  pl : p ≤ n
  rg : ∀ j, 0 ≤ gt l j ∧ gt l j ≤ 255

/-- Only the scanner's place has been written. -/
structure Only (B : Nat) (w w' : World) : Prop where
  below : Below B w w'
  size : w'.heap.size = w.heap.size
  cell : ∀ b o, ¬ (b = B ∧ o = 1) → w'.cell? ⟨b, o, none⟩ = w.cell? ⟨b, o, none⟩
  frozen : ∀ b o, w'.frozen? ⟨b, o, none⟩ = w.frozen? ⟨b, o, none⟩

theorem Only.refl (B : Nat) (w : World) : Only B w w := ⟨Below.refl _ _, rfl, fun _ _ _ => rfl, fun _ _ => rfl⟩
theorem Only.trans {B : Nat} {a b c : World} (h : Only B a b) (k : Only B b c) : Only B a c :=
  ⟨h.below.trans k.below, k.size.trans h.size, fun x o hx => (k.cell x o hx).trans (h.cell x o hx), fun x o => (k.frozen x o).trans (h.frozen x o)⟩
theorem below_drewN {B : Nat} {a w : World} (n : Nat) (h : Below B a w) : Below B a (w.drewN n) := ⟨h.os, h.tape, h.output, h.size, h.block⟩
theorem Only.drewN {B : Nat} {a w : World} (n : Nat) (h : Only B a w) : Only B a (w.drewN n) :=
  h.trans ⟨below_drewN n (Below.refl _ _), rfl, fun _ _ _ => rfl, fun _ _ => rfl⟩
theorem Only.put {B : Nat} {a w : World} (h : Only B a w) (v : Value) : Only B a (w.setCell ⟨B, 1, none⟩ v) :=
  h.trans ⟨(Below.refl B w).setCell (p := ⟨B, 1, none⟩) (Nat.le_refl B) v, by simp, fun b o hx => World.cell?_setCell_other w _ _ _ (by intro e; simp only [Addr.mk.injEq] at e; exact hx ⟨e.1.symm, e.2.1.symm⟩), fun b o => by simp⟩
theorem Sc.drewN {w : World} {B bb : Nat} {a : Option Addr} {n c : Nat} {l : List Int} {p : Nat} (m : Nat) (h : Sc w B bb a n c l p) : Sc (w.drewN m) B bb a n c l p :=
  ⟨h.c0, h.c1, h.fz, h.ad, h.lt, h.cell, h.ln, h.sm, h.cp, h.pl, h.rg⟩
theorem Sc.put {w : World} {B bb : Nat} {a : Option Addr} {n c : Nat} {l : List Int} {p : Nat} (h : Sc w B bb a n c l p) (q : Nat) (hq : q ≤ n) : Sc (w.setCell ⟨B, 1, none⟩ (.int .i64 q)) B bb a n c l q :=
  ⟨(World.cell?_setCell_other w _ _ _ (by simp)).trans h.c0, World.cell?_setCell_same w _ _ h.c1, by simpa using h.fz, h.ad, h.lt,
    fun j hj => (World.cell?_setCell_other w _ _ _ (by intro e; simp only [Addr.mk.injEq] at e; have := h.lt (by omega); omega)).trans (h.cell j hj), h.ln, h.sm, h.cp, hq, h.rg⟩
theorem ret_bool {a b : Bool} (h : a = b) : Ending.returned (.bool a) = .returned (.bool b) := by rw [h]

end Go.Proofs.Qxb6001606aMods.ScanWorld
