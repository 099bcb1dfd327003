/-
  What the walks of this seat share: the closed facts on fmt's stopped front; a text's bytes in memory ('Dat'); the world behind a call that moves a reader ('Upd').
-/
import Derived.Test.Qxb6001751aFmtProg
import Derived.Test.Qxb6001751aFmtPlain
import Derived.WalkKit
import Derived.WalkSpells
import Derived.WalkLawsBesides
import Derived.Deep.QuietTactic
import Derived.BigQuiet
import Derived.Stop.CallBack
import Derived.Stop.IfaceNil
import GoSem.ClaimData
namespace Go.Proofs.Qxb6001751aFmt
open Go.RowKit

/-- A fact on a text's bytes: the slice 'ao' leads to the bytes D. -/
def Dat (w : World) (ao : Option Addr) (D : List Int) : Prop :=
  D = [] ∨ ∃ b off, ao = some ⟨b, off, none⟩ ∧ b < w.heap.size ∧ ∀ i, i < D.length → w.cell? ⟨b, off + i, none⟩ = some (.int .u8 (D.getD i 0))

/-- THE READER AT BLOCK t NOW STANDS AT p; all other blocks that were there are as they were. -/
structure Upd (t : Nat) (p : Int) (w w' : World) : Prop where
  os : w'.os = w.os
  tape : w'.tape = w.tape
  output : w'.output = w.output
  size : w.heap.size ≤ w'.heap.size
  block : ∀ k, k < w.heap.size → k ≠ t → w'.heap[k]? = w.heap[k]?
  data : w'.cell? ⟨t, 0, none⟩ = w.cell? ⟨t, 0, none⟩
  pos : w'.cell? ⟨t, 1, none⟩ = some (.int .i64 p)
  free : w'.frozen? ⟨t, 1, none⟩ = false
  old : t < w'.heap.size

theorem Upd.refl {t : Nat} {p : Int} {w : World} (ht : t < w.heap.size) (h1 : w.cell? ⟨t, 1, none⟩ = some (.int .i64 p)) (h2 : w.frozen? ⟨t, 1, none⟩ = false) : Upd t p w w :=
  ⟨rfl, rfl, rfl, Nat.le_refl _, fun _ _ _ => rfl, rfl, h1, h2, ht⟩

theorem Upd.drewN {t : Nat} {p : Int} {w w' : World} (h : Upd t p w w') (n : Nat) : Upd t p w (w'.drewN n) :=
  ⟨h.os, h.tape, h.output, h.size, h.block, h.data, h.pos, h.free, h.old⟩

theorem Upd.drew {t : Nat} {p : Int} {w w' : World} (h : Upd t p w w') : Upd t p w w'.drew :=
  ⟨h.os, h.tape, h.output, h.size, h.block, h.data, h.pos, h.free, h.old⟩

theorem Upd.set {t : Nat} {p : Int} {w w' : World} (h : Upd t p w w') (q : Int) : Upd t q w (w'.setCell ⟨t, 1, none⟩ (.int .i64 q)) where
  os := h.os
  tape := h.tape
  output := h.output
  size := by have := h.size; simpa [World.setCell] using this
  block := fun k hk hkt => (Below.heap_setCell _ _ _ _ (by simpa using hkt)).trans (h.block k hk hkt)
  data := by exact (World.cell?_setCell_other w' _ _ _ (by simp)).trans h.data
  pos := World.cell?_setCell_same w' _ _ h.pos
  free := by rw [World.frozen?_setCell]; exact h.free
  old := by have := h.old; simpa [World.setCell] using this

theorem Upd.trans {t : Nat} {p q : Int} {a b c : World} (h : Upd t p a b) (k : Upd t q b c) : Upd t q a c where
  os := k.os.trans h.os
  tape := k.tape.trans h.tape
  output := k.output.trans h.output
  size := Nat.le_trans h.size k.size
  block := fun i hi hit => (k.block i (Nat.lt_of_lt_of_le hi h.size) hit).trans (h.block i hi hit)
  data := k.data.trans h.data
  pos := k.pos
  free := k.free
  old := k.old

/-- Whatever makes new blocks alone leaves the reader where it is. -/
theorem Upd.below {t : Nat} {p : Int} {w w1 w2 : World} (h : Upd t p w w1) (hb : Below w1.heap.size w1 w2) : Upd t p w w2 where
  os := hb.os.trans h.os
  tape := hb.tape.trans h.tape
  output := hb.output.trans h.output
  size := Nat.le_trans h.size hb.size
  block := fun k hk hkt => (hb.block k (Nat.lt_of_lt_of_le hk h.size)).trans (h.block k hk hkt)
  data := (hb.cell (p := ⟨t, 0, none⟩) h.old).trans h.data
  pos := (hb.cell (p := ⟨t, 1, none⟩) h.old).trans h.pos
  free := (hb.frozen (p := ⟨t, 1, none⟩) h.old).trans h.free
  old := Nat.lt_of_lt_of_le h.old hb.size

theorem Upd.setNew {t : Nat} {p : Int} {w w' : World} (h : Upd t p w w') {a : Addr} (ha : w.heap.size ≤ a.block) (hat : t ≠ a.block) (v : Value) : Upd t p w (w'.setCell a v) where
  os := h.os
  tape := h.tape
  output := h.output
  size := by have := h.size; simpa [World.setCell] using this
  block := fun k hk hkt => (Below.heap_setCell _ _ _ _ (by omega)).trans (h.block k hk hkt)
  data := (World.cell?_setCell_other w' _ _ _ (by intro e; exact hat (by rw [e]))).trans h.data
  pos := (World.cell?_setCell_other w' _ _ _ (by intro e; exact hat (by rw [e]))).trans h.pos
  free := by rw [World.frozen?_setCell]; exact h.free
  old := by have := h.old; simpa [World.setCell] using this

theorem Upd.ofAlloc {t : Nat} {p : Int} {w w' : World} {o : Obj} (h : Upd t p (w.alloc o) w') (ht : t < w.heap.size) : Upd t p w w' where
  os := h.os
  tape := h.tape
  output := h.output
  size := by have := h.size; simp at this; omega
  block := fun k hk hkt => (h.block k (by simp; omega) hkt).trans (Below.heap_alloc _ _ _ hk)
  data := h.data.trans (World.cell?_alloc_lt w o _ ht)
  pos := h.pos
  free := h.free
  old := h.old

/-- A cell of another old block. -/
theorem Upd.cell {t : Nat} {p : Int} {w w' : World} (h : Upd t p w w') {b o : Nat} (hb : b < w.heap.size) (hbt : b ≠ t) : w'.cell? ⟨b, o, none⟩ = w.cell? ⟨b, o, none⟩ :=
  World.cell?_of_block (w := w) (h.block b hb hbt)

theorem Upd.dat {t : Nat} {p : Int} {w w' : World} {ao : Option Addr} {D : List Int} (h : Upd t p w w') (hd : Dat w ao D) (hbt : ∀ b off, ao = some ⟨b, off, none⟩ → b ≠ t) : Dat w' ao D := by
  rcases hd with hd | ⟨b, off, hao, hb, hc⟩
  · exact .inl hd
  · exact .inr ⟨b, off, hao, Nat.lt_of_lt_of_le hb h.size, fun i hi => (h.cell hb (hbt b off hao)).trans (hc i hi)⟩

/-- What was there below the reader's own block is as it was. -/
theorem Upd.toBelow {t : Nat} {p : Int} {w w' : World} (h : Upd t p w w') (ht : t < w.heap.size) : Below t w w' :=
  ⟨h.os, h.tape, h.output, h.size, fun k hk => h.block k (by omega) (by omega)⟩

theorem Dat.below {w w' : World} {ao : Option Addr} {D : List Int} (hd : Dat w ao D) (hb : Below w.heap.size w w') : Dat w' ao D := by
  rcases hd with hd | ⟨b, off, hao, hbl, hc⟩
  · exact .inl hd
  · exact .inr ⟨b, off, hao, Nat.lt_of_lt_of_le hbl hb.size, fun i hi => (hb.cell (p := ⟨b, off + i, none⟩) hbl).trans (hc i hi)⟩

/-- The bytes are bytes. -/
def Bytes (D : List Int) : Prop := ∀ n ∈ D, 0 ≤ n ∧ n ≤ 255

theorem Bytes.at {D : List Int} (h : Bytes D) (k : Nat) : 0 ≤ D.getD k 0 ∧ D.getD k 0 ≤ 255 := by
  rcases Nat.lt_or_ge k D.length with hk | hk
  · have : D.getD k 0 ∈ D := by simp [List.getD, List.getElem?_eq_getElem hk]
    exact h _ this
  · simp [List.getD, List.getElem?_eq_none hk]

end Go.Proofs.Qxb6001751aFmt
