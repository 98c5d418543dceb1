import Derived.Test.Qxb6602188aRows
import Derived.WalkKit
import Derived.ProofKit
import Derived.Deep.Draws
/-
  THE SCANNER IN MEMORY: a block b, new since the world w0, whose three cells hold the text s, the place k and the flag f.
-/
namespace Go.Proofs.Qxb6602188a.sc
open Go.ChangeShapes Go.WideShapes Go.ChangeAt Go.RowKit

theorem grown_drewN {W w : World} (h : Grown W w) (n : Nat) : Grown W (w.drewN n) := h

structure Sc (w0 w : World) (b : Nat) (s : ByteArray) (k : Int) (f : Bool) : Prop where
  new : w0.heap.size ≤ b
  grown : Grown w0 w
  c0 : w.cell? ⟨b, 0, none⟩ = some (.string s)
  c1 : w.cell? ⟨b, 1, none⟩ = some (.int .i64 k)
  c2 : w.cell? ⟨b, 2, none⟩ = some (.bool f)
  z1 : w.frozen? ⟨b, 1, none⟩ = false
  z2 : w.frozen? ⟨b, 2, none⟩ = false

theorem Sc.drewN {w0 w : World} {b : Nat} {s : ByteArray} {k : Int} {f : Bool} (h : Sc w0 w b s k f) (n : Nat) : Sc w0 (w.drewN n) b s k f :=
  ⟨h.new, grown_drewN h.grown n, h.c0, h.c1, h.c2, h.z1, h.z2⟩

theorem Sc.setI {w0 w : World} {b : Nat} {s : ByteArray} {k : Int} {f : Bool} (h : Sc w0 w b s k f) (m : Int) : Sc w0 (w.setCell ⟨b, 1, none⟩ (.int .i64 m)) b s m f :=
  ⟨h.new, h.grown.setCell h.new _, by rw [World.cell?_setCell_other _ _ _ _ (by simp)]; exact h.c0, World.cell?_setCell_same _ _ _ h.c1,
    by rw [World.cell?_setCell_other _ _ _ _ (by simp)]; exact h.c2, by rw [World.frozen?_setCell]; exact h.z1, by rw [World.frozen?_setCell]; exact h.z2⟩

theorem Sc.setF {w0 w : World} {b : Nat} {s : ByteArray} {k : Int} {f : Bool} (h : Sc w0 w b s k f) (g : Bool) : Sc w0 (w.setCell ⟨b, 2, none⟩ (.bool g)) b s k g :=
  ⟨h.new, h.grown.setCell h.new _, by rw [World.cell?_setCell_other _ _ _ _ (by simp)]; exact h.c0, by rw [World.cell?_setCell_other _ _ _ _ (by simp)]; exact h.c1,
    World.cell?_setCell_same _ _ _ h.c2, by rw [World.frozen?_setCell]; exact h.z1, by rw [World.frozen?_setCell]; exact h.z2⟩

end Go.Proofs.Qxb6602188a.sc
