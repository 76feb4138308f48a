/-
  WHAT STAYS TRUE OF A runQueue AND ITS TWO SLICES ('Inv'), AND WHAT EACH STEP DOES TO IT: plain facts on worlds, no walk.
-/
import Derived.Test.YbulkjgqQueue
import Derived.Deep.AppendLies
import Derived.WalkSmall
namespace Go.Proofs.Ybulkjgq
open Go.RowKit

/-- In world w: block g holds the row R; 'runs' and 'sizes' are slices of the call's own, at blocks from B on, apart from each other; below g all is as it was in w0. -/
structure Inv (w0 w : World) (B g : Nat) (R : Array Value) (vr vs : Value) (nr ns : Nat) : Prop where
  row : w.heap[g]? = some (.cells R 72 (0, 0))
  runs : ∃ xs, w.ownsRow B 90 1 vr nr xs
  sizes : ∃ ys, w.ownsRow B 3 1 vs ns ys
  apart : ∀ k, vr.ownBlock = some k → vs.ownBlock ≠ some k
  gB : g < B
  Bs : B ≤ w.heap.size
  old : Below g w0 w

/-- The block that a slice owns is there, and lies from B on. -/
theorem own_there {w : World} {B : Nat} {e : TypeId} {size : Nat} {v : Value} {n : Nat} {xs : List Value} (h : w.ownsRow B e size v n xs) (k : Nat) (hk : v.ownBlock = some k) : B ≤ k ∧ k < w.heap.size := by
  rcases h.2 with ⟨rfl, _⟩ | ⟨g, cap, cur, rfl, hb, hg, _⟩
  · cases hk
  · simp only [Value.ownBlock, Option.some.injEq] at hk
    subst hk
    exact ⟨hb, (Array.getElem?_eq_some_iff.1 hg).1⟩

/-- What another slice owns stays so where its block has not turned. -/
theorem own_kept {w w' : World} {B : Nat} {e : TypeId} {size : Nat} {v : Value} {n : Nat} {xs : List Value} (h : w.ownsRow B e size v n xs) (hk : ∀ k, v.ownBlock = some k → w'.heap[k]? = w.heap[k]?) : w'.ownsRow B e size v n xs := by
  refine ⟨h.1, ?_⟩
  rcases h.2 with h0 | ⟨g, cap, cur, rfl, hb, hg, h1⟩
  · exact .inl h0
  · exact .inr ⟨g, cap, cur, rfl, hb, by rw [hk g rfl]; exact hg, h1⟩

theorem own_ne {w : World} {B g : Nat} {e : TypeId} {size : Nat} {v : Value} {n : Nat} {xs : List Value} (h : w.ownsRow B e size v n xs) (hg : g < B) : some g ≠ v.ownBlock := fun he => by
  have := (own_there h g he.symm).1
  omega

section
variable {w0 w w' : World} {B g : Nat} {R : Array Value} {vr vs : Value} {nr ns : Nat}

theorem Inv.drew (h : Inv w0 w B g R vr vs nr ns) : Inv w0 w.drew B g R vr vs nr ns := ⟨h.row, h.runs, h.sizes, h.apart, h.gB, h.Bs, h.old.drew⟩
theorem Inv.drewN (h : Inv w0 w B g R vr vs nr ns) (m : Nat) : Inv w0 (w.drewN m) B g R vr vs nr ns := ⟨h.row, h.runs, h.sizes, h.apart, h.gB, h.Bs, below_drewN h.old m⟩

theorem Inv.alloc (h : Inv w0 w B g R vr vs nr ns) (o : Obj) : Inv w0 (w.alloc o) B g R vr vs nr ns := by
  obtain ⟨xs, hx⟩ := h.runs
  obtain ⟨ys, hy⟩ := h.sizes
  have hB := h.Bs
  have hg := h.gB
  refine ⟨by rw [Below.heap_alloc _ _ _ (by omega)]; exact h.row, ⟨xs, own_kept hx fun k hk => Below.heap_alloc _ _ _ (own_there hx k hk).2⟩, ⟨ys, own_kept hy fun k hk => Below.heap_alloc _ _ _ (own_there hy k hk).2⟩,
    h.apart, hg, by simp; omega, h.old.alloc (by omega) o⟩

/-- Behind an append onto runs. -/
theorem Inv.runsGrown (h : Inv w0 w B g R vr vs nr ns) {v' : Value} {n' : Nat} {xs' : List Value} {b cap : Nat} (hv : v' = .slice (some ⟨b, 0, none⟩) n' cap) (ho : w'.ownsRow B 90 1 v' n' xs') (hg : w.grownBy w' vr.ownBlock)
    (hat : vr.ownBlock = some b ∨ b = w.heap.size) : Inv w0 w' B g R v' vs n' ns := by
  obtain ⟨xs, hx⟩ := h.runs
  obtain ⟨ys, hy⟩ := h.sizes
  have hB := h.Bs
  have hgB := h.gB
  refine ⟨by rw [hg.block g (by omega) (own_ne hx hgB)]; exact h.row, ⟨xs', ho⟩, ⟨ys, own_kept hy fun k hk => hg.block k (own_there hy k hk).2 fun e => h.apart k e.symm hk⟩, ?_, hgB, by have := hg.size; omega, ?_⟩
  · intro k hk hs
    subst hv
    simp only [Value.ownBlock, Option.some.injEq] at hk
    subst hk
    rcases hat with hat | hat
    · exact h.apart b hat hs
    · have := (own_there hy b hs).2
      omega
  · exact h.old.grown hg (by omega) fun k hk => by have := (own_there hx k hk).1; omega

/-- Behind an append onto sizes. -/
theorem Inv.sizesGrown (h : Inv w0 w B g R vr vs nr ns) {v' : Value} {n' : Nat} {xs' : List Value} {b cap : Nat} (hv : v' = .slice (some ⟨b, 0, none⟩) n' cap) (ho : w'.ownsRow B 3 1 v' n' xs') (hg : w.grownBy w' vs.ownBlock)
    (hat : vs.ownBlock = some b ∨ b = w.heap.size) : Inv w0 w' B g R vr v' nr n' := by
  obtain ⟨xs, hx⟩ := h.runs
  obtain ⟨ys, hy⟩ := h.sizes
  have hB := h.Bs
  have hgB := h.gB
  refine ⟨by rw [hg.block g (by omega) (own_ne hy hgB)]; exact h.row, ⟨xs, own_kept hx fun k hk => hg.block k (own_there hx k hk).2 fun e => h.apart k hk e.symm⟩, ⟨xs', ho⟩, ?_, hgB, by have := hg.size; omega, ?_⟩
  · intro k hk hs
    subst hv
    simp only [Value.ownBlock, Option.some.injEq] at hs
    subst hs
    rcases hat with hat | hat
    · exact h.apart b hk hat
    · have := (own_there hx b hk).2
      omega
  · exact h.old.grown hg (by omega) fun k hk => by have := (own_there hy k hk).1; omega

/-- The row set anew. -/
theorem Inv.setRow (h : Inv w0 w B g R vr vs nr ns) (R' : Array Value) : Inv w0 (w.setRow g R') B g R' vr vs nr ns := by
  obtain ⟨xs, hx⟩ := h.runs
  obtain ⟨ys, hy⟩ := h.sizes
  have hgB := h.gB
  refine ⟨setRow_heap w g _ R' 72 (0, 0) h.row, ⟨xs, own_kept hx fun k hk => setRow_other w g k R' (by have := (own_there hx k hk).1; omega)⟩, ⟨ys, own_kept hy fun k hk => setRow_other w g k R' (by have := (own_there hy k hk).1; omega)⟩,
    h.apart, hgB, by rw [setRow_size]; exact h.Bs, h.old.trans ⟨rfl, rfl, rfl, by simp, fun k hk => setRow_other w g k R' (by omega)⟩⟩

theorem Inv.rowAt (h : Inv w0 w B g R vr vs nr ns) : RowAt w g := Ybulkjgq.rowAt h.row
theorem Inv.same (h : Inv w0 w B g R vr vs nr ns) : w.setRow g R = w := setRow_self w g R 72 (0, 0) h.row
theorem Inv.cell (h : Inv w0 w B g R vr vs nr ns) (i : Nat) : w.cell? ⟨g, i, none⟩ = R[i]? := cell_of_row w g i R 72 (0, 0) h.row
theorem Inv.frozen (h : Inv w0 w B g R vr vs nr ns) (i : Nat) : w.frozen? ⟨g, i, none⟩ = false := frozen_of_row w g i R 72 h.row
theorem Inv.glt (h : Inv w0 w B g R vr vs nr ns) : g < w.heap.size := by have := h.gB; have := h.Bs; omega
end

theorem Yba.info90 : (Yba.prog.info? 90).map (fun i => (i.zero, i.size, i.bytes)) = some (some (.slice none 0 0), 1, 24) := by kernel_rfl
theorem Yba.info3 : (Yba.prog.info? 3).map (fun i => (i.zero, i.size, i.bytes)) = some (some (.int .i64 0), 1, 8) := by kernel_rfl
end Go.Proofs.Ybulkjgq
