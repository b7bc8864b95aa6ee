/-
  The treap of LawS2479CJoin as plain data: trees with the block number of each node, their order of nodes, heap order, height; where they lie in a world; what a change of the world leaves alone.
-/
import Derived.Test.YbulkayhwRows
import Derived.WalkKit
import Derived.Deep.Trees
import Derived.Deep.AppendLies
namespace Go.Proofs.Ybulkayhw.Tree
open Go.RowKit Go.Deep

/-- A node bears its index and its priority. -/
abbrev T := BT (Nat × Int)

/-- The two bytes of an index. -/
def keyOf (i : Nat) : ByteArray := ⟨#[UInt8.ofNat (i / 256), UInt8.ofNat (i % 256)]⟩

/-- The pointer to a block. -/
def pt (b : Nat) : Value := .pointer (some ⟨b, 0, none⟩)

/-- What a node's block holds. -/
def nodeObj (a : Nat × Int) (l r : Value) : Obj := .cells #[.string (keyOf a.1), .int .i64 a.1, .int .u64 a.2, l, r] 38 (0, 0)

/-- The nodes lie in w, each in a block of its own. -/
def InT (w : World) : T → Prop
  | .nil => True
  | .node b o a l r => o = 0 ∧ w.heap[b]? = some (nodeObj a l.ptr r.ptr) ∧ InT w l ∧ InT w r

/-- The nodes in order: block, index, priority. -/
def io : T → List (Nat × Nat × Int)
  | .nil => []
  | .node b _ a l r => io l ++ (b, a) :: io r

/-- Heap order. -/
def Hp : T → Prop
  | .nil => True
  | .node _ _ a l r => (∀ x ∈ io l, x.2.2 ≤ a.2) ∧ (∀ x ∈ io r, x.2.2 ≤ a.2) ∧ Hp l ∧ Hp r

def ht : T → Nat
  | .nil => 0
  | .node _ _ _ l r => max (ht l) (ht r) + 1

theorem ht_le : ∀ t : T, ht t ≤ (io t).length
  | .nil => by simp [ht]
  | .node b o a l r => by
    have h1 := ht_le l
    have h2 := ht_le r
    simp only [ht, io, List.length_append, List.length_cons]
    omega

/-- The tree lies in every world that has the same at its nodes' blocks. -/
theorem InT.congr {w w' : World} : ∀ {t : T}, InT w t → (∀ x ∈ io t, w'.heap[x.1]? = w.heap[x.1]?) → InT w' t
  | .nil, _, _ => trivial
  | .node b o a l r, ⟨h0, h1, h2, h3⟩, hs => by
    refine ⟨h0, ?_, h2.congr (fun x hx => hs x ?_), h3.congr (fun x hx => hs x ?_)⟩
    · rw [hs (b, a) (by simp [io])]; exact h1
    · simp only [io, List.mem_append]; exact Or.inl hx
    · simp only [io, List.mem_append, List.mem_cons]; exact Or.inr (Or.inr hx)

theorem InT.lt {w : World} : ∀ {t : T}, InT w t → ∀ x ∈ io t, x.1 < w.heap.size
  | .nil, _, x, hx => by simp [io] at hx
  | .node b o a l r, ⟨_, h1, h2, h3⟩, x, hx => by
    simp only [io, List.mem_append, List.mem_cons] at hx
    rcases hx with hx | rfl | hx
    · exact h2.lt x hx
    · exact lt_of_block h1
    · exact h3.lt x hx

/-- What node x of the tree holds. -/
theorem InT.at {w : World} : ∀ {t : T}, InT w t → ∀ x ∈ io t, ∃ l r, w.heap[x.1]? = some (nodeObj x.2 l r)
  | .nil, _, x, hx => by simp [io] at hx
  | .node b o a l r, ⟨_, h1, h2, h3⟩, x, hx => by
    simp only [io, List.mem_append, List.mem_cons] at hx
    rcases hx with hx | rfl | hx
    · exact h2.at x hx
    · exact ⟨_, _, h1⟩
    · exact h3.at x hx

/-- The root pointer, written out. -/
theorem ptr_cases {w : World} : ∀ t : T, InT w t → t.ptr = .pointer none ∧ t = .nil ∨ ∃ b a l r, t = .node b 0 a l r ∧ t.ptr = pt b
  | .nil, _ => Or.inl ⟨rfl, rfl⟩
  | .node b o a l r, ⟨h0, _⟩ => by subst h0; exact Or.inr ⟨b, a, l, r, rfl, rfl⟩

/-- FROM w TO w': the streams as they were, no block gone; of what was there only the blocks in S may have turned. -/
structure Sv (S : Nat → Prop) (w w' : World) : Prop where
  os : w'.os = w.os
  tape : w'.tape = w.tape
  output : w'.output = w.output
  size : w.heap.size ≤ w'.heap.size
  block : ∀ k, k < w.heap.size → ¬ S k → w'.heap[k]? = w.heap[k]?

theorem Sv.refl (S : Nat → Prop) (w : World) : Sv S w w := ⟨rfl, rfl, rfl, Nat.le_refl _, fun _ _ _ => rfl⟩
theorem Sv.trans {S : Nat → Prop} {a b c : World} (h : Sv S a b) (k : Sv S b c) : Sv S a c :=
  ⟨k.os.trans h.os, k.tape.trans h.tape, k.output.trans h.output, Nat.le_trans h.size k.size,
    fun i hi hs => (k.block i (Nat.lt_of_lt_of_le hi h.size) hs).trans (h.block i hi hs)⟩
theorem Sv.mono {S S' : Nat → Prop} {w w' : World} (h : Sv S w w') (hs : ∀ k, k < w.heap.size → S k → S' k) : Sv S' w w' :=
  ⟨h.os, h.tape, h.output, h.size, fun k hk hn => h.block k hk (fun e => hn (hs k hk e))⟩
theorem Sv.drew {S : Nat → Prop} {a w : World} (h : Sv S a w) : Sv S a w.drew := ⟨h.os, h.tape, h.output, h.size, h.block⟩
theorem Sv.alloc {S : Nat → Prop} {a w : World} (h : Sv S a w) (o : Obj) : Sv S a (w.alloc o) :=
  h.trans ⟨rfl, rfl, rfl, by simp, fun k hk _ => Below.heap_alloc _ _ _ hk⟩
theorem Sv.setCell {S : Nat → Prop} {a w : World} (h : Sv S a w) {p : Addr} (hp : S p.block) (u : Value) : Sv S a (w.setCell p u) :=
  h.trans ⟨rfl, rfl, rfl, by simp [World.setCell], fun k _ hk => Below.heap_setCell _ _ _ _ (fun e => hk (e ▸ hp))⟩
theorem Sv.grown {S : Nat → Prop} {a w w' : World} {row : Option Nat} (h : Sv S a w) (hg : w.grownBy w' row) (hr : ∀ k, row = some k → S k) : Sv S a w' :=
  h.trans ⟨hg.os, hg.tape, hg.output, hg.size, fun k hk hn => hg.block k hk (fun e => hn (hr k e.symm))⟩
theorem Sv.below {B : Nat} {w w' : World} (h : Sv (fun k => B ≤ k) w w') (hB : B ≤ w.heap.size) : Below B w w' :=
  ⟨h.os, h.tape, h.output, h.size, fun k hk => h.block k (by omega) (by omega)⟩
theorem Sv.of_below {w w' : World} (h : Below w.heap.size w w') (S : Nat → Prop) : Sv S w w' :=
  ⟨h.os, h.tape, h.output, h.size, fun k hk _ => h.block k hk⟩
theorem Sv.inT {S : Nat → Prop} {w w' : World} (h : Sv S w w') {t : T} (ht : InT w t) (hs : ∀ x ∈ io t, ¬ S x.1) : InT w' t :=
  ht.congr fun x hx => h.block x.1 (ht.lt x hx) (hs x hx)

theorem cell_block {w : World} {b : Nat} {cs : Array Value} {t : TypeId} {fz : Nat × Nat} (h : w.heap[b]? = some (.cells cs t fz)) (o : Nat) : w.cell? ⟨b, o, none⟩ = cs[o]? := by simp [World.cell?, h]
theorem free_block {w : World} {b : Nat} {cs : Array Value} {t : TypeId} (h : w.heap[b]? = some (.cells cs t (0, 0))) (o : Nat) : w.frozen? ⟨b, o, none⟩ = false := by simp [World.frozen?, h]

/-- The five cells of a node. -/
theorem node_cells {w : World} {b : Nat} {a : Nat × Int} {l r : Value} (h : w.heap[b]? = some (nodeObj a l r)) :
    w.cell? ⟨b, 0, none⟩ = some (.string (keyOf a.1)) ∧ w.cell? ⟨b, 1, none⟩ = some (.int .i64 a.1) ∧ w.cell? ⟨b, 2, none⟩ = some (.int .u64 a.2) ∧
    w.cell? ⟨b, 3, none⟩ = some l ∧ w.cell? ⟨b, 4, none⟩ = some r := by
  unfold nodeObj at h
  simp [World.cell?, h]

theorem node_free {w : World} {b : Nat} {a : Nat × Int} {l r : Value} (h : w.heap[b]? = some (nodeObj a l r)) (o : Nat) : w.frozen? ⟨b, o, none⟩ = false := by
  unfold nodeObj at h
  simp [World.frozen?, h]

theorem node_setLeft {w : World} {b : Nat} {a : Nat × Int} {l r u : Value} (h : w.heap[b]? = some (nodeObj a l r)) : (w.setCell ⟨b, 3, none⟩ u).heap[b]? = some (nodeObj a u r) := by
  unfold nodeObj at *
  simp [World.setCell, Array.getElem?_modify, h]
theorem node_setRight {w : World} {b : Nat} {a : Nat × Int} {l r u : Value} (h : w.heap[b]? = some (nodeObj a l r)) : (w.setCell ⟨b, 4, none⟩ u).heap[b]? = some (nodeObj a l u) := by
  unfold nodeObj at *
  simp [World.setCell, Array.getElem?_modify, h]

end Go.Proofs.Ybulkayhw.Tree
