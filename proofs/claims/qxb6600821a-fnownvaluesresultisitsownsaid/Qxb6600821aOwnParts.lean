/-
  ownValues: the plain parts: the values laid end to end, and cut apart again; a builder beside new blocks.
-/
import Derived.Test.Qxb6600821aBld
namespace Go.Proofs.Qxb6600821a
open Go Go.RowKit
set_option linter.unusedVariables false
set_option linter.unusedSimpArgs false

def tot (vs : Nat → ByteArray) : Nat → Nat
  | 0 => 0
  | k + 1 => tot vs k + (vs k).size
theorem tot_succ (vs : Nat → ByteArray) (k : Nat) : tot vs (k + 1) = tot vs k + (vs k).size := rfl
theorem tot_le (vs : Nat → ByteArray) (n : Nat) (h : ∀ j, j < n → (vs j).size ≤ 1048576) : ∀ k, k ≤ n → tot vs k ≤ k * 1048576
  | 0, _ => by simp [tot]
  | k + 1, hk => by
    have := tot_le vs n h k (by omega)
    have := h k (by omega)
    rw [tot_succ]
    omega

/-- The first k values, end to end. -/
def catB (vs : Nat → ByteArray) : Nat → List UInt8
  | 0 => []
  | k + 1 => catB vs k ++ (vs k).data.toList
theorem catB_succ (vs : Nat → ByteArray) (k : Nat) : catB vs (k + 1) = catB vs k ++ (vs k).data.toList := rfl
theorem catB_length (vs : Nat → ByteArray) : ∀ k, (catB vs k).length = tot vs k
  | 0 => rfl
  | k + 1 => by
    rw [catB_succ, List.length_append, catB_length vs k, tot_succ, Array.length_toList]
    rfl
/-- r values from the i-th on, end to end. -/
def restB (vs : Nat → ByteArray) : Nat → Nat → List UInt8
  | _, 0 => []
  | i, r + 1 => (vs i).data.toList ++ restB vs (i + 1) r
theorem restB_succ (vs : Nat → ByteArray) (i r : Nat) : restB vs i (r + 1) = (vs i).data.toList ++ restB vs (i + 1) r := rfl
theorem cat_rest (vs : Nat → ByteArray) : ∀ r i, catB vs i ++ restB vs i r = catB vs (i + r)
  | 0, i => by simp [restB]
  | r + 1, i => by
    rw [restB_succ, ← List.append_assoc, ← catB_succ, cat_rest vs r (i + 1)]
    congr 1
    omega
theorem rest_zero (vs : Nat → ByteArray) (n : Nat) : restB vs 0 n = catB vs n := by
  have := cat_rest vs n 0
  simpa [catB] using this

theorem size_list (s : ByteArray) : s.size = s.data.toList.length := by
  rw [Array.length_toList]
  rfl
theorem cut_head (s : ByteArray) (l : List UInt8) : (⟨(s.data.toList ++ l).toArray⟩ : ByteArray).extract 0 s.size = s := by
  apply ByteArray.ext
  apply Array.ext'
  rw [ByteArray.data_extract, Array.toList_extract, size_list s]
  simp
theorem cut_tail (s : ByteArray) (l : List UInt8) : (⟨(s.data.toList ++ l).toArray⟩ : ByteArray).extract s.size (s.size + l.length) = ⟨l.toArray⟩ := by
  apply ByteArray.ext
  apply Array.ext'
  rw [ByteArray.data_extract, Array.toList_extract, size_list s]
  simp
theorem cut_size (s : ByteArray) (l : List UInt8) : (⟨(s.data.toList ++ l).toArray⟩ : ByteArray).size = s.size + l.length := by
  rw [size_list, size_list s]
  simp

/-- What is left of the joint text. -/
def IsRest (vs : Nat → ByteArray) (k r : Nat) (S : ByteArray) : Prop := S = ⟨(restB vs k r).toArray⟩
theorem IsRest.step {vs : Nat → ByteArray} {k r : Nat} {S : ByteArray} (h : IsRest vs k (r + 1) S) : ∃ S', IsRest vs (k + 1) r S' ∧ S.extract 0 (vs k).size = vs k ∧ S.extract (vs k).size S.size = S' ∧ (vs k).size ≤ S.size := by
  subst h
  refine ⟨⟨(restB vs (k + 1) r).toArray⟩, rfl, ?_, ?_, ?_⟩
  · rw [restB_succ]; exact cut_head _ _
  · rw [restB_succ, cut_size]; exact cut_tail _ _
  · rw [restB_succ, cut_size]; omega

theorem builderAt_alloc {T e : TypeId} {B b : Nat} {p : Value} {bs : List Value} {w : World} (h : Lib.BuilderAt T e B b p bs w) (o : Obj) : Lib.BuilderAt T e B b p bs (w.alloc o) := by
  obtain ⟨hB, v, hb, hown, hne⟩ := h
  exact ⟨hB, v, (Below.heap_alloc w o b (lt_of_block hb)).trans hb, hown.alloc o, hne⟩

theorem bytes_cat (vs : Nat → ByteArray) (k : Nat) : Lib.byteCells (catB vs k) ++ byteCells (vs k) = Lib.byteCells (catB vs (k + 1)) := by
  rw [catB_succ, Lib.byteCells_append]
  rfl

/-- A store of what is there. -/
theorem set_same {xs : List Value} {j : Nat} {v : Value} (h : xs[j]? = some v) : xs.set j v = xs := by
  apply List.ext_getElem?
  intro i
  rw [List.getElem?_set]
  by_cases e : j = i
  · subst e
    have hlt : j < xs.length := (List.getElem?_eq_some_iff.1 h).1
    rw [if_pos rfl, if_pos hlt, h]
  · rw [if_neg e]

theorem pair_one (nm vs : Nat → ByteArray) (n : Nat) : ∀ u ∈ rowOf (pairG nm vs) n, u.oneCell' = true := by
  intro u hu
  simp only [rowOf, List.mem_map] at hu
  obtain ⟨_, _, rfl⟩ := hu
  rfl

end Go.Proofs.Qxb6600821a
