/- Lemmas outside the walk of laws.FnPrintsOrder: a slice of labels as cells, a slice of labels that the call owns. Conditions: texts at most maxLen long. -/
import Derived.Test.YtmpocfcmhokffaaSort
import Derived.Test.YtmpocfcmhokffaaPlain
import Derived.WalkSmall
import Derived.Laws.OwnMore
namespace Go.Proofs.Ytmpocfcmhokffaa
open Go.RowKit

/-- Labels as cells. -/
def flat (ps : List (ByteArray × ByteArray)) : List Value := ps.flatMap fun x => [.string x.1, .string x.2]

theorem flat_cons (x : ByteArray × ByteArray) (r : List (ByteArray × ByteArray)) : flat (x :: r) = .string x.1 :: .string x.2 :: flat r := rfl
theorem flat_append (a b : List (ByteArray × ByteArray)) : flat (a ++ b) = flat a ++ flat b := by simp [flat, List.flatMap_append]
theorem flat_length : ∀ ps, (flat ps).length = ps.length * 2
  | [] => rfl
  | x :: r => by rw [flat_cons, List.length_cons, List.length_cons, flat_length r, List.length_cons]; omega
theorem flat_even : ∀ (ps : List (ByteArray × ByteArray)) (j : Nat), (flat ps)[j * 2]? = (ps[j]?).map fun x => .string x.1
  | [], j => by simp [flat]
  | x :: r, 0 => by simp [flat_cons]
  | x :: r, j + 1 => by
    rw [flat_cons, show (j + 1) * 2 = (j * 2 + 1) + 1 by omega, List.getElem?_cons_succ, List.getElem?_cons_succ, flat_even r j, List.getElem?_cons_succ]
theorem flat_odd : ∀ (ps : List (ByteArray × ByteArray)) (j : Nat), (flat ps)[j * 2 + 1]? = (ps[j]?).map fun x => .string x.2
  | [], j => by simp [flat]
  | x :: r, 0 => by simp [flat_cons]
  | x :: r, j + 1 => by
    rw [flat_cons, show (j + 1) * 2 + 1 = (j * 2 + 1 + 1) + 1 by omega, List.getElem?_cons_succ, List.getElem?_cons_succ, flat_odd r j, List.getElem?_cons_succ]
theorem flat_one (ps : List (ByteArray × ByteArray)) : ∀ u ∈ flat ps, u.oneCell' = true := by
  intro u hu
  obtain ⟨x, _, hx⟩ := List.mem_flatMap.1 hu
  rcases List.mem_cons.1 hx with rfl | hx
  · rfl
  · rcases List.mem_cons.1 hx with rfl | hx
    · rfl
    · cases hx

/-- A slice of labels that the call owns. -/
theorem pairs_of_row {w : World} {base g n cap : Nat} {ps : List (ByteArray × ByteArray)} (h : w.ownsRow base 27 2 (.slice (some ⟨g, 0, none⟩) n cap) n (flat ps)) (hs : ∀ x ∈ ps, x.1.size ≤ maxLen ∧ x.2.size ≤ maxLen) :
    Pairs w w.heap.size (some ⟨g, 0, none⟩) ps := by
  have hn : ps.length * 2 = n * 2 := by rw [← flat_length]; exact h.1
  refine ⟨fun _ => ⟨g, 0, rfl, (h.lt g rfl).2, fun j x hx => ?_⟩, hs⟩
  have hj : j < ps.length := (List.getElem?_eq_some_iff.1 hx).1
  rw [Nat.zero_add, h.cellAt (j * 2) (by omega), h.cellAt (j * 2 + 1) (by omega), flat_even, flat_odd, hx]
  exact ⟨rfl, rfl⟩

/-- The cells of a slice of labels, one behind the other. -/
theorem flat_cells {w : World} {B : Nat} {b off : Nat} {ps : List (ByteArray × ByteArray)} (hp : Pairs w B (some ⟨b, off, none⟩) ps) : ∀ j u, (flat ps)[j]? = some u → w.cell? ((⟨b, off, none⟩ : Addr).add j) = some u := by
  intro j u hu
  have hj : j < ps.length * 2 := by
    rw [← flat_length]; exact (List.getElem?_eq_some_iff.1 hu).1
  obtain ⟨b', off', e, _, hc⟩ := hp.1 (by omega)
  cases e
  have hadd : (⟨b, off, none⟩ : Addr).add j = ⟨b, off + j, none⟩ := by unfold Addr.add; split <;> simp_all
  rw [hadd]
  obtain ⟨q, hq⟩ : ∃ q, j = q * 2 ∨ j = q * 2 + 1 := ⟨j / 2, by omega⟩
  have hx : ps[q]? = some (ps[q]'(by omega)) := List.getElem?_eq_getElem (by omega)
  obtain ⟨c1, c2⟩ := hc q _ hx
  rcases hq with rfl | rfl
  · rw [flat_even, hx] at hu
    cases hu
    exact c1
  · rw [flat_odd, hx] at hu
    cases hu
    rw [← Nat.add_assoc]
    exact c2

/-- One label laid in a new block. -/
theorem pairs_new (w : World) (x y : ByteArray) (hx : x.size ≤ maxLen) (hy : y.size ≤ maxLen) : Pairs (w.alloc (.cells #[.string x, .string y] 27)) (w.heap.size + 1) (some ⟨w.heap.size, 0, none⟩) [(x, y)] := by
  refine ⟨fun _ => ⟨w.heap.size, 0, rfl, by omega, fun j u hj => ?_⟩, fun u hu => ?_⟩
  · match j, hj with
    | 0, hj => simp at hj; subst hj; simp
    | j + 1, hj => simp at hj
  · simp at hu; subst hu; exact ⟨hx, hy⟩

/-- .. as a row that the call owns. -/
theorem row_new (w : World) (base : Nat) (x y : ByteArray) (hb : base ≤ w.heap.size) : (w.alloc (.cells #[.string x, .string y] 27)).ownsRow base 27 2 (.slice (some ⟨w.heap.size, 0, none⟩) 1 1) 1 (flat [(x, y)]) :=
  ⟨rfl, .inr ⟨w.heap.size, 1, _, rfl, hb, heap_alloc_new w _, Nat.le_refl _, by unfold maxLen; omega, rfl, rfl⟩⟩

/-- What the k-th round appends. -/
theorem rev_step {ps : List (ByteArray × ByteArray)} {k : Nat} (hk : k < ps.length) {x : ByteArray × ByteArray} (hx : ps[ps.length - 1 - k]? = some x) : ps.reverse.take (k + 1) = ps.reverse.take k ++ [x] := by
  have h : ps.reverse[k]? = some x := by rw [List.getElem?_reverse hk, hx]
  rw [List.take_add_one, h]
  rfl

/-- The names are apart, as the rounds have found them. -/
theorem apart_of {ps : List (ByteArray × ByteArray)} (h : ∀ (i k : Nat) (x y : ByteArray × ByteArray), k < i → ps[i]? = some x → ps[k]? = some y → y.1 ≠ x.1) : ps.Pairwise (fun x y => x.1 ≠ y.1) := by
  rw [List.pairwise_iff_getElem]
  intro i j hi hj hij
  exact h j i _ _ hij (List.getElem?_eq_getElem hj) (List.getElem?_eq_getElem hi)

#print axioms flat_cells
end Go.Proofs.Ytmpocfcmhokffaa
