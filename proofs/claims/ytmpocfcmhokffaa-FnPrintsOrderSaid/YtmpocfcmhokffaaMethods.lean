/- Len, Less and Swap of model.LabelNames do what sort.Sort asks of them: the length, the order of texts, two stores. Conditions: indices within the slice, its cells known, Swap's not frozen. -/
import Derived.Test.YtmpocfcmhokffaaHash
import Derived.Deep.QuietTactic
import Derived.BigQuiet
import Derived.RegionTactic
import Derived.Sort.Walk0
import Derived.Sort.EncStr
import Derived.Sort.LotA
namespace Go.Proofs.Ytmpocfcmhokffaa
open Go.RowKit Go.Sort

set_option maxHeartbeats 400000 in
theorem names_Len (p : Option Addr) (n c : Nat) (W : World) : Calls Try.prog 54 #[.slice p n c] W fun e w' => e = .returned (.int .i64 n) ∧ ∃ q, w' = W.drewN q := by
  go_enter Try.func54, Try.ntmps54
  go_wp2
  go_ret
  exact ⟨rfl, 0, rfl⟩

set_option maxHeartbeats 2000000 in
theorem names_Less (blk off c size : Nat) (W : World) (G : Nat → List UInt8) (hc : ∀ t, t < size → W.cell? ⟨blk, off + t, none⟩ = some (encStr (G t))) (i j : Nat) (hi : i < size) (hj : j < size) (_hsz : size < 4611686018427387904) :
    Calls Try.prog 55 #[.slice (some ⟨blk, off, none⟩) size c, .int .i64 i, .int .i64 j] W fun e w' => e = .returned (.bool (ltStr (G i) (G j))) ∧ ∃ q, w' = W.drewN q := by
  have ci := hc i hi
  have cj := hc j hj
  clear hc
  go_enter Try.func55, Try.ntmps55
  go_wp2
  go_quiet (fail)
  go_wp2
  go_ret
  exact ⟨by simp [ltStr, bytesLess_eq], nq, rfl⟩

set_option maxHeartbeats 2000000 in
theorem names_Swap (blk off c size : Nat) (W : World) (x y : List UInt8) (i j : Nat) (hi : i < size) (hj : j < size) (_hsz : size < 4611686018427387904)
    (ci : W.cell? ⟨blk, off + i, none⟩ = some (encStr x)) (cj : W.cell? ⟨blk, off + j, none⟩ = some (encStr y)) (fi : W.frozen? ⟨blk, off + i, none⟩ = false) (fj : W.frozen? ⟨blk, off + j, none⟩ = false) :
    Calls Try.prog 57 #[.slice (some ⟨blk, off, none⟩) size c, .int .i64 i, .int .i64 j] W fun e w' => e = .returned (.tuple #[]) ∧ ∃ q, w' = ((W.setCell ⟨blk, off + i, none⟩ (encStr y)).setCell ⟨blk, off + j, none⟩ (encStr x)).drewN q := by
  obtain ⟨v', hy'⟩ := cell?_setCell_some (w := W) (p := ⟨blk, off + i, none⟩) (x := encStr y) (q := ⟨blk, off + j, none⟩) cj
  go_enter Try.func57, Try.ntmps57
  go_wp2
  go_region
  all_goals (try go_wp2)
  all_goals go_end0
  all_goals exact ⟨rfl, 1, rfl⟩

#print axioms names_Less
#print axioms names_Swap
end Go.Proofs.Ytmpocfcmhokffaa
