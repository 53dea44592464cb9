/- impl.set returns a new map that reads as the labels put one behind the other, and changes nothing that lay in memory. Condition: at most 1000 labels. -/
import Derived.Test.YtmpocfcmhokffaaHash
import Derived.Maps.Own
import Derived.Maps.StringElems
namespace Go.Proofs.Ytmpocfcmhokffaa
open Go.RowKit Go.Maps Go.WideMaps

theorem law37 : Keyed Try.prog 37 := string_keyed Try.underlying37

/-- A text as a key. -/
abbrev keyOfB (b : ByteArray) : Lit := .string b.data.toList
/-- The map of some labels: of one name the last one counts. -/
def S {H : Type} (ps : List (ByteArray × ByteArray)) : DataW H := ps.foldl (fun m x => m.put (keyOfB x.1) (.lit (keyOfB x.2))) (.map [])

theorem S_step {H : Type} {ps : List (ByteArray × ByteArray)} {k : Nat} {x : ByteArray × ByteArray} (h : ps[k]? = some x) : S (H := H) (ps.take (k + 1)) = (S (ps.take k)).put (keyOfB x.1) (.lit (keyOfB x.2)) := by
  unfold S
  rw [List.take_add_one, h, List.foldl_append]
  rfl

set_option maxHeartbeats 1000000 in
set_option maxRecDepth 100000 in
theorem set_any {H : Type} (A : Option Addr) (cap : Nat) (ps : List (ByteArray × ByteArray)) (w : World) (hl : ps.length ≤ 1000) (hp : Pairs w w.heap.size A ps) :
    Calls Try.prog 9 #[.slice A ps.length cap] w fun e w' => e = .returned (.map (some w.heap.size)) ∧ w'.ownsMap Try.prog 37 (plainElem Try.prog 36) w.heap.size ps.length (S (H := H) ps) ∧ Below w.heap.size w w' := by
  obtain ⟨len, hlen⟩ : ∃ len, ps.length = len := ⟨_, rfl⟩
  rw [hlen]
  have hle : len ≤ ps.length := by omega
  have hlc : len ≤ 1000 := by omega
  have hfin := hide (p := ps.take len = ps) (by rw [← hlen]; exact List.take_length)
  clear hlen
  have hmm := @run_makeMap Try.prog
  go_enter Try.func9, Try.ntmps9
  go_wp2
  go_loopw [9] (fun i wr => ∃ k : Nat, k ≤ len ∧ i = .int .i64 k ∧ wr.ownsMap Try.prog 37 (plainElem Try.prog 36) w.heap.size k (S (H := H) (ps.take k)) ∧ Below w.heap.size w wr)
    (fun i _ => len - (intOf i).toNat)
  case atStart => exact ⟨0, Nat.zero_le _, rfl, World.ownsMap_made _ _ _ _, (Below.refl _ _).alloc (Nat.le_refl _) _⟩
  case round =>
    obtain ⟨k, hk, rfl, hown, hnx⟩ := hrel
    by_cases hlt : k < len
    · obtain ⟨b, off, x, rfl, hb, hx, s1, s2, c1, c2⟩ := (hp.below hnx).at_ (k := k) (by omega)
      have hst := hide (S_step (H := H) hx)
      have hkey : keyOf Try.prog 37 (.string x.1) = some (keyOfB x.1) := keyOf_string_mk Try.underlying37 s1
      have HK := hide hkey
      clear hkey hx
      go_wp2_with (first
        | (at_mapUpdate; refine wpList_mapUpdate_own _ rfl _ _ _ 33 rfl 37 36 law37 Try.underlying33 _ w.heap.size k _ rfl (hown.alloc _) (by unfold maxLen; omega) _ _ _ rfl rfl HK _ [] (plainElem_string Try.underlying36 s2) ?_; intro w1 hown1 hgrow1)
        | go_in)
      have R1 := hst.symm ▸ hown1
      have R2 := (hnx.alloc hnx.size (.cells #[.string x.1, .string x.2] 27)).grown hgrow1 (by have := hnx.size; simp; omega) (fun j hj => by cases hj; exact Nat.le_refl _)
      clear hown1 hgrow1 hown
      go_wp2
      go_roundw
      case rel => exact ⟨k + 1, by omega, by go_num, R1, R2⟩
      case measure => simp [intOf]; omega
    · have : k = len := by omega
      subst this
      go_wp2
      go_ret
      exact ⟨rfl, hfin ▸ hown, hnx⟩

#print axioms set_any
end Go.Proofs.Ytmpocfcmhokffaa
