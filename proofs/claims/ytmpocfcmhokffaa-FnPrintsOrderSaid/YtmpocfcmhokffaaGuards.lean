/- plain, word, zzFits9, zzFits8 and fairLabels of package laws return some bool and change nothing that lay in memory, and where fairLabels returns true there are at most ten labels. Conditions: every string and slice is at most maxLen long. -/
import Derived.Test.YtmpocfcmhokffaaRows
import Derived.WalkKit
import Derived.WalkSpells
import Derived.WalkLawsBesides
namespace Go.Proofs.Ytmpocfcmhokffaa
open Go.RowKit

theorem hide {p : Prop} (h : p) : Hid p := h

/-- Some bool, and the world as it was. -/
def SomeB (w : World) (e : Ending) (w' : World) : Prop := ∃ x : Bool, e = .returned (.bool x) ∧ w = w'
/-- Some bool, and nothing that lay has turned. -/
def SomeBel (Q : Bool → Prop) (w : World) (e : Ending) (w' : World) : Prop := ∃ x : Bool, e = .returned (.bool x) ∧ Q x ∧ Below w.heap.size w w'

set_option maxHeartbeats 400000 in
set_option maxRecDepth 100000 in
theorem plain_any (s : ByteArray) (w : World) (hs : s.size ≤ maxLen) : Calls Try.prog 7 #[.string s] w (SomeB w) := by
  unfold maxLen at hs
  go_enter Try.func7, Try.ntmps7
  go_wp2
  go_loop [6] (fun i => ∃ k : Nat, k ≤ s.size ∧ i = .int .i64 k) (fun i => s.size - (intOf i).toNat)
  case atStart => exact ⟨0, Nat.zero_le _, rfl⟩
  case round =>
    obtain ⟨k, hk, rfl⟩ := hrel
    by_cases hlt : k < s.size
    · go_wp2
      · go_ret
        exact ⟨_, rfl, rfl⟩
      · exact ⟨⟨k + 1, by omega, by go_num⟩, by simp [intOf]; omega⟩
      · go_ret
        exact ⟨_, rfl, rfl⟩
    · go_wp2
      go_ret
      exact ⟨_, rfl, rfl⟩

set_option maxHeartbeats 1000000 in
set_option maxRecDepth 100000 in
theorem word_any (s : ByteArray) (w : World) (hs : s.size ≤ maxLen) : Calls Try.prog 11 #[.string s] w (SomeB w) := by
  unfold maxLen at hs
  go_enter Try.func11, Try.ntmps11
  go_wp2
  go_loop [7] (fun i => ∃ k : Nat, k ≤ s.size ∧ i = .int .i64 k) (fun i => s.size - (intOf i).toNat)
  case atStart => exact ⟨0, Nat.zero_le _, rfl⟩
  case round =>
    obtain ⟨k, hk, rfl⟩ := hrel
    by_cases hlt : k < s.size
    · go_wp2
      all_goals (first
        | (go_ret; exact ⟨_, rfl, rfl⟩)
        | exact ⟨⟨k + 1, by omega, by go_num⟩, by simp [intOf]; omega⟩)
    · go_wp2
      all_goals (go_ret; exact ⟨_, rfl, rfl⟩)

set_option maxHeartbeats 400000 in
set_option maxRecDepth 100000 in
theorem fits9_any (a b : ByteArray) (w : World) : Calls Try.prog 8 #[.agg #[.string a, .string b]] w (SomeBel (fun _ => True) w) := by
  go_enter Try.func8, Try.ntmps8
  go_wp2
  all_goals (go_ret; exact ⟨_, rfl, trivial, (Below.refl _ _).alloc (Nat.le_refl _) _⟩)

/-- A slice of labels: its address, the block below B, each label's two cells. -/
def Pairs (w : World) (B : Nat) (A : Option Addr) (ps : List (ByteArray × ByteArray)) : Prop :=
  (0 < ps.length → ∃ b off, A = some ⟨b, off, none⟩ ∧ b < B ∧ ∀ j x, ps[j]? = some x → w.cell? ⟨b, off + j * 2, none⟩ = some (.string x.1) ∧ w.cell? ⟨b, off + j * 2 + 1, none⟩ = some (.string x.2)) ∧
  ∀ x ∈ ps, x.1.size ≤ maxLen ∧ x.2.size ≤ maxLen

theorem Pairs.keep {w w' : World} {B : Nat} {A : Option Addr} {ps : List (ByteArray × ByteArray)} (h : Pairs w B A ps) (hk : ∀ p : Addr, p.block < B → w'.cell? p = w.cell? p) : Pairs w' B A ps :=
  ⟨fun hn => by
    obtain ⟨b, off, e, hb, hc⟩ := h.1 hn
    exact ⟨b, off, e, hb, fun j x hx => ⟨(hk _ hb).trans (hc j x hx).1, (hk _ hb).trans (hc j x hx).2⟩⟩, h.2⟩
theorem Pairs.below {w w' : World} {B : Nat} {A : Option Addr} {ps : List (ByteArray × ByteArray)} (h : Pairs w B A ps) (hb : Below B w w') : Pairs w' B A ps := h.keep fun _ hp => hb.cell hp
theorem Pairs.more {w : World} {B B' : Nat} {A : Option Addr} {ps : List (ByteArray × ByteArray)} (h : Pairs w B A ps) (hB : B ≤ B') : Pairs w B' A ps :=
  ⟨fun hn => by
    obtain ⟨b, off, e, hb, hc⟩ := h.1 hn
    exact ⟨b, off, e, by omega, hc⟩, h.2⟩
/-- What a round meets. -/
theorem Pairs.at_ {w : World} {B : Nat} {A : Option Addr} {ps : List (ByteArray × ByteArray)} (h : Pairs w B A ps) {k : Nat} (hk : k < ps.length) :
    ∃ b off x, A = some ⟨b, off, none⟩ ∧ b < B ∧ ps[k]? = some x ∧ x.1.size ≤ maxLen ∧ x.2.size ≤ maxLen ∧ w.cell? ⟨b, off + k * 2, none⟩ = some (.string x.1) ∧ w.cell? ⟨b, off + k * 2 + 1, none⟩ = some (.string x.2) := by
  obtain ⟨b, off, e, hb, hc⟩ := h.1 (by omega)
  have hx : ps[k]? = some ps[k] := List.getElem?_eq_getElem hk
  obtain ⟨h1, h2⟩ := h.2 _ (List.getElem_mem hk)
  exact ⟨b, off, ps[k], e, hb, hx, h1, h2, (hc k _ hx).1, (hc k _ hx).2⟩

set_option maxHeartbeats 1000000 in
set_option maxRecDepth 100000 in
theorem fits8_any (A : Option Addr) (len cap : Nat) (ps : List (ByteArray × ByteArray)) (w : World) (hlen : len ≤ ps.length) (_hl : ps.length ≤ maxLen) (hp : Pairs w w.heap.size A ps) :
    Calls Try.prog 4 #[.slice A len cap] w (SomeBel (fun _ => True) w) := by
  unfold maxLen at _hl
  go_enter Try.func4, Try.ntmps4
  go_wp2
  · go_ret
    exact ⟨_, rfl, trivial, Below.refl _ _⟩
  · go_loopw [10] (fun i wr => ∃ k : Nat, k ≤ len ∧ i = .int .i64 k ∧ Below w.heap.size w wr) (fun i _ => len - (intOf i).toNat)
    case atStart => exact ⟨0, Nat.zero_le _, rfl, Below.refl _ _⟩
    case round =>
      obtain ⟨k, hk, rfl, hnx⟩ := hrel
      by_cases hlt : k < len
      · obtain ⟨b, off, x, rfl, hb, _, _, _, c1, c2⟩ := (hp.below hnx).at_ (k := k) (by omega)
        go_wp2_with fail
        refine (fits9_any _ _ _).mono ?_
        rintro e w1 ⟨x1, rfl, -, hb1⟩
        have hb2 := ((hnx.alloc hnx.size (.cells #[.string x.1, .string x.2] 27))).trans (hb1.mono (by have := hnx.size; simp; omega))
        clear hb1
        cases x1
        · go_wp2
          go_ret
          exact ⟨_, rfl, trivial, hb2⟩
        · go_wp2
          exact ⟨⟨k + 1, by omega, by go_num, hb2⟩, by simp [intOf]; omega⟩
      · go_wp2
        go_ret
        exact ⟨_, rfl, trivial, hnx⟩

set_option maxHeartbeats 1000000 in
set_option maxRecDepth 100000 in
theorem fair_any (A : Option Addr) (len cap : Nat) (ps : List (ByteArray × ByteArray)) (w : World) (hlen : len ≤ ps.length) (hl : ps.length ≤ maxLen) (hp : Pairs w w.heap.size A ps) :
    Calls Try.prog 6 #[.slice A len cap] w (SomeBel (fun x => x = true → len ≤ 10) w) := by
  unfold maxLen at hl
  go_enter Try.func6, Try.ntmps6
  go_wp2
  go_loopw [7] (fun i wr => ∃ k : Nat, k ≤ len ∧ i = .int .i64 k ∧ Below w.heap.size w wr) (fun i _ => len - (intOf i).toNat)
  case atStart => exact ⟨0, Nat.zero_le _, rfl, Below.refl _ _⟩
  case round =>
    obtain ⟨k, hk, rfl, hnx⟩ := hrel
    by_cases hlt : k < len
    · obtain ⟨b, off, x, rfl, hb, _, s1, s2, c1, c2⟩ := (hp.below hnx).at_ (k := k) (by omega)
      have hb2 := (hnx.alloc hnx.size (.cells #[.string x.1, .string x.2] 27))
      go_wp2_with fail
      refine (word_any _ _ s1).mono ?_
      rintro e w1 ⟨x1, rfl, rfl⟩
      cases x1
      · go_wp2
        go_ret
        refine ⟨false, rfl, ?_, hb2⟩
        intro h
        cases h
      · go_wp2_with fail
        refine (plain_any _ _ s2).mono ?_
        rintro e w1 ⟨x1, rfl, rfl⟩
        cases x1
        · go_wp2
          go_ret
          refine ⟨false, rfl, ?_, hb2⟩
          intro h
          cases h
        · go_wp2
          exact ⟨⟨k + 1, by omega, by go_num, hb2⟩, by simp [intOf]; omega⟩
    · go_wp2
      go_ret
      refine ⟨_, rfl, fun h => ?_, hnx⟩
      simp at h
      omega

#print axioms fits8_any
#print axioms fair_any
end Go.Proofs.Ytmpocfcmhokffaa
