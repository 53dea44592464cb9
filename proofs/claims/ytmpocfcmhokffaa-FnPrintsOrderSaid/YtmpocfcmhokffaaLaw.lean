/- laws.FnPrintsOrder, called with any slice of labels and any text, returns true and changes nothing that lay in memory. Conditions: the slice and its texts are at most maxLen long, as every value that can be read is. -/
import Derived.Test.YtmpocfcmhokffaaParts
import Derived.Deep.QuietTactic
import Derived.BigQuiet
import Derived.Outline
namespace Go.Proofs.Ytmpocfcmhokffaa
open Go.RowKit

theorem Try.info27 : (Try.prog.info? 27).map (fun i => (i.zero, i.size, i.bytes)) = some (some (.agg #[.string ⟨#[]⟩, .string ⟨#[]⟩]), 2, 32) := by kernel_rfl

/-- True, and nothing that lay has turned. -/
def Held (w : World) (e : Ending) (w' : World) : Prop := e = .returned (.bool true) ∧ Below w.heap.size w w'

/-- The first k names are apart. -/
def Apart (ps : List (ByteArray × ByteArray)) (k : Nat) : Prop := ∀ (i j : Nat) (x y : ByteArray × ByteArray), i < k → j < i → ps[i]? = some x → ps[j]? = some y → y.1 ≠ x.1
/-- The k-th name is not among the first q. -/
def ApartAt (ps : List (ByteArray × ByteArray)) (k q : Nat) : Prop := ∀ (j : Nat) (x y : ByteArray × ByteArray), j < q → ps[k]? = some x → ps[j]? = some y → y.1 ≠ x.1

theorem Apart.step {ps : List (ByteArray × ByteArray)} {k : Nat} (h : Apart ps k) (h' : ApartAt ps k k) : Apart ps (k + 1) := by
  intro i j x y hi hj hx hy
  rcases Nat.lt_or_ge i k with hik | hik
  · exact h i j x y hik hj hx hy
  · obtain rfl : i = k := by omega
    exact h' j x y hj hx hy
theorem ApartAt.step {ps : List (ByteArray × ByteArray)} {k q : Nat} (h : ApartAt ps k q) {x y : ByteArray × ByteArray} (hx : ps[k]? = some x) (hy : ps[q]? = some y) (hne : y.1 ≠ x.1) : ApartAt ps k (q + 1) := by
  intro j x' y' hj hx' hy'
  rcases Nat.lt_or_ge j q with hjq | hjq
  · exact h j x' y' hjq hx' hy'
  · obtain rfl : j = q := by omega
    rw [hx] at hx'
    rw [hy] at hy'
    cases hx'
    cases hy'
    exact hne

theorem print_n (A : Option Addr) (n cap : Nat) (ps : List (ByteArray × ByteArray)) (F : Int) (w : World) (hn : ps.length = n) (hl : n ≤ 1000) (hF : fpD (S (H := Unit) ps) = F) (hp : Pairs w w.heap.size A ps) :
    Calls Try.prog 5 #[.slice A n cap] w fun e w' => e = .returned (.int .u64 F) ∧ Below w.heap.size w w' := by
  subst hn
  subst hF
  exact print_any sort_names A cap ps w hl hp

theorem row_form {w : World} {base n : Nat} {v : Value} {xs : List Value} (h : w.ownsRow base 27 2 v n xs) (hn : 0 < n) : ∃ g cp, v = .slice (some ⟨g, 0, none⟩) n cp ∧ base ≤ g ∧ g < w.heap.size := by
  rcases h.2 with ⟨_, h0⟩ | ⟨g, cp, cur, hv, hb, hg, _⟩
  · omega
  · exact ⟨g, cp, hv, hb, (Array.getElem?_eq_some_iff.1 hg).1⟩

theorem S_head {ps : List (ByteArray × ByteArray)} {x : ByteArray × ByteArray} (hx : ps[0]? = some x) (more : ByteArray) : S (H := Unit) ((x.1, more) :: ps) = S ps := by
  match ps, hx with
  | y :: r, hx =>
    simp at hx
    subst hx
    obtain ⟨n, v⟩ := y
    exact S_twice n more v r

def fpB : Int := fpD (S (H := Unit) [(⟨#[97]⟩, ⟨#[98]⟩)])
def fpC : Int := fpD (S (H := Unit) [(⟨#[97]⟩, ⟨#[99]⟩)])
theorem fpB_ne : (fpB == fpC) = false := beq_eq_false_iff_ne.2 fp_parts

theorem print_b (w1 : World) : Calls Try.prog 5 #[.slice (some ⟨w1.heap.size, 0, none⟩) 1 1] (w1.alloc (.cells #[.string ⟨#[97]⟩, .string ⟨#[98]⟩] 27)) fun e w' => e = .returned (.int .u64 fpB) ∧ Below (w1.heap.size + 1) (w1.alloc (.cells #[.string ⟨#[97]⟩, .string ⟨#[98]⟩] 27)) w' := by
  have := print_any sort_names (some ⟨w1.heap.size, 0, none⟩) 1 [(⟨#[97]⟩, ⟨#[98]⟩)] (w1.alloc (.cells #[.string ⟨#[97]⟩, .string ⟨#[98]⟩] 27)) (by simp) (by rw [World.size_alloc]; exact pairs_new _ _ _ (by decide) (by decide))
  rw [World.size_alloc] at this
  exact this
theorem print_c (w1 : World) : Calls Try.prog 5 #[.slice (some ⟨w1.heap.size, 0, none⟩) 1 1] (w1.alloc (.cells #[.string ⟨#[97]⟩, .string ⟨#[99]⟩] 27)) fun e w' => e = .returned (.int .u64 fpC) ∧ Below (w1.heap.size + 1) (w1.alloc (.cells #[.string ⟨#[97]⟩, .string ⟨#[99]⟩] 27)) w' := by
  have := print_any sort_names (some ⟨w1.heap.size, 0, none⟩) 1 [(⟨#[97]⟩, ⟨#[99]⟩)] (w1.alloc (.cells #[.string ⟨#[97]⟩, .string ⟨#[99]⟩] 27)) (by simp) (by rw [World.size_alloc]; exact pairs_new _ _ _ (by decide) (by decide))
  rw [World.size_alloc] at this
  exact this

set_option maxHeartbeats 2000000 in
set_option maxRecDepth 100000 in
theorem law_any (A : Option Addr) (len cap : Nat) (ps : List (ByteArray × ByteArray)) (more : ByteArray) (w : World) (hlen : ps.length = len) (hl : len ≤ maxLen) (hm : more.size ≤ maxLen) (hp : Pairs w w.heap.size A ps) :
    Calls Try.prog 3 #[.slice A len cap, .string more] w (Held w) := by
  have hl1 : len ≤ ps.length := by omega
  have hl2 : ps.length ≤ len := by omega
  clear hlen
  go_enter Try.func3, Try.ntmps3
  go_wp2_with fail
  refine (fits8_any A len cap ps w hl1 (by omega) hp).mono ?_
  rintro e w1 ⟨x1, rfl, -, hb1⟩
  cases x1
  · go_wp2
    go_ret
    exact ⟨rfl, hb1⟩
  by_cases hmb : 2147483647 < more.size
  · go_wp2
    go_ret
    exact ⟨rfl, hb1⟩
  have hz1 := hb1.size
  go_wp2_with fail
  refine (print_b w1).mono ?_
  rintro e w2 ⟨rfl, h2⟩
  have hb2 := (hb1.alloc hz1 (.cells #[.string ⟨#[97]⟩, .string ⟨#[98]⟩] 27)).trans (h2.mono (by omega))
  clear h2 hb1 hz1
  have hz2 := hb2.size
  go_wp2_with fail
  refine (print_c w2).mono ?_
  rintro e w3 ⟨rfl, h3⟩
  have hb3 := (hb2.alloc hz2 (.cells #[.string ⟨#[97]⟩, .string ⟨#[99]⟩] 27)).trans (h3.mono (by omega))
  clear h3 hb2 hz2
  have hne := fpB_ne
  go_wp2_with fail
  clear hne
  refine (fair_any A len cap ps w3 hl1 (by omega) ((hp.below hb3).more hb3.size)).mono ?_
  rintro e w4 ⟨x4, rfl, hten, h4⟩
  have hb4 := hb3.trans (h4.mono hb3.size)
  clear h4 hb3
  cases x4
  · go_wp2
    go_ret
    exact ⟨rfl, hb4⟩
  have ht : len ≤ 10 := hten rfl
  clear hten
  go_wp2_with fail
  refine (plain_any more w4 hm).mono ?_
  rintro e w5 ⟨x5, rfl, rfl⟩
  cases x5
  · go_wp2
    go_ret
    exact ⟨rfl, hb4⟩
  by_cases h0 : len = 0
  · subst h0
    go_wp2
    go_ret
    exact ⟨rfl, hb4⟩
  have h0' : ((len : Int) == 0) = false := beq_eq_false_iff_ne.2 (by omega)
  obtain ⟨i0, hi, hz0, hz1, hz2⟩ := info_parts Try.info27
  obtain ⟨b, off, rfl, hb, -⟩ := hp.1 (by omega)
  go_wp2
  go_loopw [5, 39] (fun v i wr => ∃ (k : Nat) (vb : Value), vb = v ∧ k ≤ len ∧ i = .int .i64 k ∧ wr.ownsRow w.heap.size 27 2 vb k (flat (ps.reverse.take k)) ∧ Apart ps k ∧ Below w.heap.size w wr) (fun _ i _ => len - (intOf i).toNat)
  case atStart => exact ⟨0, _, rfl, Nat.zero_le _, rfl, ⟨rfl, .inl ⟨rfl, rfl⟩⟩, fun i j x y h => absurd h (by omega), hb4⟩
  case round =>
    obtain ⟨k, vb, rfl, hk, rfl, hrow, hap, hnx⟩ := hrel
    by_cases hlt : k < len
    · go_wp2
      obtain ⟨wo, rfl⟩ : ∃ wo : World, wo = wr := ⟨_, rfl⟩
      go_loopw [43] (fun j wr => ∃ q : Nat, q ≤ k ∧ j = .int .i64 q ∧ wr.ownsRow w.heap.size 27 2 vb k (flat (ps.reverse.take k)) ∧ ApartAt ps k q ∧ Below w.heap.size w wr) (fun j _ => k - (intOf j).toNat)
      case atStart => exact ⟨0, Nat.zero_le _, rfl, hrow, fun j x y h => absurd h (by omega), hnx⟩
      case round =>
        obtain ⟨q, hq, rfl, hrow, hat, hnx⟩ := hrel
        by_cases hqk : q < k
        · have hpw := hp.below hnx
          obtain ⟨_, _, x, ex, _, hx, _, _, cx, _⟩ := hpw.at_ (k := k) (by omega)
          cases ex
          obtain ⟨_, _, y, ey, _, hy, _, _, cy, _⟩ := hpw.at_ (k := q) (by omega)
          cases ey
          have HX := hide hx
          have HY := hide hy
          clear hx hy hpw
          go_wp2
          go_quiet (fail)
          go_wp2
          · go_ret
            exact ⟨rfl, below_drewN hnx nq⟩
          · have hne : (y.1.toList == x.1.toList) = false := by assumption
            refine ⟨⟨q + 1, by omega, by go_num, hrow, hat.step HX.out HY.out (fun e => ?_), below_drewN hnx nq⟩, by simp [intOf]; omega⟩
            rw [e] at hne
            simp at hne
        · have : q = k := by omega
          subst this
          obtain ⟨_, _, z, ez, _, hz, s1, s2, cz1, cz2⟩ := (hp.below hnx).at_ (k := len - 1 - q) (by omega)
          cases ez
          have HZ := hide hz
          clear hz
          go_wp2_with (first
            | (at_builtin; refine wpList_append_own _ rfl _ _ 22 rfl w.heap.size 27 i0 (.agg #[.string ⟨#[]⟩, .string ⟨#[]⟩]) 2 32 Try.underlying22 hi hz0 hz1 hz2 rfl (by decide) _ _ _ rfl (hrow.alloc _) ⟨wr.heap.size, 0, none⟩ 1 1 [.string z.1, .string z.2] rfl rfl (cell_two_new _ _ _ _) (by simp [Value.oneCell']) (by unfold maxLen at *; omega) (by omega) (by have := hnx.size; simp; omega) ?_; intro v' w5 hown' hg5 hnil5; go_frame)
            | fail)
          have hap2 := hap.step hat
          have hrow2 : w5.ownsRow w.heap.size 27 2 v' (q + 1) (flat (ps.reverse.take (q + 1))) := by
            rw [rev_step (by omega) (x := z) (by rw [show ps.length = len by omega]; exact HZ), flat_append]
            exact hown'
          have hnx2 := (hnx.alloc hnx.size (.cells #[.string z.1, .string z.2] 27)).grown hg5 (by have := hnx.size; simp; omega) (fun j hj => ((hrow.alloc (.cells #[.string z.1, .string z.2] 27)).lt j hj).1)
          exact ⟨⟨q + 1, v', rfl, by omega, by go_num, hrow2, hap2, hnx2⟩, by simp [intOf]; omega⟩
    · have : k = len := by omega
      subst this
      obtain ⟨_, _, x, ex, _, hx, s1, s2, cx1, cx2⟩ := (hp.below hnx).at_ (k := 0) (by omega)
      cases ex
      have HX := hide hx
      clear hx
      rw [Nat.zero_mul, Nat.add_zero] at cx1
      obtain ⟨g, cp, hv, -, hg⟩ := row_form hrow (by omega)
      subst hv
      go_wp2_with (first
        | (at_builtin; refine wpList_append_own _ rfl _ _ 22 rfl w.heap.size 27 i0 (.agg #[.string ⟨#[]⟩, .string ⟨#[]⟩]) 2 32 Try.underlying22 hi hz0 hz1 hz2 rfl (by decide) (.slice (some ⟨wr.heap.size, 0, none⟩) 1 1) 1 (flat [(x.1, more)]) rfl (row_new wr w.heap.size x.1 more hnx.size) ⟨b, off, none⟩ k cap (flat ps) rfl (by rw [flat_length]; omega) (flat_cells (hp.below (hnx.alloc hnx.size _))) (flat_one ps) (by unfold maxLen at *; omega) (by omega) (by have := hnx.size; simp; omega) ?_; intro v6 w6 hown6 hg6 hnil6; go_frame)
        | fail)
      have hlen : ps.length = k := by omega
      have hb6 := (hnx.alloc hnx.size (.cells #[.string x.1, .string more] 27)).grown hg6 (by have := hnx.size; simp; omega) (fun j hj => ((row_new wr w.heap.size x.1 more hnx.size).lt j hj).1)
      obtain ⟨g6, c6, hv6, -, hg6b⟩ := row_form hown6 (by omega)
      subst hv6
      -- the three slices of labels, in the world behind the append
      have hap' : ps.Pairwise (fun x y => x.1 ≠ y.1) := apart_of (fun i j x y hj hx hy => hap i j x y (by have := (List.getElem?_eq_some_iff.1 hx).1; omega) hj hx hy)
      have hsz : ∀ x ∈ ps, x.1.size ≤ maxLen ∧ x.2.size ≤ maxLen := hp.2
      have PB : Pairs w6 w6.heap.size (some ⟨g, 0, none⟩) ps.reverse := by
        have h1 := (hrow.alloc (.cells #[.string x.1, .string more] 27)).kept hg6 (Or.inr (by simp [Value.ownBlock]; omega))
        rw [List.take_of_length_le (by simp; omega)] at h1
        exact pairs_of_row h1 (fun x hx => hsz x (List.mem_reverse.1 hx))
      have PT : Pairs w6 w6.heap.size (some ⟨g6, 0, none⟩) ((x.1, more) :: ps) := by
        refine pairs_of_row (ps := (x.1, more) :: ps) hown6 (fun y hy => ?_)
        rcases List.mem_cons.1 hy with rfl | hy
        · exact ⟨s1, hm⟩
        · exact hsz y hy
      have PL : Pairs w6 w6.heap.size (some ⟨b, off, none⟩) ps := (hp.below hb6).more hb6.size
      obtain ⟨F, hF⟩ : ∃ F, fpD (S (H := Unit) ps) = F := ⟨_, rfl⟩
      have HFB := hide (show fpD (S (H := Unit) ps.reverse) = F from by rw [S_reverse hap', hF])
      have HFT := hide (show fpD (S (H := Unit) ((x.1, more) :: ps)) = F from by rw [S_head HX, hF])
      have HF := hide hF
      have HLEN := hide hlen
      have HP := hide hp
      have hz6 := hb6.size
      have hk10 : k ≤ 1000 := by omega
      clear hF hlen hp hrow hown6 hg6 hnil6 hap hap' hnx cx1 cx2 hsz hb hg hg6b
      refine (print_n _ k cp ps.reverse F w6 (by rw [List.length_reverse]; exact HLEN.out) hk10 HFB PB).mono ?_
      rintro e w7 ⟨rfl, h7⟩
      have PT7 := (PT.below h7).more h7.size
      have PL7 := (PL.below h7).more h7.size
      have hb7 := hb6.trans (h7.mono hz6)
      have hz7 := hb7.size
      clear h7 hb6 hz6 PB PT PL
      go_wp2_with fail
      refine (print_n _ k cap ps F w7 HLEN hk10 HF PL7).mono ?_
      rintro e w8 ⟨rfl, h8⟩
      have PT8 := (PT7.below h8).more h8.size
      have PL8 := (PL7.below h8).more h8.size
      have hb8 := hb7.trans (h8.mono hz7)
      have hz8 := hb8.size
      clear h8 hb7 hz7 PT7 PL7
      go_wp2_with fail
      refine (print_n _ (1 + k) c6 ((x.1, more) :: ps) F w8 (by rw [List.length_cons, HLEN.out]; omega) (by omega) HFT PT8).mono ?_
      rintro e w9 ⟨rfl, h9⟩
      have PL9 := (PL8.below h9).more h9.size
      have hb9 := hb8.trans (h9.mono hz8)
      have hz9 := hb9.size
      clear h9 hb8 hz8 PT8 PL8
      go_wp2_with fail
      refine (print_n _ k cap ps F w9 HLEN hk10 HF PL9).mono ?_
      rintro e w10 ⟨rfl, h10⟩
      have hb10 := hb9.trans (h10.mono hz9)
      clear h10 hb9 hz9 PL9
      go_wp2
      go_ret
      exact ⟨rfl, hb10⟩

#print axioms law_any
end Go.Proofs.Ytmpocfcmhokffaa
