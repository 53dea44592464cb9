/- labelSetToFingerprint and Fingerprint of package model and impl.Print return the hash of the map's entries in the order of their keys, and change nothing that lay in memory. Conditions: at most 1000 entries; the contract of sort.Sort (SortNames), which the text Sort proves. -/
import Derived.Test.YtmpocfcmhokffaaSet
import Derived.Maps.OwnOps
import Derived.Maps.OwnSet
import Derived.Maps.RangeWalk
import Derived.Sort.KeysCollected
import Derived.Sort.OwnSorted
import Derived.Maps.AppendAt
namespace Go.Proofs.Ytmpocfcmhokffaa
open Go.RowKit Go.Maps Go.WideMaps Go.Sort

theorem Try.info37 : (Try.prog.info? 37).map (fun i => (i.zero, i.size, i.bytes)) = some (some (.string ⟨#[]⟩), 1, 16) := by kernel_rfl
theorem zero36 (w : World) : (zeroValue 36).run Try.prog w = .ok (.string ⟨#[]⟩) w := by kernel_rfl

/-- The text at a key. -/
def valB {H : Type} (D : DataW H) (k : List UInt8) : List UInt8 :=
  match D.atKey (.string k) (.lit (.string [])) with
  | .lit (.string b) => b
  | _ => []
/-- One entry taken into the hash. -/
def kstep {H : Type} (D : DataW H) (h : Int) (k : List UInt8) : Int := hstep (hadd (hstep (hadd h k) 255) (valB D k)) 255
/-- The fingerprint of a map. -/
def fpD {H : Type} (D : DataW H) : Int := ((strKeys D).mergeSort leB).foldl (kstep D) off64

theorem valB_of {H : Type} {D : DataW H} {k b : List UInt8} (h : D.atKey (.string k) (.lit (.string [])) = .lit (.string b)) : valB D k = b := by
  unfold valB; rw [h]

/-- A look-up in a map whose elements are strings: the walk goes on with some string, of which it is said what it is. -/
theorem wpList_lookup_own_str {H : Type} {P : Program} (w : World) {ops : Array Oper} {rest : List Oper} {o : Oper} {a : Act} {Q : Exit → Act → World → Prop}
    (hg : o.guard = none) (m x : Operand) (t : TypeId) (hop : o.op = Op.lookup t m x false)
    (k e : TypeId) (K : Keyed P k) (ht : P.underlying t = some (.map k e)) (he : P.underlying e = some .string) (hz : (zeroValue e).run P w = .ok (.string ⟨#[]⟩) w) (b n : Nat) (D : DataW H)
    (hm : a.eval m = .map (some b)) (hown : w.ownsMap P k (plainElem P e) b n D) (key : Value) (kl : Lit) (hx : a.eval x = key) (hkey : keyOf P k key = some kl)
    (hK : ∀ c : ByteArray, D.atKey kl (.lit (.string [])) = .lit (.string c.data.toList) → c.size ≤ maxLen → wpList P ops Q rest (a.put o.dst (.string c)) w) :
    wpList P ops Q (o :: rest) a w := by
  refine wpList_plain hg fun K' hK' => ?_
  obtain ⟨v, ps, hrun, hv⟩ := hown.lookup K ht hz (plainElem_string he (s := ⟨#[]⟩) (Nat.zero_le _)) hkey
  obtain ⟨c, rfl, hc, hwc⟩ := plainElem_string_inv he hv
  simp only [Prod.mk.injEq] at hc
  unfold Oper.wp
  simp [execOp, hop, hm, hx, hrun, Result.andThen]
  exact hK' _ _ (hK c hc.1 hwc)

theorem unhide {p : Prop} (h : Hid p) : p := h
/-- A cell of a slice of names that the call owns. -/
theorem own_cell {w : World} {base g cap n : Nat} {ts : List (List UInt8)} (h : w.ownsRow base 37 1 (.slice (some ⟨g, 0, none⟩) n cap) n (ts.map encStr)) {k : Nat} {x : List UInt8} (hk : ts[k]? = some x) : w.cell? ⟨g, k, none⟩ = some (encStr x) := by
  have := h.cells (g := g) rfl k (encStr x) (by simp [hk])
  by_cases h0 : k = 0
  · subst h0; simpa [Addr.add] using this
  · simpa [Addr.add, h0] using this

/-- What is asked of sort.Sort at this dump: the names sorted, nothing else turned. -/
def SortNames : Prop := ∀ (base g cap : Nat) (ss : List (List UInt8)) (w : World), ss.length ≤ 1000 → w.ownsRow base 37 1 (.slice (some ⟨g, 0, none⟩) ss.length cap) ss.length (ss.map encStr) →
  Calls Try.prog 13 #[.iface 40 (.slice (some ⟨g, 0, none⟩) ss.length cap)] w fun e w' =>
    e = .returned (.tuple #[]) ∧ w'.ownsRow base 37 1 (.slice (some ⟨g, 0, none⟩) ss.length cap) ss.length ((ss.mergeSort leB).map encStr) ∧ w.grownBy w' (some g)

set_option maxHeartbeats 1000000 in
set_option maxRecDepth 100000 in
/-- No entry: the hash of nothing. -/
theorem finger_zero {H : Type} (D0 : DataW H) (b n : Nat) (w : World) (hown : w.ownsMap Try.prog 37 (plainElem Try.prog 36) b n D0) (h0 : Maps.size D0 = 0) :
    Calls Try.prog 12 #[.map (some b)] w fun e w' => e = .returned (.int .u64 off64) ∧ Below w.heap.size w w' := by
  go_enter Try.func12, Try.ntmps12
  go_wp2_with (first
    | (at_len; refine wpList_len_own _ rfl _ 33 rfl 37 36 Try.underlying33 _ b n _ rfl hown ?_)
    | go_in)
  go_ret
  exact ⟨rfl, Below.refl _ _⟩

set_option maxHeartbeats 2000000 in
set_option maxRecDepth 100000 in
theorem finger_more {H : Type} (hsort : SortNames) (D0 : DataW H) (b n : Nat) (w : World) (hown : w.ownsMap Try.prog 37 (plainElem Try.prog 36) b n D0) (h0 : 0 < Maps.size D0) (hmax : Maps.size D0 ≤ 1000) :
    Calls Try.prog 12 #[.map (some b)] w fun e w' => e = .returned (.int .u64 (fpD D0)) ∧ Below w.heap.size w w' := by
  obtain ⟨i0, hi, hz0, hz1, hz2⟩ := info_parts Try.info37
  have hbl := hown.lt
  have hne : ((Maps.size D0 : Int) == 0) = false := beq_eq_false_iff_ne.2 (by omega)
  go_enter Try.func12, Try.ntmps12
  go_wp2_with (first
    | (at_len; refine wpList_len_own _ rfl _ 33 rfl 37 36 Try.underlying33 _ b n _ rfl hown ?_)
    | (at_make; refine wpList_make_own _ rfl _ _ 40 rfl w.heap.size 37 i0 (.string ⟨#[]⟩) 1 Try.underlying40 hi hz0 hz1 _ _ _ (Maps.size D0) rfl rfl rfl (by rw [hz2]; omega) (by unfold maxLen; omega) (Nat.le_refl _) ?_; intro w1 hrow1 hg1)
    | (at_range; refine wpList_range_own _ rfl _ 33 rfl 37 36 law37 Try.underlying33 _ b n _ rfl (hown.kept hg1 (by simp)) ?_; intro w0 hrg0 hg0 hs0)
    | go_in)
  go_frame
  go_loopw [3] (fun v wr => ∃ (left : Lit → Bool) (cnt : Nat) (ss : List (List UInt8)), wr.ranges Try.prog 37 (plainElem Try.prog 36) b w1.heap.size n D0 left cnt ∧ ss.length + cnt ≤ Maps.size D0 ∧
      wr.ownsRow w.heap.size 37 1 v ss.length (ss.map encStr) ∧ v ≠ .slice none 0 0 ∧ Collected D0 left ss ∧ Below w.heap.size w wr)
    (fun _ wr => wr.rangeLeft b w1.heap.size)
  case atStart =>
    exact ⟨_, _, [], hrg0, by simp, hrow1.kept hg0 (Or.inr (by simp [Value.ownBlock])), by simp, Collected.start D0,
      ((Below.refl _ _).grown hg1 (Nat.le_refl _) (fun j hj => by cases hj)).grown hg0 hg1.size (fun j hj => by cases hj)⟩
  case round =>
    obtain ⟨left, cnt, ss, hrg, hcs, hrow, hnn, hC, hnx⟩ := hrel
    go_wp2_with (first
      | (at_next; refine wpList_next_ranges _ rfl _ rfl 37 law37 (plainElem Try.prog 36) encStr Value.string (fun key kl hk => by obtain ⟨x, hx, _⟩ := Maps.keyOf_str Try.underlying37 hk; exact ⟨x, hx⟩) (fun v y hv => by obtain ⟨c, rfl, _⟩ := plainElem_string_inv Try.underlying36 hv; exact ⟨c, rfl⟩) b w1.heap.size n _ _ _ rfl hrg ?_ ?_)
      | go_in)
    · -- nothing is left: the names are sorted, and hashed one behind the other
      intro hc0 hl0
      have hperm := hC.perm hown law37 Try.underlying37 hl0
      have hlen : ss.length ≤ 1000 := by omega
      rcases hrow.2 with ⟨hnil, _⟩ | ⟨g, cap, cur, rfl, hbase, hb, h1, h2, h3, h4⟩
      · exact absurd hnil hnn
      clear hb h1 h2 h3 h4 hnn
      have hc := hide (hsort _ g cap ss wr hlen hrow)
      clear hsort hrow
      have hle := strKeys_le hown Try.underlying37
      go_wp2_with fail
      refine (unhide hc).mono ?_
      rintro e w3 ⟨rfl, hrow3, hg3⟩
      clear hc
      have hb3 := hnx.grown hg3 hnx.size (fun j hj => by cases hj; exact hbase)
      have hown3 := hown.kept (row := none) ⟨hb3.os, hb3.tape, hb3.output, hb3.size, fun i hi _ => hb3.block i hi⟩ (by simp)
      clear hg3 hrg hnx hrg0 hg0 hs0 hrow1 hg1
      obtain ⟨ts, hts⟩ : ∃ ts, ts = ss.mergeSort leB := ⟨_, rfl⟩
      rw [← hts] at hrow3
      have hfp : fpD D0 = ts.foldl (kstep D0) off64 := by
        unfold fpD
        rw [hts, mergeSort_of_perm hperm]
      have hmem : ∀ x ∈ ts, x.length ≤ maxLen := fun x hx => hle x (hperm.subset ((List.mergeSort_perm ss leB).subset (hts ▸ hx)))
      have htl : ts.length = ss.length := by rw [hts]; exact List.length_mergeSort _
      have HFP := hide hfp
      have HTL := hide htl
      clear hts hfp hle hperm hC
      have hlt1 : ss.length ≤ ts.length := by omega
      have hlt2 : ts.length ≤ ss.length := by omega
      clear htl hne
      obtain ⟨m, hm⟩ : ∃ m, m = ss.length := ⟨_, rfl⟩
      rw [← hm] at hrow3 hlt1 hlt2 hlen ⊢
      clear hm
      go_wp2_with fail
      refine (hashNew_any _).mono ?_
      rintro e w4 ⟨rfl, rfl⟩
      go_wp2
      go_loop [5, 30] (fun s i => ∃ k : Nat, k ≤ m ∧ i = .int .i64 k ∧ s = .int .u64 ((ts.take k).foldl (kstep D0) off64)) (fun _ i => m - (intOf i).toNat)
      case atStart => exact ⟨0, Nat.zero_le _, rfl, rfl⟩
      case round =>
        obtain ⟨k, hk, rfl, rfl⟩ := hrel
        by_cases hlt : k < m
        · have hx : ts[k]? = some ts[k] := List.getElem?_eq_getElem (by omega)
          have hxl := hmem _ (List.getElem_mem (l := ts) (n := k) (by omega))
          have hstep : (ts.take (k + 1)).foldl (kstep D0) off64 = kstep D0 ((ts.take k).foldl (kstep D0) off64) ts[k] := by
            rw [List.take_succ_eq_append_getElem (by omega), List.foldl_append]
            rfl
          generalize ts[k] = x at hx hxl hstep
          generalize (ts.take k).foldl (kstep D0) off64 = h at hstep ⊢
          have hcell := own_cell hrow3 hx
          have HS := hide hstep
          have HK := hide (show keyOf Try.prog 37 (.string ⟨x.toArray⟩) = some (.string x) from keyOf_string_mk Try.underlying37 (s := ⟨x.toArray⟩) (by simpa [ByteArray.size] using hxl))
          clear hx hstep hmem hrow3
          go_wp2_with fail
          refine (hashAdd_list _ _ _ hxl).mono ?_
          rintro e w5 ⟨rfl, rfl⟩
          go_wp2_with fail
          refine (hashByte_any _ _).mono ?_
          rintro e w5 ⟨rfl, rfl⟩
          go_wp2_with (first
            | (at_lookup; refine wpList_lookup_own_str _ rfl _ _ 33 rfl 37 36 law37 Try.underlying33 Try.underlying36 (zero36 _) b n _ rfl hown3 _ _ rfl HK ?_; intro c hat hwc)
            | fail)
          have hval := hide (valB_of hat)
          clear hat HK
          refine (hashAdd_any _ _ _ hwc).mono ?_
          rintro e w5 ⟨rfl, rfl⟩
          go_wp2_with fail
          refine (hashByte_any _ _).mono ?_
          rintro e w5 ⟨rfl, rfl⟩
          go_wp2
          refine ⟨⟨k + 1, by omega, by go_num, ?_⟩, by simp [intOf]; omega⟩
          rw [HS.out, kstep, hval.out]
        · have : k = m := by omega
          subst this
          go_wp2
          go_ret
          refine ⟨ret_int ?_, hb3⟩
          rw [HFP.out, List.take_of_length_le (by omega)]
    · -- an entry has come: its key goes to the slice's end
      intro x c kl yd yp w2 cnt2 hkey hlk hv hat hrg2 hlt hg2 hs2 hen
      obtain ⟨x', ex, rfl, _⟩ := Maps.keyOf_str Try.underlying37 hkey
      obtain rfl : x = x' := encStr_inj ex
      have hrow2 := hrow.kept hg2 (Or.inr (row_ne_iter hrow hrg).symm)
      clear hs2 hne
      go_wp2_with (first
        | (at_builtin; refine wpList_append_own _ rfl _ _ 40 rfl w.heap.size 37 i0 (.string ⟨#[]⟩) 1 16 Try.underlying40 hi hz0 hz1 hz2 rfl (by decide) _ _ _ rfl (hrow2.alloc _) ⟨w2.heap.size, 0, none⟩ 1 1 [encStr x] rfl rfl (cell_one_new _ _ _) (by simp [Value.oneCell', encStr]) (by unfold maxLen at *; omega) (by omega) (by have := hnx.size; have := hg2.size; simp; omega) ?_; intro v' w3 hown' hg3 hnil3; go_frame)
        | go_in)
      have hrg3 := (hrg2.alloc _).kept hg3 (row_ne_low hrow2 hbl) (row_ne_iter hrow2 hrg2)
      go_roundw
      case rel =>
        refine ⟨_, cnt2, ss ++ [x], hrg3, by simp; omega, by simpa using hown', fun hv' => by have := (hnil3.1 hv').2; omega, hC.step hlk hat, ?_⟩
        exact ((hnx.grown hg2 hnx.size (fun j hj => by cases hj; exact hg1.size)).alloc (by have := hnx.size; have := hg2.size; omega) _).grown hg3 (by have := hnx.size; have := hg2.size; simp; omega) (fun j hj => (hrow2.lt j hj).1)
      case measure => rw [hrg3.left_eq, hrg.left_eq]; exact hlt

theorem finger_any {H : Type} (hsort : SortNames) (D0 : DataW H) (b n : Nat) (w : World) (hown : w.ownsMap Try.prog 37 (plainElem Try.prog 36) b n D0) (hmax : Maps.size D0 ≤ 1000) :
    Calls Try.prog 12 #[.map (some b)] w fun e w' => e = .returned (.int .u64 (fpD D0)) ∧ Below w.heap.size w w' := by
  rcases Nat.eq_zero_or_pos (Maps.size D0) with h0 | h0
  · refine (finger_zero D0 b n w hown h0).mono fun e w' ⟨he, hb⟩ => ⟨?_, hb⟩
    have hk : fpD D0 = off64 := by
      obtain ⟨es, rfl⟩ := hown.isMap
      have : es = [] := List.eq_nil_of_length_eq_zero (by simpa [Maps.size] using h0)
      subst this
      simp [fpD, strKeys]
    rw [hk]; exact he
  · exact finger_more hsort D0 b n w hown h0 hmax

set_option maxHeartbeats 400000 in
theorem fingerprint_any {H : Type} (hsort : SortNames) (D0 : DataW H) (b n : Nat) (w : World) (hown : w.ownsMap Try.prog 37 (plainElem Try.prog 36) b n D0) (hmax : Maps.size D0 ≤ 1000) :
    Calls Try.prog 10 #[.map (some b)] w fun e w' => e = .returned (.int .u64 (fpD D0)) ∧ Below w.heap.size w w' := by
  have HC := hide (finger_any hsort D0 b n w hown hmax)
  clear hsort hown
  go_enter Try.func10, Try.ntmps10
  go_wp2_with fail
  refine (unhide HC).mono ?_
  rintro e w1 ⟨rfl, hb⟩
  clear HC
  go_wp2
  go_ret
  exact ⟨rfl, hb⟩

set_option maxHeartbeats 400000 in
/-- impl.Print: the fingerprint of the labels' map. -/
theorem print_any (hsort : SortNames) (A : Option Addr) (cap : Nat) (ps : List (ByteArray × ByteArray)) (w : World) (hl : ps.length ≤ 1000) (hp : Pairs w w.heap.size A ps) :
    Calls Try.prog 5 #[.slice A ps.length cap] w fun e w' => e = .returned (.int .u64 (fpD (S (H := Unit) ps))) ∧ Below w.heap.size w w' := by
  have HC := hide (set_any (H := Unit) A cap ps w hl hp)
  have hl2 := hl
  clear hp
  go_enter Try.func5, Try.ntmps5
  go_wp2_with fail
  refine (unhide HC).mono ?_
  rintro e w1 ⟨rfl, hown, hb⟩
  clear HC
  have HF := hide (fingerprint_any hsort _ _ _ w1 hown (Nat.le_trans hown.size_le hl2))
  clear hown hsort
  go_wp2_with fail
  refine (unhide HF).mono ?_
  rintro e w2 ⟨rfl, hb2⟩
  clear HF
  have hb3 := hb.trans (hb2.mono hb.size)
  go_wp2
  go_ret
  exact ⟨rfl, hb3⟩

#print axioms print_any
end Go.Proofs.Ytmpocfcmhokffaa
