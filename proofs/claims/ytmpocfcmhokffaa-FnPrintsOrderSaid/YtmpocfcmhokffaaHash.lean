/- hashNew, hashAdd and hashAddByte of package model return what the plain functions off64, hadd and hstep say, and leave the world as it was. Conditions: the text is at most maxLen long; hashAddByte is taken at the byte 255 alone. -/
import Derived.Test.YtmpocfcmhokffaaGuards
namespace Go.Proofs.Ytmpocfcmhokffaa
open Go.RowKit

/-- One byte taken into the hash. -/
def hstep (h : Int) (c : UInt8) : Int := IntKind.u64.wrap (bits BinOp.xor IntKind.u64 h (c.toNat : Int) * 1099511628211)
/-- A text taken into the hash. -/
def hadd (h : Int) (l : List UInt8) : Int := l.foldl hstep h

/-- The hash of nothing. -/
def off64 : Int := 14695981039346656037

theorem wrap_byte (c : UInt8) : IntKind.u64.wrap (c.toNat : Int) = (c.toNat : Int) := by
  have := c.toNat_lt
  simp [IntKind.wrap, IntKind.bits, IntKind.signed]
  omega
theorem hadd_snoc (h : Int) (l : List UInt8) (c : UInt8) : hadd h (l ++ [c]) = hstep (hadd h l) c := by simp [hadd]
theorem take_snoc (s : ByteArray) (k : Nat) (h : k < s.size) : s.data.toList.take (k + 1) = s.data.toList.take k ++ [s[k]] := by
  rw [List.take_succ_eq_append_getElem (by simpa using h)]; rfl
theorem hadd_take (h : Int) (s : ByteArray) (k : Nat) (hk : k < s.size) : hadd h (s.data.toList.take (k + 1)) = hstep (hadd h (s.data.toList.take k)) s[k] := by
  rw [take_snoc s k hk, hadd_snoc]
theorem ret_int {k : IntKind} {a b : Int} (h : a = b) : Ending.returned (.int k a) = .returned (.int k b) := by rw [h]

set_option maxHeartbeats 400000 in
theorem hashNew_any (w : World) : Calls Try.prog 14 #[] w fun e w' => e = .returned (.int .u64 off64) ∧ w = w' := by
  go_enter Try.func14, Try.ntmps14
  go_wp2
  go_ret
  exact ⟨rfl, rfl⟩

set_option maxHeartbeats 400000 in
theorem hashByte_any (h : Int) (w : World) : Calls Try.prog 16 #[.int .u64 h, .int .u8 255] w fun e w' => e = .returned (.int .u64 (hstep h 255)) ∧ w = w' := by
  go_enter Try.func16, Try.ntmps16
  go_wp2
  go_ret
  exact ⟨rfl, rfl⟩

set_option maxHeartbeats 400000 in
theorem hashAdd_any (h : Int) (s : ByteArray) (w : World) (hs : s.size ≤ maxLen) : Calls Try.prog 15 #[.int .u64 h, .string s] w fun e w' => e = .returned (.int .u64 (hadd h s.data.toList)) ∧ w = w' := by
  unfold maxLen at hs
  go_enter Try.func15, Try.ntmps15
  go_wp2
  go_loop [0, 5] (fun x i => ∃ k : Nat, k ≤ s.size ∧ i = .int .i64 k ∧ x = .int .u64 (hadd h (s.data.toList.take k))) (fun _ i => s.size - (intOf i).toNat)
  case atStart => exact ⟨0, Nat.zero_le _, rfl, rfl⟩
  case round =>
    obtain ⟨k, hk, rfl, rfl⟩ := hrel
    by_cases hlt : k < s.size
    · generalize hg : hadd h (s.data.toList.take k) = g
      have HG := hide hg
      clear hg
      have hw := wrap_byte s[k]
      go_wp2
      refine ⟨⟨k + 1, by omega, by go_num, ?_⟩, by simp [intOf]; omega⟩
      rw [hadd_take h s k hlt, HG.out]
      rfl
    · go_wp2
      go_ret
      exact ⟨ret_int (by rw [List.take_of_length_le (by simp; omega)]), rfl⟩

/-- A list of bytes as a text. -/
theorem hashAdd_list (h : Int) (l : List UInt8) (w : World) (hl : l.length ≤ maxLen) : Calls Try.prog 15 #[.int .u64 h, .string ⟨l.toArray⟩] w fun e w' => e = .returned (.int .u64 (hadd h l)) ∧ w = w' := by
  have := hashAdd_any h ⟨l.toArray⟩ w (by simpa [ByteArray.size] using hl)
  simpa using this

#print axioms hashAdd_any
end Go.Proofs.Ytmpocfcmhokffaa
