/- FnPrintsOrderSaid, the given statement: for every slice of labels and every text laws.FnPrintsOrder returns true, and the arguments read afterwards as before. No condition. -/
import Derived.Test.YtmpocfcmhokffaaRows
import Derived.Test.YtmpocfcmhokffaaLaw
import Derived.ProofKit
import Derived.Deep.SlicePairs
import Derived.Sort.Row
namespace Go.Proofs.Ytmpocfcmhokffaa
open Go.ChangeShapes Go.WideShapes Go.ChangeAt Go.RowKit
open Go.ChangeMaps (open_string shut_string)

theorem Try.own : ownKnob Try.prog.godebug = none := by kernel_rfl
theorem Try.laidOut : laidOutB Try.prog = true := by kernel_rfl

/-- The text of a string's value. -/
def textOf : Value → ByteArray
  | .string s => s
  | _ => ByteArray.empty

section
variable {H : Type} {enc : TypeId × Value → H}

/-- The first argument, read as a slice of labels, lies in memory as labels. -/
theorem pairs_of_arg {W : World} {fuel : Nat} {A : Option Addr} {len cap : Nat} {x : DataW H × List MemPlace} (h : DataW.trod enc Try.prog W 0 (fun _ => true) true fuel 22 [.slice A len cap] = some x) :
    ∃ ps, ps.length = len ∧ len ≤ maxLen ∧ Pairs W W.heap.size A ps := by
  rcases Go.Deep.open_slice_pairs Try.underlying22 Try.underlying27 (by kernel_rfl) (by kernel_rfl) (by kernel_rfl) (by kernel_rfl) (by kernel_rfl) h with ⟨hcs, _⟩ | ⟨a, len', cap', m, n, V0, V1, D0, D1, P0, P1, hcs, _, hl, hm, hmm, _, hc⟩
  · simp only [List.cons.injEq, Value.slice.injEq, and_true] at hcs
    obtain ⟨rfl, rfl, rfl⟩ := hcs
    exact ⟨[], rfl, Nat.zero_le _, fun h => absurd h (by simp), by simp⟩
  · simp only [List.cons.injEq, Value.slice.injEq, and_true] at hcs
    obtain ⟨rfl, rfl, rfl⟩ := hcs
    have hm' : m = cap := by simpa using hmm
    have hv : ∀ i, i < len → ∃ s t : ByteArray, V0 i = .string s ∧ V1 i = .string t ∧ s.size ≤ maxLen ∧ t.size ≤ maxLen := by
      intro i hi
      obtain ⟨_, _, t0, t1⟩ := hc i (by omega)
      obtain ⟨s, e0, _, w0⟩ := DataW.trod_string (by kernel_rfl) t0
      obtain ⟨t, e1, _, w1⟩ := DataW.trod_string (by kernel_rfl) t1
      simp only [List.cons.injEq, and_true] at e0 e1
      exact ⟨s, t, e0, e1, w0, w1⟩
    refine ⟨(List.range len).map fun i => (textOf (V0 i), textOf (V1 i)), by simp, by omega, fun h0 => ?_, fun y hy => ?_⟩
    · have hlen : 0 < len := by simpa using h0
      obtain ⟨b, off, spot⟩ := a
      have c0 := (hc 0 (by omega)).1
      have hspot : spot = none := by simpa [Addr.add] using World.cell?_spot c0
      subst hspot
      refine ⟨b, off, rfl, ?_, fun j y hj => ?_⟩
      · obtain ⟨_, _, _, hb, _⟩ := Go.Sort.cells_of_cell? c0
        have := (Array.getElem?_eq_some_iff.1 hb).1
        simpa [Addr.add] using this
      · have hj' : j < len := by simpa using (List.getElem?_eq_some_iff.1 hj).1
        obtain ⟨s, t, e0, e1, _, _⟩ := hv j hj'
        obtain ⟨k0, k1, _, _⟩ := hc j (by omega)
        rw [add_plain] at k0 k1
        simp [hj', e0, e1, textOf] at hj
        subst hj
        exact ⟨by rw [k0, e0], by rw [Nat.add_assoc, k1, e1]⟩
    · obtain ⟨i, hi, rfl⟩ := List.mem_map.1 hy
      obtain ⟨s, t, e0, e1, h1, h2⟩ := hv i (List.mem_range.1 hi)
      rw [e0, e1]
      exact ⟨h1, h2⟩
end

/-- What the walk gives, for every argument. -/
theorem contract (H : Type) (enc : TypeId × Value → H) (W : World) (base : Nat) (args : Array Value) (ds gs : List (DataW H)) (before : List MemPlace)
    (hval : ∀ (j : Nat) t v, Try.f3.params[j]? = some t → args[j]? = some v → Value.okWide Try.prog W .any base t v)
    (hW : DataW.Whole enc Try.prog Try.f3.params.toList Rows.fnPrintsOrderSpec.vars false W args.toList ds gs before) :
    Calls Try.prog 3 args W fun e W' => ∃ v, e = .returned v ∧ Rows.fnPrintsOrderSpec.post enc Try.prog Try.f3 false true false false W args v W' := by
  have hW' := hW
  have hlt := hW.lt
  obtain ⟨p, q, hA0, hV, rfl, hfz, hnd⟩ := hW
  have hA : DataW.TrodAll enc Try.prog W 0 (fun _ => true) true Try.f3.params.toList args.toList ds p := hA0
  rw [Try.params3] at hA hval
  obtain ⟨v0, v1, d0, d1, p0, p1, rfl, rfl, rfl, h0, h1⟩ := trodAll_two hA
  obtain ⟨rfl, rfl⟩ := trodVars_none hV
  obtain ⟨A, len, cap, rfl⟩ := okWide_slice Try.underlying22 (hval 0 22 v0 rfl rfl)
  obtain ⟨s, rfl, rfl, rfl, hs⟩ := open_string Try.underlying9 (hval 1 9 v1 rfl rfl) h1
  have h0' := h0
  obtain ⟨fuel, hf⟩ := h0'
  obtain ⟨ps, hlen, hl, hp⟩ := pairs_of_arg (x := (d0, p0)) (by simpa [Value.cells] using hf)
  clear hA0 hf
  simp only [List.append_nil] at hW' hlt
  refine (law_any A len cap ps s W hlen hl hs hp).mono fun e W' ⟨he, hb⟩ => ?_
  subst he
  have hargs : ∀ sp : Nat → Bool, (∀ x ∈ p0, sp x.block = true) → DataW.TrodAll enc Try.prog W' 0 sp true [22, 9] [.slice A len cap, .string s] [d0, .lit (.string s.data.toList)] p0 := fun sp hsp => by
    have t0 : DataW.Trod enc Try.prog W' 0 sp true 22 (.slice A len cap) d0 p0 := WideElems.Trod_stays Try.laidOut (by kernel_rfl) (by decide +kernel) h0 (fun x hx => hb.same (hlt x hx)) hsp
    have := trodAll_mk2 t0 (shut_string (enc := enc) (w := W') (base := 0) (sp := sp) (held := true) Try.underlying9 hs)
    rw [List.append_nil] at this
    exact this
  exact ⟨_, rfl, _, _, _, [], p0, [], hW', trodAll_mk1 (shut_bool Try.underlying4 _), hargs _ (fun x hx => by simpa using hlt x hx), rfl, hb.frame _, fun h => by cases h⟩

set_option maxRecDepth 100000 in
theorem lifted (os : Os) (started : os.Started) (H : Type) (enc : TypeId × Value → H) :
    ReturnsInHanded {} Try.checked os 3 .any (Rows.fnPrintsOrderSpec.pre6 enc Try.prog Try.f3 Rows.fnPrintsOrderRow.domain false) (Rows.fnPrintsOrderSpec.post enc Try.prog Try.f3 false true false false) := by
  refine returnsInHanded_of_change (C := Try.checked) Try.own started (by kernel_rfl) Try.func3
    (ChangeSpec.witness6 (enc := enc) (C := Try.checked) false ⟨#[], #[.slice none 0 0, .string ⟨#[]⟩], []⟩ 8 (by kernel_rfl) (by kernel_rfl) (by kernel_rfl) (by kernel_rfl)) ?_
  intro W base args ds gs before hval hW _ _
  exact contract H enc W base args ds gs before hval hW

theorem prints_order_holds : Rows.FnPrintsOrderSaid :=
  OpenClaim.holds_of_wide 3 Try.f3 rfl rfl rfl rfl rfl rfl rfl ⟨rfl, rfl, rfl, rfl, rfl⟩ rfl rfl rfl rfl rfl (by kernel_rfl) Try.func3 (by kernel_rfl)
    (of_decide_eq_true (by kernel_rfl)) (by unfold Func.isWrapper; first | (rw [if_pos (by decide +kernel)]; kernel_rfl) | (rw [if_neg (by decide +kernel)]; exact ⟨rfl, rfl⟩))
    (fun os started H enc _ => lifted os started H enc)

#print axioms prints_order_holds
end Go.Proofs.Ytmpocfcmhokffaa
