/- Labels of distinct names make one map in any order, of one name the last one counts, and a=b and a=c have two fingerprints. No condition but the distinct names. -/
import Derived.Test.YtmpocfcmhokffaaFinger
import Derived.Maps.Ext
namespace Go.Proofs.Ytmpocfcmhokffaa
open Go.Maps

section
variable {H : Type}

/-- A map as data, its keys texts, in rising order. -/
def StrCanon (D : DataW H) : Prop := ∃ es, D = .map es ∧ es.Pairwise (fun p q => p.1.before q.1 = true) ∧ ∀ p ∈ es, ∃ s, p.1 = .string s

theorem StrCanon.canon {D : DataW H} (h : StrCanon D) : Canon D := by
  obtain ⟨es, rfl, h1, h2⟩ := h
  exact ⟨es, rfl, h1, fun p hp => by obtain ⟨s, hs⟩ := h2 p hp; rw [hs]; trivial⟩

theorem StrCanon.isMap {D : DataW H} (h : StrCanon D) : IsMap D := by
  obtain ⟨es, he, _⟩ := h
  exact ⟨es, he⟩

theorem StrCanon.empty : StrCanon (.map [] : DataW H) := ⟨[], rfl, List.Pairwise.nil, by simp⟩

theorem StrCanon.put {D : DataW H} (h : StrCanon D) (s : List UInt8) (d : DataW H) : StrCanon (D.put (.string s) d) := by
  obtain ⟨es, rfl, h1, h2⟩ := h
  refine ⟨_, rfl, Go.ChangeMaps.insert_sorted ⟨s, rfl⟩ _ (h1.sublist List.filter_sublist) (fun p hp => h2 p (List.mem_filter.1 hp).1) (fun p hp e => ?_), fun p hp => ?_⟩
  · have := (List.mem_filter.1 hp).2
    rw [show p.1 = Lit.string s from e] at this
    simp [Lit.sameKey] at this
  · rcases Go.ChangeMaps.mem_insert_iff.1 hp with rfl | hp
    · exact ⟨s, rfl⟩
    · exact h2 p (List.mem_filter.1 hp).1

theorem key_inj {a b : ByteArray} (h : keyOfB a = keyOfB b) : a = b := by
  obtain ⟨⟨a⟩⟩ := a
  obtain ⟨⟨b⟩⟩ := b
  simp only [Lit.string.injEq] at h
  subst h
  rfl

/-- The labels put onto a map. -/
abbrev puts (D : DataW H) (ps : List (ByteArray × ByteArray)) : DataW H := ps.foldl (fun m x => m.put (keyOfB x.1) (.lit (keyOfB x.2))) D

theorem puts_canon : ∀ (ps : List (ByteArray × ByteArray)) {D : DataW H}, StrCanon D → StrCanon (puts D ps)
  | [], _, h => h
  | _ :: r, _, h => puts_canon r (h.put _ _)

theorem has_puts (k : Lit) : ∀ (ps : List (ByteArray × ByteArray)) {D : DataW H}, StrCanon D → has (puts D ps) k = (has D k || ps.any fun x => (keyOfB x.1).sameKey k)
  | [], _, _ => by simp
  | x :: r, D, h => by
    show has (puts (D.put (keyOfB x.1) (.lit (keyOfB x.2))) r) k = _
    rw [has_puts k r (h.put _ _)]
    by_cases e : k = keyOfB x.1
    · subst e
      rw [has_put_same (k := keyOfB x.1) h.isMap trivial]
      simp [Lit.sameKey]
    · rw [has_put_other e]
      have : (keyOfB x.1).sameKey k = false := sameKey_ne (Ne.symm e)
      simp [List.any_cons, this]

theorem at_puts_other {k : Lit} (z : DataW H) : ∀ (ps : List (ByteArray × ByteArray)) {D : DataW H}, (∀ x ∈ ps, keyOfB x.1 ≠ k) → (puts D ps).atKey k z = D.atKey k z
  | [], _, _ => rfl
  | x :: r, D, h => by
    show (puts (D.put (keyOfB x.1) (.lit (keyOfB x.2))) r).atKey k z = _
    rw [at_puts_other z r (fun y hy => h y (by simp [hy])), atKey_put_other (h x (by simp)).symm]

theorem at_puts (z : DataW H) : ∀ (ps : List (ByteArray × ByteArray)) {D : DataW H}, StrCanon D → ps.Pairwise (fun x y => x.1 ≠ y.1) → ∀ x ∈ ps, (puts D ps).atKey (keyOfB x.1) z = .lit (keyOfB x.2)
  | [], _, _, _, _, hx => by simp at hx
  | y :: r, D, h, hp, x, hx => by
    obtain ⟨h1, h2⟩ := List.pairwise_cons.1 hp
    rcases List.mem_cons.1 hx with rfl | hx
    · show (puts (D.put (keyOfB x.1) (.lit (keyOfB x.2))) r).atKey (keyOfB x.1) z = _
      rw [at_puts_other z r (fun y hy e => h1 y hy (key_inj e.symm))]
      exact atKey_put_same (k := keyOfB x.1) h.isMap trivial _ _
    · exact at_puts z r (h.put _ _) h2 x hx

/-- Labels of distinct names make one map in any order. -/
theorem S_perm {ps qs : List (ByteArray × ByteArray)} (hp : ps.Pairwise (fun x y => x.1 ≠ y.1)) (hq : qs.Pairwise (fun x y => x.1 ≠ y.1)) (h : ∀ x, x ∈ ps ↔ x ∈ qs) : S (H := H) ps = S qs := by
  show puts (.map []) ps = puts (.map []) qs
  refine ext (puts_canon ps StrCanon.empty).canon (puts_canon qs StrCanon.empty).canon (fun k => ?_) (fun k z hk => ?_)
  · rw [has_puts k ps StrCanon.empty, has_puts k qs StrCanon.empty]
    congr 1
    rw [Bool.eq_iff_iff, List.any_eq_true, List.any_eq_true]
    exact ⟨fun ⟨x, hx, hs⟩ => ⟨x, (h x).1 hx, hs⟩, fun ⟨x, hx, hs⟩ => ⟨x, (h x).2 hx, hs⟩⟩
  · rw [has_puts k ps StrCanon.empty] at hk
    have hk' : ps.any (fun x => (keyOfB x.1).sameKey k) = true := by simpa [has] using hk
    obtain ⟨x, hx, hs⟩ := List.any_eq_true.1 hk'
    obtain rfl := WideAt.sameKey_eq hs
    rw [at_puts z ps StrCanon.empty hp x hx, at_puts z qs StrCanon.empty hq x ((h x).1 hx)]

theorem S_reverse {ps : List (ByteArray × ByteArray)} (hp : ps.Pairwise (fun x y => x.1 ≠ y.1)) : S (H := H) ps.reverse = S ps :=
  S_perm (List.pairwise_reverse.2 (hp.imp fun h => h.symm)) hp (by simp)

/-- Of one name the last one counts. -/
theorem S_twice (n u v : ByteArray) (r : List (ByteArray × ByteArray)) : S (H := H) ((n, u) :: (n, v) :: r) = S ((n, v) :: r) := by
  show puts (((DataW.map []).put (keyOfB n) (.lit (keyOfB u))).put (keyOfB n) (.lit (keyOfB v))) r = puts ((DataW.map []).put (keyOfB n) (.lit (keyOfB v))) r
  congr 1
  simp [DataW.put, DataW.insert, Lit.sameKey]
end

/-- a=b and a=c have two fingerprints. -/
theorem fp_parts : fpD (S (H := Unit) [(⟨#[97]⟩, ⟨#[98]⟩)]) ≠ fpD (S (H := Unit) [(⟨#[97]⟩, ⟨#[99]⟩)]) := by
  have h1 : ∀ v : ByteArray, fpD (S (H := Unit) [(⟨#[97]⟩, v)]) = hstep (hadd (hstep (hadd off64 [97]) 255) v.data.toList) 255 := fun v => by
    simp [fpD, S, DataW.put, DataW.insert, strKeys, strOf, kstep, valB, DataW.atKey, Lit.sameKey]
  rw [h1, h1]
  decide +kernel

#print axioms S_reverse
#print axioms S_twice
#print axioms fp_parts
end Go.Proofs.Ytmpocfcmhokffaa
