/- sort.Sort on model.LabelNames leaves the names sorted and changes nothing else that lay in memory. Condition: at most 1000 names. The first part (sortLays) was written by the kit's lay-plain.mjs. -/
import Derived.Shelf.GgSortMore.SortSort
import Derived.Test.YtmpocfcmhokffaaMethods
import Derived.Test.YtmpocfcmhokffaaFinger
namespace Go.Proofs.Ytmpocfcmhokffaa
open Go.Shelf Go.RowKit Go.Lib Go.Sort

def sortLays_ren : Go.Shelf.Ren := ⟨fun | 11 => 13 | 17 => 17 | 18 => 18 | 31 => 19 | 32 => 20 | 33 => 21 | 34 => 22 | 35 => 23 | 36 => 24 | 37 => 25 | 38 => 26 | 39 => 27 | 40 => 28 | 43 => 29 | 44 => 30 | 45 => 31 | 46 => 32 | 47 => 33 | 50 => 34 | n => n, fun | 45 => 46 | 3 => 3 | 4 => 4 | 47 => 49 | 0 => 0 | 56 => 52 | 58 => 24 | 61 => 56 | 60 => 55 | 65 => 61 | 5 => 5 | 9 => 9 | 67 => 64 | 71 => 67 | 73 => 69 | 74 => 70 | 43 => 47 | 26 => 59 | 38 => 63 | n => n, fun | n => n⟩
theorem sortLays : Go.Proofs.LaysGt.n11 Try.prog sortLays_ren := {
  mixed := by kernel_rfl
  f11 := Try.func13.trans (congrArg some (by kernel_rfl))
  f17 := Try.func17.trans (congrArg some (by kernel_rfl))
  f18 := Try.func18.trans (congrArg some (by kernel_rfl))
  f31 := Try.func19.trans (congrArg some (by kernel_rfl))
  f32 := Try.func20.trans (congrArg some (by kernel_rfl))
  f33 := Try.func21.trans (congrArg some (by kernel_rfl))
  f34 := Try.func22.trans (congrArg some (by kernel_rfl))
  f35 := Try.func23.trans (congrArg some (by kernel_rfl))
  f36 := Try.func24.trans (congrArg some (by kernel_rfl))
  f37 := Try.func25.trans (congrArg some (by kernel_rfl))
  f38 := Try.func26.trans (congrArg some (by kernel_rfl))
  f39 := Try.func27.trans (congrArg some (by kernel_rfl))
  f40 := Try.func28.trans (congrArg some (by kernel_rfl))
  f43 := Try.func29.trans (congrArg some (by kernel_rfl))
  f44 := Try.func30.trans (congrArg some (by kernel_rfl))
  f45 := Try.func31.trans (congrArg some (by kernel_rfl))
  f46 := Try.func32.trans (congrArg some (by kernel_rfl))
  f47 := Try.func33.trans (congrArg some (by kernel_rfl))
  f50 := Try.func34.trans (congrArg some (by kernel_rfl))
  t0 := Try.underlying0
  a0 := Try.isAgg0
  z0 := Try.sizeOf0
  v0 := Try.zeroValue0
  i0 := by kernel_rfl
  t3 := Try.underlying3
  a3 := Try.isAgg3
  z3 := Try.sizeOf3
  v3 := Try.zeroValue3
  i3 := by kernel_rfl
  t4 := Try.underlying4
  a4 := Try.isAgg4
  z4 := Try.sizeOf4
  v4 := Try.zeroValue4
  i4 := by kernel_rfl
  t5 := Try.underlying5
  a5 := Try.isAgg5
  z5 := Try.sizeOf5
  v5 := Try.zeroValue5
  i5 := by kernel_rfl
  t9 := Try.underlying9
  a9 := Try.isAgg9
  z9 := Try.sizeOf9
  v9 := Try.zeroValue9
  i9 := by kernel_rfl
  t26 := Try.underlying59
  a26 := Try.isAgg59
  z26 := Try.sizeOf59
  v26 := Try.zeroValue59
  i26 := by kernel_rfl
  t38 := Try.underlying63
  a38 := Try.isAgg63
  z38 := Try.sizeOf63
  v38 := Try.zeroValue63
  i38 := by kernel_rfl
  t43 := Try.underlying47
  a43 := Try.isAgg47
  z43 := Try.sizeOf47
  v43 := Try.zeroValue47
  i43 := by kernel_rfl
  t45 := Try.underlying46
  a45 := Try.isAgg46
  z45 := Try.sizeOf46
  v45 := Try.zeroValue46
  i45 := by kernel_rfl
  t47 := Try.underlying49
  a47 := Try.isAgg49
  z47 := Try.sizeOf49
  v47 := Try.zeroValue49
  i47 := by kernel_rfl
  t56 := Try.underlying52
  a56 := Try.isAgg52
  z56 := Try.sizeOf52
  v56 := Try.zeroValue52
  i56 := by kernel_rfl
  t58 := Try.underlying24
  a58 := Try.isAgg24
  z58 := Try.sizeOf24
  v58 := Try.zeroValue24
  i58 := by kernel_rfl
  t60 := Try.underlying55
  a60 := Try.isAgg55
  z60 := Try.sizeOf55
  v60 := Try.zeroValue55
  i60 := by kernel_rfl
  t61 := Try.underlying56
  a61 := Try.isAgg56
  z61 := Try.sizeOf56
  v61 := Try.zeroValue56
  i61 := by kernel_rfl
  t65 := Try.underlying61
  a65 := Try.isAgg61
  z65 := Try.sizeOf61
  v65 := Try.zeroValue61
  i65 := by kernel_rfl
  t67 := Try.underlying64
  a67 := Try.isAgg64
  z67 := Try.sizeOf64
  v67 := Try.zeroValue64
  i67 := by kernel_rfl
  t71 := Try.underlying67
  a71 := Try.isAgg67
  z71 := Try.sizeOf67
  v71 := Try.zeroValue67
  i71 := by kernel_rfl
  t73 := Try.underlying69
  a73 := Try.isAgg69
  z73 := Try.sizeOf69
  v73 := Try.zeroValue69
  i73 := by kernel_rfl
  t74 := Try.underlying70
  a74 := Try.isAgg70
  z74 := Try.sizeOf70
  v74 := Try.zeroValue70
  i74 := by kernel_rfl }

theorem len_reached (rv : Value) : Reaches Try.prog 40 rv "Len" 54 := ⟨fun _ => by kernel_rfl, enters_of Try.func54 (by kernel_rfl) rfl⟩
theorem less_reached (rv : Value) : Reaches Try.prog 40 rv "Less" 55 := ⟨fun _ => by kernel_rfl, enters_of Try.func55 (by kernel_rfl) rfl⟩
theorem swap_reached (rv : Value) : Reaches Try.prog 40 rv "Swap" 57 := ⟨fun _ => by kernel_rfl, enters_of Try.func57 (by kernel_rfl) rfl⟩

theorem names_LessM (blk off c : Nat) (d : Array (List UInt8)) (w : World) (hH : Holds encStr w blk off d) (hblk : blk < w.heap.size) (hsz : d.size < 4611686018427387904) :
    LessM Try.prog 55 (.slice (some ⟨blk, off, none⟩) d.size c) encStr ltStr blk off d.size w := fun m os dk hs i j hi hj =>
  names_Less blk off c d.size _ (fun t => dk[t]!) (fun t ht => ((holds_sortWorld encStr w blk off m d dk os hblk hH hs) t (by omega)).1) i j hi hj hsz
theorem names_SwapM (blk off c size : Nat) (hsz : size < 4611686018427387904) : SwapM Try.prog 57 (.slice (some ⟨blk, off, none⟩) size c) encStr blk off size := fun W dk hH hs i j hi hj =>
  names_Swap blk off c size W dk[i]! dk[j]! i j hi hj hsz (hH i (by omega)).1 (hH j (by omega)).1 (hH i (by omega)).2 (hH j (by omega)).2

/-- What the sort leaves is core's mergeSort. -/
theorem sorted_is {ss : List (List UInt8)} {d' : Array (List UInt8)} (hP : PermIn 0 ss.toArray.size ss.toArray d') (hS : SortedIn ltStr 0 ss.toArray.size d') : d'.toList = ss.mergeSort leB := by
  have h := sorted_unique_holds swo_ltStr (fun x y h1 h2 => by simp only [ltStr, decide_eq_false_iff_not, List.not_lt] at h1 h2; exact List.le_antisymm h2 h1) ss.toArray d' hP hS
  rw [h]
  congr 1
  funext x y
  show (!decide (y < x)) = decide (x ≤ y)
  by_cases h : x ≤ y
  · have h' : ¬ y < x := List.not_lt.2 h
    simp [h, h']
  · have h' : y < x := List.not_le.1 h
    simp [h, h']

theorem sort_names : SortNames := by
  intro base g cap ss w hlen hrow
  rcases hrow.2 with ⟨hnil, _⟩ | ⟨g', cap', cur, hv, hbase, hb, h1, h2, h3, h4⟩
  · cases hnil
  cases hv
  have hH : Holds encStr w g 0 ss.toArray := holds_of_block hb (by simpa using h4)
  have hgl : g < w.heap.size := (Array.getElem?_eq_some_iff.1 hb).1
  by_cases hn : ss.length ≤ 1
  · have hm : ss.mergeSort leB = ss := by
      match ss, hn with
      | [], _ => simp
      | [x], _ => simp
    refine (Any.sort_Sort_tiny sortLays 40 (.slice (some ⟨g, 0, none⟩) ss.length cap) 54 (len_reached _) ss.length hn w (names_Len _ _ _ _)).mono fun e w' ⟨he, q, hw⟩ => ⟨he, ?_, ?_⟩
    · subst hw
      rw [hm]
      exact hrow
    · subst hw
      exact ⟨rfl, rfl, rfl, Nat.le_refl _, fun _ _ _ => rfl⟩
  · have hsz : ss.toArray.size = ss.length := by simp
    have hc := Any.sort_Sort_sorted sortLays 40 (.slice (some ⟨g, 0, none⟩) ss.toArray.size cap) 54 55 57 (len_reached _) (less_reached _) (swap_reached _) encStr ltStr swo_ltStr
      g 0 ss.toArray (by omega) (by omega) w (names_Len _ _ _ _) (names_LessM g 0 cap ss.toArray w hH hgl (by omega)) (names_SwapM g 0 cap ss.toArray.size (by omega)) hH hgl
    refine hc.mono fun e w' ⟨he, d', n, os, hP, hS, hw⟩ => ⟨he, ?_, ?_⟩
    · subst hw
      have hd := sorted_is hP hS
      have e1 : d' = (ss.mergeSort leB).toArray := by rw [← hd]
      rw [e1]
      exact ownsRow_sorted (by simp) hbase hb h1 h2 h3
    · subst hw
      exact grownBy_sorted _

#print axioms sort_names
end Go.Proofs.Ytmpocfcmhokffaa
