/-
  (Set).ApplyOptions through a pointer to a Set of the caller's own.
-/
import Derived.Test.YbulkactiCalls
import Derived.Test.YbulkactiBits
import Derived.BigRegion
import Derived.Deep.Light
namespace Go.Proofs.Ybulkacti
open Go.RowKit

def pickI (c : Bool) (x y : Int) : Int := if c then x else y
def pickS (c : Bool) (x y : ByteArray) : ByteArray := if c then x else y

/-- What stands in 'ApplyOptions': below block b nothing has turned; block b holds the Set that is changed, block n the receiver. -/
structure St (b n : Nat) (w wc : World) (o c : Array Value) : Prop where
  below : Below b w wc
  oblk : wc.heap[n]? = some (.cells o 27 (0, 0))
  sblk : wc.heap[b]? = some (.cells c 27 (0, 0))

theorem cell_row {w : World} {b : Nat} {c : Array Value} (h : w.heap[b]? = some (.cells c 27 (0, 0))) (k : Nat) : w.cell? ⟨b, k, none⟩ = c[k]? := cell_of_row w b k c 27 (0, 0) h
theorem free_row {w : World} {b : Nat} {c : Array Value} (h : w.heap[b]? = some (.cells c 27 (0, 0))) (k : Nat) : w.frozen? ⟨b, k, none⟩ = false := by
  simp [World.frozen?, h]

theorem heap_setCell_at {w : World} {b : Nat} {c : Array Value} (h : w.heap[b]? = some (.cells c 27 (0, 0))) (k : Nat) (v : Value) : (w.setCell ⟨b, k, none⟩ v).heap[b]? = some (.cells (c.setIfInBounds k v) 27 (0, 0)) := by
  simp [World.setCell, Array.getElem?_modify, h]

theorem St.drew {b n : Nat} {w wc : World} {o c : Array Value} (h : St b n w wc o c) : St b n w wc.drew o c := ⟨h.below.drew, h.oblk, h.sblk⟩

theorem St.set {b n : Nat} {w wc : World} {o c : Array Value} (h : St b n w wc o c) (hbn : b ≠ n) (k : Nat) (v : Value) : St b n w (wc.setCell ⟨b, k, none⟩ v) o (c.setIfInBounds k v) :=
  ⟨h.below.setCell (Nat.le_refl _) v, by rw [Below.heap_setCell _ _ _ _ (by simpa using Ne.symm hbn)]; exact h.oblk, heap_setCell_at h.sblk k v⟩

theorem St.start {b : Nat} {w : World} {o c : Array Value} (h : w.heap[b]? = some (.cells c 27 (0, 0))) (k : Nat) (v : Value) : St b w.heap.size w ((w.setCell ⟨b, k, none⟩ v).alloc (.cells o 27)) o (c.setIfInBounds k v) := by
  have hb : b < w.heap.size := (Array.getElem?_eq_some_iff.1 h).1
  have hsz : (w.setCell ⟨b, k, none⟩ v).heap.size = w.heap.size := by simp [World.setCell]
  refine ⟨((Below.refl b w).setCell (Nat.le_refl _) v).alloc (by omega) _, ?_, ?_⟩
  · rw [← hsz]; exact heap_alloc_new _ _
  · rw [Below.heap_alloc _ _ _ (by omega)]; exact heap_setCell_at h k v

set_option maxHeartbeats 1000000 in
theorem apply_any (f g m u : Int) (i p : ByteArray) (b : Nat) (sf sg sm su : Int) (si sp : ByteArray) (w : World) (hs : w.heap[b]? = some (.cells (setV sf sg sm su si sp) 27 (0, 0))) :
    Calls Yba.prog 7 #[.agg (setV f g m u i p), .pointer (some ⟨b, 0, none⟩)] w fun e w' => e = .returned (.tuple #[]) ∧ Below b w w' ∧
      w'.heap[b]? = some (.cells (setV (mixF f g sf) (orG g sg) (pickI (hasB g 4294967296) m sm) (pickI (hasB g 8589934592) u su) (pickS (hasB g 4096) i si) (pickS (hasB g 8192) p sp)) 27 (0, 0)) := by
  have c0 := cell_row hs 0
  have c1 := cell_row hs 1
  have f0 := free_row hs 0
  have f1 := free_row hs 1
  simp only [setV, List.getElem?_toArray, List.getElem?_cons_zero, List.getElem?_cons_succ] at c0 c1
  have hb : b < w.heap.size := (Array.getElem?_eq_some_iff.1 hs).1
  have hne : b ≠ w.heap.size := by omega
  have HS : Hid (w.heap[b]? = some (.cells (setV sf sg sm su si sp) 27 (0, 0))) := hs
  clear hs
  go_enter Yba.func7, Yba.ntmps7
  go_upto_region 1 with fail
  go_cut [] (fun wc => St b w.heap.size w wc (setV f g m u i p) (setV (mixF f g sf) sg sm su si sp))
  case first =>
    go_region
    go_wp2
    go_meet
    case rel => exact (St.start HS.out 0 _).drew
  clear c0 c1 f0 f1
  have c1 := cell_row hcut.sblk 1
  have f1 := free_row hcut.sblk 1
  have o1 := cell_row hcut.oblk 1
  simp only [setV, List.getElem?_toArray, List.getElem?_cons_zero, List.getElem?_cons_succ] at c1 o1
  obtain ⟨w1, rfl⟩ : ∃ x : World, x = wc := ⟨_, rfl⟩
  have HC1 : Hid (St b w.heap.size w w1 (setV f g m u i p) (setV (mixF f g sf) sg sm su si sp)) := hcut
  clear hcut
  go_upto_region 2 with fail
  go_cut [] (fun wc => St b w.heap.size w wc (setV f g m u i p) (setV (mixF f g sf) (orG g sg) sm su si sp))
  case first =>
    go_region
    go_wp2
    go_meet
    case rel => exact (HC1.out.set hne 1 _).drew
  clear c1 f1 o1 HC1
  have o1 := cell_row hcut.oblk 1
  have ok := cell_row hcut.oblk 2
  have ck := cell_row hcut.sblk 2
  have fk := free_row hcut.sblk 2
  simp only [setV, List.getElem?_toArray, List.getElem?_cons_zero, List.getElem?_cons_succ] at o1 ok ck
  obtain ⟨w2, rfl⟩ : ∃ x : World, x = wc := ⟨_, rfl⟩
  have HC2 : Hid (St b w.heap.size w w2 (setV f g m u i p) (setV (mixF f g sf) (orG g sg) sm su si sp)) := hcut
  clear hcut
  go_upto_if 31 with (go_at_call 10; refine (has10 _ _ _).mono ?_; rintro e w' ⟨rfl, rfl⟩)
  go_cut [] (fun wc => St b w.heap.size w wc (setV f g m u i p) (setV (mixF f g sf) (orG g sg) (pickI (hasB g 4294967296) m sm) su si sp))
  case first =>
    cases hB : hasB g 4294967296
    · go_wp2
      go_meet
      case rel => rw [hB]; exact HC2.out
    · go_wp2
      go_meet
      case rel => rw [hB]; exact HC2.out.set hne 2 _
  clear o1 ok ck fk HC2
  have o1 := cell_row hcut.oblk 1
  have ok := cell_row hcut.oblk 3
  have ck := cell_row hcut.sblk 3
  have fk := free_row hcut.sblk 3
  simp only [setV, List.getElem?_toArray, List.getElem?_cons_zero, List.getElem?_cons_succ] at o1 ok ck
  obtain ⟨w3, rfl⟩ : ∃ x : World, x = wc := ⟨_, rfl⟩
  have HC3 : Hid (St b w.heap.size w w3 (setV f g m u i p) (setV (mixF f g sf) (orG g sg) (pickI (hasB g 4294967296) m sm) su si sp)) := hcut
  clear hcut
  go_upto_if 39 with (go_at_call 10; refine (has10 _ _ _).mono ?_; rintro e w' ⟨rfl, rfl⟩)
  go_cut [] (fun wc => St b w.heap.size w wc (setV f g m u i p) (setV (mixF f g sf) (orG g sg) (pickI (hasB g 4294967296) m sm) (pickI (hasB g 8589934592) u su) si sp))
  case first =>
    cases hB : hasB g 8589934592
    · go_wp2
      go_meet
      case rel => rw [hB]; exact HC3.out
    · go_wp2
      go_meet
      case rel => rw [hB]; exact HC3.out.set hne 3 _
  clear o1 ok ck fk HC3
  have o1 := cell_row hcut.oblk 1
  have ok := cell_row hcut.oblk 4
  have ck := cell_row hcut.sblk 4
  have fk := free_row hcut.sblk 4
  simp only [setV, List.getElem?_toArray, List.getElem?_cons_zero, List.getElem?_cons_succ] at o1 ok ck
  obtain ⟨w4, rfl⟩ : ∃ x : World, x = wc := ⟨_, rfl⟩
  have HC4 : Hid (St b w.heap.size w w4 (setV f g m u i p) (setV (mixF f g sf) (orG g sg) (pickI (hasB g 4294967296) m sm) (pickI (hasB g 8589934592) u su) si sp)) := hcut
  clear hcut
  go_upto_if 47 with (go_at_call 10; refine (has10 _ _ _).mono ?_; rintro e w' ⟨rfl, rfl⟩)
  go_cut [] (fun wc => St b w.heap.size w wc (setV f g m u i p) (setV (mixF f g sf) (orG g sg) (pickI (hasB g 4294967296) m sm) (pickI (hasB g 8589934592) u su) (pickS (hasB g 4096) i si) sp))
  case first =>
    cases hB : hasB g 4096
    · go_wp2
      go_meet
      case rel => rw [hB]; exact HC4.out
    · go_wp2
      go_meet
      case rel => rw [hB]; exact HC4.out.set hne 4 _
  clear o1 ok ck fk HC4
  have o1 := cell_row hcut.oblk 1
  have ok := cell_row hcut.oblk 5
  have ck := cell_row hcut.sblk 5
  have fk := free_row hcut.sblk 5
  simp only [setV, List.getElem?_toArray, List.getElem?_cons_zero, List.getElem?_cons_succ] at o1 ok ck
  obtain ⟨w5, rfl⟩ : ∃ x : World, x = wc := ⟨_, rfl⟩
  have HC5 : Hid (St b w.heap.size w w5 (setV f g m u i p) (setV (mixF f g sf) (orG g sg) (pickI (hasB g 4294967296) m sm) (pickI (hasB g 8589934592) u su) (pickS (hasB g 4096) i si) sp)) := hcut
  clear hcut
  go_upto_if 55 with (go_at_call 10; refine (has10 _ _ _).mono ?_; rintro e w' ⟨rfl, rfl⟩)
  cases hB : hasB g 8192
  · go_wp2
    go_end0
    exact ⟨rfl, HC5.out.below, by rw [hB]; exact HC5.out.sblk⟩
  · go_wp2
    go_end0
    exact ⟨rfl, (HC5.out.set hne 5 _).below, by rw [hB]; exact (HC5.out.set hne 5 _).sblk⟩

end Go.Proofs.Ybulkacti
