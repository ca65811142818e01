/- impl.DecodeConfig: the copy of the bytes, the reader over them, and what is told. -/
import Derived.Test.YtnpkgmgedgcjmaaGreatDoorDp
import Derived.OwnWalk
set_option linter.all false
namespace Go.Proofs.YtnpkgmgedgcjmaaGreatDoor
open Go Go.RowKit Png

theorem Row.of_block {w w' : World} {b n : Nat} {t : TypeId} (h : Row w b t n) (he : w'.heap[b]? = w.heap[b]?) : Row w' b t n := by
  obtain ⟨cur, h, hn⟩ := h
  exact ⟨cur, he.trans h, hn⟩

theorem Fr.of_below {w w' : World} (h : Below w.heap.size w w') : Fr [] w w' :=
  ⟨h.os, h.tape, h.output, h.size, fun k hk _ => h.block k hk, fun _ _ _ r => r.of_block (h.block _ r.lt)⟩

theorem ofInt_bvals (l : List UInt8) (b off : Nat) (w : World) (h : Seg w b off l) : ∀ j u, (bvals l)[j]? = some u → w.cell? ((⟨b, off, none⟩ : Addr).add j) = some u := by
  intro j u hu
  have hj : j < l.length := by
    have := (List.getElem?_eq_some_iff.1 hu).1
    simpa using this
  rw [bvals_get l j hj] at hu
  rw [add_addr, h j hj]; exact hu

set_option maxHeartbeats 1000000 in
set_option maxRecDepth 100000 in
theorem clone_ok (b off cap : Nat) (l : List UInt8) (w : World) (hs : Seg w b off l) (hl : l.length ≤ 140737488355328) :
    Calls Tryz.prog 43 #[.slice (some ⟨b, off, none⟩) l.length cap] w fun e w' =>
      ∃ g cap', e = .returned (.slice (some ⟨g, 0, none⟩) l.length cap') ∧ Fr [] w w' ∧ w.heap.size ≤ g ∧ g < w'.heap.size ∧ Seg w' g 0 l ∧ l.length ≤ cap' ∧ cap' ≤ 9223372036854775807 := by
  have he := Lib.run_eql_slice_nil (P := Tryz.prog) w 24 5 (some ⟨b, off, none⟩) l.length cap 0 0 Tryz.underlying24
  go_enter Tryz.func43, Tryz.ntmps43
  have Hs := Lib.hid hs
  clear hs
  go_wp2_with (at_builtin; refine wpList_append_own _ rfl _ _ 24 rfl w.heap.size 5 Tryz.t5 (.int .u8 0) 1 1 Tryz.underlying24 (by kernel_rfl) (by kernel_rfl) (by kernel_rfl) (by kernel_rfl) rfl (by decide) _ 0 [] rfl (World.ownsRow_made w #[] 0 (Nat.le_refl _) (by simp [maxLen]) rfl) ⟨b, off, none⟩ l.length cap (bvals l) rfl (by simp) ?_ (bvals_one l) (by simp only [maxLen]; omega) (by omega) (by simp) ?_)
  · exact ofInt_bvals l b off _ (Hs.out.fr ((Fr.refl [] w).alloc _) (by simp))
  · intro v' w' ho hg hn
    rcases ho with ⟨_, ⟨rfl, _⟩ | ⟨g, cap', cur, rfl, hb, hgg, hnc, hcm, hcs, htake⟩⟩
    · exact absurd rfl hn
    have HG := Lib.hid hgg
    have Hg := Lib.hid hg
    have Ht := Lib.hid htake
    have Hb := Lib.hid (And.intro hb (And.intro hnc (And.intro hcm hcs)))
    clear hgg hg htake hb hnc hcm hcs hn he
    go_wp2
    go_ret
    have hb := Hb.out
    refine ⟨g, cap', rfl, Fr.of_below ⟨Hg.out.os, Hg.out.tape, Hg.out.output, ?_, fun k hk => ?_⟩, hb.1, (Array.getElem?_eq_some_iff.1 HG.out).1, ?_, hb.2.1, ?_⟩
    · have := Hg.out.size; simp at this; omega
    · rw [Hg.out.block k (by simp; omega) (by simp [Value.ownBlock]; omega)]
      exact heap_alloc_old w _ hk
    · intro k hk
      rw [Nat.zero_add]
      have h1 : (cur.toList.take (l.length * 1))[k]? = (bvals l)[k]? := by rw [Ht.out]
      rw [bvals_get l k hk, List.getElem?_take_of_lt (by omega)] at h1
      rw [show w'.cell? ⟨g, k, none⟩ = cur[k]? by simp [World.cell?, HG.out]]
      simpa using h1
    · have := hb.2.2.1; simp only [maxLen] at this; omega

set_option maxHeartbeats 1000000 in
set_option maxRecDepth 100000 in
theorem newReader_ok (g cap : Nat) (l : List UInt8) (w : World) (hs : Seg w g 0 l) (hg : g < w.heap.size) (hc : l.length ≤ cap) (hc2 : cap ≤ 9223372036854775807) :
    Calls Tryz.prog 42 #[.slice (some ⟨g, 0, none⟩) l.length cap] w fun e w' =>
      e = .returned (.pointer (some ⟨w.heap.size, 0, none⟩)) ∧ Fr [] w w' ∧ Src w' w.heap.size g l ∧ w'.heap.size = w.heap.size + 1 := by
  have Hs := Lib.hid hs
  clear hs
  go_enter Tryz.func42, Tryz.ntmps42
  go_wp2
  go_ret
  have hb : (w.alloc (Obj.cells #[Value.slice (some { block := g, off := 0 }) l.length cap, Value.int IntKind.i64 0, Value.int IntKind.i64 (-1)] 121)).heap[w.heap.size]? = some (Obj.cells #[Value.slice (some { block := g, off := 0 }) l.length cap, Value.int IntKind.i64 0, Value.int IntKind.i64 (-1)] 121) := heap_alloc_new w _
  refine ⟨rfl, (Fr.refl [] w).alloc _, ⟨l.length, cap, 0, 121, ?_, ?_, ⟨_, hb, rfl⟩, hc, hc2, by omega, ?_, by omega⟩, by simp⟩
  · unfold World.cell?; rw [hb]; rfl
  · unfold World.cell?; rw [hb]; rfl
  · exact Hs.out.fr ((Fr.refl [] w).alloc _) (by simp)

set_option maxHeartbeats 4000000 in
set_option maxRecDepth 100000 in
theorem kindOf_ok (ct dp : Nat) (w : World) (hk : Kinds ct dp) :
    Calls Tryz.prog 53 #[.int .i64 (cbOf ct dp : Nat)] w fun e w' => e = .returned (.int .i64 ((100 * ct + dp : Nat) : Int)) ∧ w = w' := by
  unfold Kinds at hk
  rcases hk with ⟨rfl, rfl⟩ | ⟨rfl, rfl⟩ | ⟨rfl, rfl⟩ | ⟨rfl, rfl⟩ | ⟨rfl, rfl⟩ | ⟨rfl, rfl⟩ | ⟨rfl, rfl⟩ | ⟨rfl, rfl⟩ | ⟨rfl, rfl⟩ | ⟨rfl, rfl⟩ | ⟨rfl, rfl⟩ | ⟨rfl, rfl⟩ | ⟨rfl, rfl⟩ | ⟨rfl, rfl⟩ | ⟨rfl, rfl⟩ <;>
  · simp only [cbOf]
    go_enter Tryz.func53, Tryz.ntmps53
    go_wp2
    go_ret
    exact ⟨rfl, rfl⟩
end Go.Proofs.YtnpkgmgedgcjmaaGreatDoor
