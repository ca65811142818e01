/- A part of the proof: Dc, Dp, Ic, Sh, Di, Lw. -/
import Derived.Deep.RegionHeld3
import Derived.OwnWalk
import Derived.Test.YtnpkgmgedgcjmaaGreatDoorZPd
import Derived.Test.YtnpkgmgedgcjmaaGreatDoorZWc
set_option linter.all false
set_option maxRecDepth 100000
section
namespace Go.Proofs.YtnpkgmgedgcjmaaGreatDoor
open Go Go.RowKit Png
theorem zc_size : Tryz.zeroCells130.size = 786 := by kernel_rfl
theorem zc6 : Tryz.zeroCells130[6]? = some (.slice none 0 0) := by kernel_rfl
theorem zc7 : Tryz.zeroCells130[7]? = some (.int .i64 0) := by kernel_rfl
theorem zc8 : Tryz.zeroCells130[8]? = some (.int .i64 0) := by kernel_rfl
theorem decoder_new (rb n : Nat) (w W0 : World) (cs : Array Value) (t : TypeId) (hn : n = w.heap.size) (hrb : rb < n)
  (hW0 : (((w.alloc (Obj.cells cs t)).alloc (Obj.cells #[.int .u32 0] 126)).alloc (Obj.cells ((Tryz.zeroCells130.setIfInBounds 0 (.iface 84 (.pointer (some ⟨rb, 0, none⟩)))).setIfInBounds 2 (.pointer (some ⟨n + 1, 0, none⟩))) 130)) = W0) :
  Fr [] w W0 ∧ Dec W0 (n + 2) (n + 1) rb 130 ∧ W0.cell? ⟨n + 2, 6, none⟩ = some (.slice none 0 0) ∧ W0.cell? ⟨n + 2, 7, none⟩ = some (.int .i64 0) ∧ W0.cell? ⟨n + 2, 8, none⟩ = some (.int .i64 0) ∧
   Row W0 n t cs.size ∧ W0.heap.size = n + 3 := by
 subst hn
 have hd : W0.heap[w.heap.size + 2]? = some (Obj.cells ((Tryz.zeroCells130.setIfInBounds 0 (.iface 84 (.pointer (some ⟨rb, 0, none⟩)))).setIfInBounds 2 (.pointer (some ⟨w.heap.size + 1, 0, none⟩))) 130) := by
  rw [← hW0]
  have := heap_alloc_new ((w.alloc (Obj.cells cs t)).alloc (Obj.cells #[.int .u32 0] 126)) (Obj.cells ((Tryz.zeroCells130.setIfInBounds 0 (.iface 84 (.pointer (some ⟨rb, 0, none⟩)))).setIfInBounds 2 (.pointer (some ⟨w.heap.size + 1, 0, none⟩))) 130)
  simpa using this
 have zs := zc_size
 have z6 := zc6
 have z7 := zc7
 have z8 := zc8
 generalize Tryz.zeroCells130 = z at *
 refine ⟨?_, ⟨?_, ?_, ?_, ?_, by omega⟩, ?_, ?_, ?_, ?_, ?_⟩
 ·
  rw [← hW0]; exact (((Fr.refl _ _).alloc _).alloc _).alloc _
 ·
  exact ⟨_, hd, by simp [zs]⟩
 ·
  simp [World.cell?, hd, zs]
 ·
  simp [World.cell?, hd, zs]
 ·
  rw [← hW0]
  refine Row.alloc ?_ _
  have := Row.alloc_new (w := w.alloc (Obj.cells cs t)) #[.int .u32 0] 126
  simpa using this
 ·
  simp [World.cell?, hd, z6]
 ·
  simp [World.cell?, hd, z7]
 ·
  simp [World.cell?, hd, z8]
 ·
  rw [← hW0]
  exact ((Row.alloc_new cs t).alloc _).alloc _
 ·
  rw [← hW0]; simp
end Go.Proofs.YtnpkgmgedgcjmaaGreatDoor
end
section
namespace Go.Proofs.YtnpkgmgedgcjmaaGreatDoor
open Go Go.RowKit Png
theorem Row.of_block {w w' : World} {b n : Nat} {t : TypeId} (h : Row w b t n) (he : w'.heap[b]? = w.heap[b]?) : Row w' b t n := by
 obtain ⟨cur, h, hn⟩ := h
 exact ⟨cur, he.trans h, hn⟩
theorem Fr.of_below {w w' : World} (h : Below w.heap.size w w') : Fr [] w w' :=
 ⟨h.os, h.tape, h.output, h.size, fun k hk _ => h.block k hk, fun _ _ _ r => r.of_block (h.block _ r.lt)⟩
theorem ofInt_bvals (l : List UInt8) (b off : Nat) (w : World) (h : Seg w b off l) : ∀ j u, (bvals l)[j]? = some u → w.cell? ((⟨b, off, none⟩ : Addr).add j) = some u := by
 intro j u hu
 have hj : j < l.length := by
  have := (List.getElem?_eq_some_iff.1 hu).1
  simpa using this
 rw [bvals_get l j hj] at hu
 rw [add_addr, h j hj]; exact hu
set_option maxHeartbeats 1000000 in
theorem clone_ok (b off cap : Nat) (l : List UInt8) (w : World) (hs : Seg w b off l) (hl : l.length ≤ 140737488355328) :
  Calls Tryz.prog 43 #[.slice (some ⟨b, off, none⟩) l.length cap] w fun e w' =>
   ∃ g cap', e = .returned (.slice (some ⟨g, 0, none⟩) l.length cap') ∧ Fr [] w w' ∧ w.heap.size ≤ g ∧ g < w'.heap.size ∧ Seg w' g 0 l ∧ l.length ≤ cap' ∧ cap' ≤ 9223372036854775807 := by
 have he := Lib.run_eql_slice_nil (P := Tryz.prog) w 24 5 (some ⟨b, off, none⟩) l.length cap 0 0 Tryz.underlying24
 go_enter Tryz.func43, Tryz.ntmps43
 have Hs := Lib.hid hs
 clear hs
 go_wp2_with (at_builtin; refine wpList_append_own _ rfl _ _ 24 rfl w.heap.size 5 Tryz.t5 (.int .u8 0) 1 1 Tryz.underlying24 (by kernel_rfl) (by kernel_rfl) (by kernel_rfl) (by kernel_rfl) rfl (by decide) _ 0 [] rfl (World.ownsRow_made w #[] 0 (Nat.le_refl _) (by simp [maxLen]) rfl) ⟨b, off, none⟩ l.length cap (bvals l) rfl (by simp) ?_ (bvals_one l) (by simp only [maxLen]; omega) (by omega) (by simp) ?_)
 ·
  exact ofInt_bvals l b off _ (Hs.out.fr ((Fr.refl [] w).alloc _) (by simp))
 ·
  intro v' w' ho hg hn
  rcases ho with ⟨_, ⟨rfl, _⟩ | ⟨g, cap', cur, rfl, hb, hgg, hnc, hcm, hcs, htake⟩⟩
  ·
   exact absurd rfl hn
  have HG := Lib.hid hgg
  have Hg := Lib.hid hg
  have Ht := Lib.hid htake
  have Hb := Lib.hid (And.intro hb (And.intro hnc (And.intro hcm hcs)))
  clear hgg hg htake hb hnc hcm hcs hn he
  go_wp2
  go_ret
  have hb := Hb.out
  refine ⟨g, cap', rfl, Fr.of_below ⟨Hg.out.os, Hg.out.tape, Hg.out.output, ?_, fun k hk => ?_⟩, hb.1, (Array.getElem?_eq_some_iff.1 HG.out).1, ?_, hb.2.1, ?_⟩
  ·
   have := Hg.out.size; simp at this; omega
  ·
   rw [Hg.out.block k (by simp; omega) (by simp [Value.ownBlock]; omega)]
   exact heap_alloc_old w _ hk
  ·
   intro k hk
   rw [Nat.zero_add]
   have h1 : (cur.toList.take (l.length * 1))[k]? = (bvals l)[k]? := by rw [Ht.out]
   rw [bvals_get l k hk, List.getElem?_take_of_lt (by omega)] at h1
   rw [show w'.cell? ⟨g, k, none⟩ = cur[k]? by simp [World.cell?, HG.out]]
   simpa using h1
  ·
   have := hb.2.2.1; simp only [maxLen] at this; omega
set_option maxHeartbeats 1000000 in
theorem newReader_ok (g cap : Nat) (l : List UInt8) (w : World) (hs : Seg w g 0 l) (hg : g < w.heap.size) (hc : l.length ≤ cap) (hc2 : cap ≤ 9223372036854775807) :
  Calls Tryz.prog 42 #[.slice (some ⟨g, 0, none⟩) l.length cap] w fun e w' =>
   e = .returned (.pointer (some ⟨w.heap.size, 0, none⟩)) ∧ Fr [] w w' ∧ Src w' w.heap.size g l ∧ w'.heap.size = w.heap.size + 1 := by
 have Hs := Lib.hid hs
 clear hs
 go_enter Tryz.func42, Tryz.ntmps42
 go_wp2
 go_ret
 have hb : (w.alloc (Obj.cells #[Value.slice (some { block := g, off := 0 }) l.length cap, Value.int IntKind.i64 0, Value.int IntKind.i64 (-1)] 121)).heap[w.heap.size]? = some (Obj.cells #[Value.slice (some { block := g, off := 0 }) l.length cap, Value.int IntKind.i64 0, Value.int IntKind.i64 (-1)] 121) := heap_alloc_new w _
 refine ⟨rfl, (Fr.refl [] w).alloc _, ⟨l.length, cap, 0, 121, ?_, ?_, ⟨_, hb, rfl⟩, hc, hc2, by omega, ?_, by omega⟩, by simp⟩
 ·
  unfold World.cell?; rw [hb]; rfl
 ·
  unfold World.cell?; rw [hb]; rfl
 ·
  exact Hs.out.fr ((Fr.refl [] w).alloc _) (by simp)
set_option maxHeartbeats 4000000 in
theorem kindOf_ok (ct dp : Nat) (w : World) (hk : Kinds ct dp) :
  Calls Tryz.prog 53 #[.int .i64 (cbOf ct dp : Nat)] w fun e w' => e = .returned (.int .i64 ((100 * ct + dp : Nat) : Int)) ∧ w = w' := by
 unfold Kinds at hk
 rcases hk with ⟨rfl, rfl⟩ | ⟨rfl, rfl⟩ | ⟨rfl, rfl⟩ | ⟨rfl, rfl⟩ | ⟨rfl, rfl⟩ | ⟨rfl, rfl⟩ | ⟨rfl, rfl⟩ | ⟨rfl, rfl⟩ | ⟨rfl, rfl⟩ | ⟨rfl, rfl⟩ | ⟨rfl, rfl⟩ | ⟨rfl, rfl⟩ | ⟨rfl, rfl⟩ | ⟨rfl, rfl⟩ | ⟨rfl, rfl⟩ <;>
 ·
  simp only [cbOf]
  go_enter Tryz.func53, Tryz.ntmps53
  go_wp2
  go_ret
  exact ⟨rfl, rfl⟩
end Go.Proofs.YtnpkgmgedgcjmaaGreatDoor
end
section
namespace Go.Proofs.YtnpkgmgedgcjmaaGreatDoor
open Go Go.RowKit Png
@[go_sem] theorem ta141y (v : Value) (w : World) : (Instr.typeAssert (.iface 141 v) 140 141 true).run Tryz.prog w = .ok (.tuple #[v, .bool true]) w := by kernel_rfl
@[go_sem] theorem ta141n (v : Value) (w : World) : (Instr.typeAssert (.iface 142 v) 140 141 true).run Tryz.prog w = .ok (.tuple #[.agg #[.int .u8 0, .int .u8 0, .int .u8 0, .int .u8 0], .bool false]) w := by kernel_rfl
@[go_sem] theorem ta142y (v : Value) (w : World) : (Instr.typeAssert (.iface 142 v) 140 142 true).run Tryz.prog w = .ok (.tuple #[v, .bool true]) w := by kernel_rfl
def shadeV (r g b a : Nat) : List Value := [.int .u8 r, .int .u8 g, .int .u8 b, .int .u8 a]
def shadesV (R G U A : Nat → Nat) : Nat → List Value
 | 0 => []
 | k + 1 => shadesV R G U A k ++ shadeV (R k) (G k) (U k) (A k)
theorem new_shade (w1 : World) (n r g b a : Nat) (hn : w1.heap.size = n) : ∀ j u, (shadeV r g b a)[j]? = some u →
  (w1.alloc (Obj.cells #[.int .u8 r, .int .u8 g, .int .u8 b, .int .u8 a] 96)).cell? ((⟨n, 0, none⟩ : Addr).add j) = some u := by
 subst hn
 intro j u hu
 rw [add_addr]
 unfold World.cell?
 have := heap_alloc_new w1 (Obj.cells #[.int .u8 r, .int .u8 g, .int .u8 b, .int .u8 a] 96)
 simp only [this]
 simpa [shadeV] using hu
set_option maxHeartbeats 4000000 in
theorem shadesOf_some (B np cap : Nat) (R G U A : Nat → Nat) (w : World) (hnp : np ≤ 256) (hB : B < w.heap.size)
  (hc : ∀ k, k < np → w.cell? ⟨B, k, none⟩ = some (nrgbV (R k) (G k) (U k) (A k)) ∨ (w.cell? ⟨B, k, none⟩ = some (rgbV (R k) (G k) (U k)) ∧ A k = 255)) :
  Calls Tryz.prog 54 #[.slice (some ⟨B, 0, none⟩) np cap] w fun e w' =>
   ∃ v, e = .returned v ∧ Fr [] w w' ∧ w'.ownsRow w.heap.size 96 4 v np (shadesV R G U A np) := by
 have Hc := Lib.hid hc
 have HB := Lib.hid hB
 clear hc
 go_enter Tryz.func54, Tryz.ntmps54
 go_wp2
 go_loopg [3, 11] np (fun g v i wr => ∃ j : Nat, j + g = np ∧ i = .int .i64 j ∧ Below w.heap.size w wr ∧ wr.ownsRow w.heap.size 96 4 v j (shadesV R G U A j))
 case atStart => exact ⟨0, by omega, rfl, Below.refl _ _, World.ownsRow_nil _ _ _ _⟩
 case round =>
  obtain ⟨j, hj, rfl, hbl, hown⟩ := hrel
  have Hj := Lib.hid hj
  have Hbl := Lib.hid hbl
  have Hown := Lib.hid hown
  by_cases hlt : j < np
  ·
   have F := Fr.of_below hbl
   have hjn : (j : Int) < (np : Int) := by omega
   have cc := Hc.out j hlt
   rw [← F.cell HB.out (by simp)] at cc
   clear hbl hown hj F hB
   rcases cc with cc | ⟨cc, ha⟩
   ·
    unfold nrgbV at cc
    go_wp2_with (at_builtin; refine wpList_append_own _ rfl _ _ 39 rfl w.heap.size 96 Tryz.t96 (.agg #[.int .u8 0, .int .u8 0, .int .u8 0, .int .u8 0]) 4 4 Tryz.underlying39 (by kernel_rfl) (by kernel_rfl) (by kernel_rfl) (by kernel_rfl) rfl (by decide) _ j (shadesV R G U A j) rfl ((Hown.out.alloc _).alloc _) ⟨wr.heap.size + 1, 0, none⟩ 1 1 (shadeV (R j) (G j) (U j) (A j)) rfl rfl ?_ (by intro u hu; simp [shadeV] at hu; rcases hu with rfl | rfl | rfl | rfl <;> rfl) (by simp only [maxLen]; omega) (by omega) (by have := Hbl.out.size; simp; omega) ?_)
    ·
     exact new_shade _ _ _ _ _ _ (by simp)
    ·
     intro v' w' ho hg hn
     have Ho := Lib.hid ho
     have Hg := Lib.hid hg
     clear ho hg hn
     go_wp2
     go_roundg (gk - 1)
     case measure => have := Hj.out; omega
     case rel =>
      have := Hj.out
      have h1 := Hbl.out.size
      refine ⟨j + 1, by omega, by go_num, ?_, Ho.out⟩
      exact (((Hbl.out.alloc h1 _).alloc (by simp; omega) _).grown Hg.out (by simp; omega) (fun k hk => (Hown.out.lt k hk).1))
   ·
    unfold rgbV at cc
    have Ha := Lib.hid ha
    clear ha
    go_wp2_with (at_builtin; refine wpList_append_own _ rfl _ _ 39 rfl w.heap.size 96 Tryz.t96 (.agg #[.int .u8 0, .int .u8 0, .int .u8 0, .int .u8 0]) 4 4 Tryz.underlying39 (by kernel_rfl) (by kernel_rfl) (by kernel_rfl) (by kernel_rfl) rfl (by decide) _ j (shadesV R G U A j) rfl ((Hown.out.alloc _).alloc _) ⟨wr.heap.size + 1, 0, none⟩ 1 1 (shadeV (R j) (G j) (U j) 255) rfl rfl ?_ (by intro u hu; simp [shadeV] at hu; rcases hu with rfl | rfl | rfl | rfl <;> rfl) (by simp only [maxLen]; omega) (by omega) (by have := Hbl.out.size; simp; omega) ?_)
    ·
     exact new_shade _ _ _ _ _ _ (by simp)
    ·
     intro v' w' ho hg hn
     have Ho := Lib.hid ho
     have Hg := Lib.hid hg
     clear ho hg hn
     go_wp2
     go_roundg (gk - 1)
     case measure => have := Hj.out; omega
     case rel =>
      have := Hj.out
      have h1 := Hbl.out.size
      refine ⟨j + 1, by omega, by go_num, ?_, (by have := Ho.out; unfold shadesV; rw [Ha.out]; exact this)⟩
      exact (((Hbl.out.alloc h1 _).alloc (by simp; omega) _).grown Hg.out (by simp; omega) (fun k hk => (Hown.out.lt k hk).1))
  ·
   have hjn : j = np := by have := Hj.out; omega
   subst hjn
   clear hbl hown hj hlt
   go_wp2
   go_ret
   exact ⟨_, rfl, Fr.of_below Hbl.out, Hown.out⟩
set_option maxHeartbeats 1000000 in
theorem shadesOf_nil (w : World) :
  Calls Tryz.prog 54 #[.slice none 0 0] w fun e w' => e = .returned (.slice none 0 0) ∧ w = w' := by
 go_enter Tryz.func54, Tryz.ntmps54
 go_wp2
 refine wp_loop_rounds 1 ?_
 rw [rounds_succ]
 go_wp2
 go_ret
 exact ⟨rfl, rfl⟩
end Go.Proofs.YtnpkgmgedgcjmaaGreatDoor
end
section
namespace Go.Proofs.YtnpkgmgedgcjmaaGreatDoor
open Go Go.RowKit Png
theorem owns_base {w : World} {base base' : Nat} {e : TypeId} {size : Nat} {v : Value} {n : Nat} {xs : List Value} (h : w.ownsRow base e size v n xs) (hb : base' ≤ base) : w.ownsRow base' e size v n xs := by
 obtain ⟨a, b | ⟨g, cap, cur, rfl, c, d⟩⟩ := h
 ·
  exact ⟨a, .inl b⟩
 ·
  exact ⟨a, .inr ⟨g, cap, cur, rfl, by omega, d⟩⟩
theorem shadesOf_any (ct np : Nat) (R G U A : Nat → Nat) (w : World) (pa : Option Addr) (pn pc : Nat)
  (h : (ct ≠ 3 ∧ Value.slice pa pn pc = .slice none 0 0) ∨ (ct = 3 ∧ np ≤ 256 ∧ ∃ B, Value.slice pa pn pc = .slice (some ⟨B, 0, none⟩) np 256 ∧ B < w.heap.size ∧
     ∀ k, k < np → w.cell? ⟨B, k, none⟩ = some (nrgbV (R k) (G k) (U k) (A k)) ∨ (w.cell? ⟨B, k, none⟩ = some (rgbV (R k) (G k) (U k)) ∧ A k = 255))) :
  Calls Tryz.prog 54 #[.slice pa pn pc] w fun e w' => ∃ va vn vc, e = .returned (.slice va vn vc) ∧ Fr [] w w' ∧
   ((ct ≠ 3 ∧ Value.slice va vn vc = .slice none 0 0) ∨ (ct = 3 ∧ w'.ownsRow w.heap.size 96 4 (.slice va vn vc) np (shadesV R G U A np))) := by
 rcases h with ⟨h3, he⟩ | ⟨h3, hnp, B, he, hB, hc⟩
 ·
  rw [he]
  refine (shadesOf_nil w).mono ?_
  rintro e w' ⟨rfl, rfl⟩
  exact ⟨_, _, _, rfl, Fr.refl _ _, .inl ⟨h3, rfl⟩⟩
 ·
  rw [he]
  refine (shadesOf_some B np 256 R G U A w hnp hB hc).mono ?_
  rintro e w' ⟨v, rfl, F, ho⟩
  rcases ho.2 with ⟨rfl, _⟩ | ⟨g, cap, cur, rfl, _⟩
  ·
   exact ⟨_, _, _, rfl, F, .inr ⟨h3, ho⟩⟩
  ·
   exact ⟨_, _, _, rfl, F, .inr ⟨h3, ho⟩⟩
end Go.Proofs.YtnpkgmgedgcjmaaGreatDoor
end
section
namespace Go.Proofs.YtnpkgmgedgcjmaaGreatDoor
open Go Go.RowKit Png
def ck (c : List UInt8 × List UInt8) : List UInt8 := four c.2.length ++ (c.1 ++ (c.2 ++ four (crc (c.1 ++ c.2))))
def cks (l : List (List UInt8 × List UInt8)) : List UInt8 := l.flatMap ck
theorem four_length (n : Nat) : (four n).length = 4 := rfl
theorem ck_length (c : List UInt8 × List UInt8) (h : c.1.length = 4) : (ck c).length = 12 + c.2.length := by
 simp [ck, four_length, h]; omega
theorem cks_nil : cks [] = [] := rfl
theorem cks_cons (c : List UInt8 × List UInt8) (l : List (List UInt8 × List UInt8)) : cks (c :: l) = ck c ++ cks l := by simp [cks]
theorem cks_append (a b : List (List UInt8 × List UInt8)) : cks (a ++ b) = cks a ++ cks b := by simp [cks]
theorem nb_append_right (a b : List UInt8) (k : Nat) : nb (a ++ b) (a.length + k) = nb b k := by
 unfold nb
 rw [List.getD_eq_getElem?_getD, List.getD_eq_getElem?_getD, List.getElem?_append_right (by omega)]
 congr 3; omega
theorem nb_append_left (a b : List UInt8) (k : Nat) (h : k < a.length) : nb (a ++ b) k = nb a k := by
 unfold nb
 rw [List.getD_eq_getElem?_getD, List.getD_eq_getElem?_getD, List.getElem?_append_left h]
end Go.Proofs.YtnpkgmgedgcjmaaGreatDoor
end
