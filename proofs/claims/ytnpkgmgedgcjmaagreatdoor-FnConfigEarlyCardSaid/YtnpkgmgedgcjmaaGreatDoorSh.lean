/- impl.shadesOf. -/
import Derived.Test.YtnpkgmgedgcjmaaGreatDoorIc
set_option linter.all false
namespace Go.Proofs.YtnpkgmgedgcjmaaGreatDoor
open Go Go.RowKit Png

@[go_sem] theorem ta141y (v : Value) (w : World) : (Instr.typeAssert (.iface 141 v) 140 141 true).run Tryz.prog w = .ok (.tuple #[v, .bool true]) w := by kernel_rfl
@[go_sem] theorem ta141n (v : Value) (w : World) : (Instr.typeAssert (.iface 142 v) 140 141 true).run Tryz.prog w = .ok (.tuple #[.agg #[.int .u8 0, .int .u8 0, .int .u8 0, .int .u8 0], .bool false]) w := by kernel_rfl
@[go_sem] theorem ta142y (v : Value) (w : World) : (Instr.typeAssert (.iface 142 v) 140 142 true).run Tryz.prog w = .ok (.tuple #[v, .bool true]) w := by kernel_rfl

/-- The cells of a shade. -/
def shadeV (r g b a : Nat) : List Value := [.int .u8 r, .int .u8 g, .int .u8 b, .int .u8 a]
def shadesV (R G U A : Nat → Nat) : Nat → List Value
  | 0 => []
  | k + 1 => shadesV R G U A k ++ shadeV (R k) (G k) (U k) (A k)

theorem new_shade (w1 : World) (n r g b a : Nat) (hn : w1.heap.size = n) : ∀ j u, (shadeV r g b a)[j]? = some u →
    (w1.alloc (Obj.cells #[.int .u8 r, .int .u8 g, .int .u8 b, .int .u8 a] 96)).cell? ((⟨n, 0, none⟩ : Addr).add j) = some u := by
  subst hn
  intro j u hu
  rw [add_addr]
  unfold World.cell?
  have := heap_alloc_new w1 (Obj.cells #[.int .u8 r, .int .u8 g, .int .u8 b, .int .u8 a] 96)
  simp only [this]
  simpa [shadeV] using hu

set_option maxHeartbeats 4000000 in
set_option maxRecDepth 100000 in
theorem shadesOf_some (B np cap : Nat) (R G U A : Nat → Nat) (w : World) (hnp : np ≤ 256) (hB : B < w.heap.size)
    (hc : ∀ k, k < np → w.cell? ⟨B, k, none⟩ = some (nrgbV (R k) (G k) (U k) (A k)) ∨ (w.cell? ⟨B, k, none⟩ = some (rgbV (R k) (G k) (U k)) ∧ A k = 255)) :
    Calls Tryz.prog 54 #[.slice (some ⟨B, 0, none⟩) np cap] w fun e w' =>
      ∃ v, e = .returned v ∧ Fr [] w w' ∧ w'.ownsRow w.heap.size 96 4 v np (shadesV R G U A np) := by
  have Hc := Lib.hid hc
  have HB := Lib.hid hB
  clear hc
  go_enter Tryz.func54, Tryz.ntmps54
  go_wp2
  go_loopg [3, 11] np (fun g v i wr => ∃ j : Nat, j + g = np ∧ i = .int .i64 j ∧ Below w.heap.size w wr ∧ wr.ownsRow w.heap.size 96 4 v j (shadesV R G U A j))
  case atStart => exact ⟨0, by omega, rfl, Below.refl _ _, World.ownsRow_nil _ _ _ _⟩
  case round =>
    obtain ⟨j, hj, rfl, hbl, hown⟩ := hrel
    have Hj := Lib.hid hj
    have Hbl := Lib.hid hbl
    have Hown := Lib.hid hown
    by_cases hlt : j < np
    · have F := Fr.of_below hbl
      have hjn : (j : Int) < (np : Int) := by omega
      have cc := Hc.out j hlt
      rw [← F.cell HB.out (by simp)] at cc
      clear hbl hown hj F hB
      rcases cc with cc | ⟨cc, ha⟩
      · unfold nrgbV at cc
        go_wp2_with (at_builtin; refine wpList_append_own _ rfl _ _ 39 rfl w.heap.size 96 Tryz.t96 (.agg #[.int .u8 0, .int .u8 0, .int .u8 0, .int .u8 0]) 4 4 Tryz.underlying39 (by kernel_rfl) (by kernel_rfl) (by kernel_rfl) (by kernel_rfl) rfl (by decide) _ j (shadesV R G U A j) rfl ((Hown.out.alloc _).alloc _) ⟨wr.heap.size + 1, 0, none⟩ 1 1 (shadeV (R j) (G j) (U j) (A j)) rfl rfl ?_ (by intro u hu; simp [shadeV] at hu; rcases hu with rfl | rfl | rfl | rfl <;> rfl) (by simp only [maxLen]; omega) (by omega) (by have := Hbl.out.size; simp; omega) ?_)
        · exact new_shade _ _ _ _ _ _ (by simp)
        · intro v' w' ho hg hn
          have Ho := Lib.hid ho
          have Hg := Lib.hid hg
          clear ho hg hn
          go_wp2
          go_roundg (gk - 1)
          case measure => have := Hj.out; omega
          case rel =>
            have := Hj.out
            have h1 := Hbl.out.size
            refine ⟨j + 1, by omega, by go_num, ?_, Ho.out⟩
            exact (((Hbl.out.alloc h1 _).alloc (by simp; omega) _).grown Hg.out (by simp; omega) (fun k hk => (Hown.out.lt k hk).1))
      · unfold rgbV at cc
        have Ha := Lib.hid ha
        clear ha
        go_wp2_with (at_builtin; refine wpList_append_own _ rfl _ _ 39 rfl w.heap.size 96 Tryz.t96 (.agg #[.int .u8 0, .int .u8 0, .int .u8 0, .int .u8 0]) 4 4 Tryz.underlying39 (by kernel_rfl) (by kernel_rfl) (by kernel_rfl) (by kernel_rfl) rfl (by decide) _ j (shadesV R G U A j) rfl ((Hown.out.alloc _).alloc _) ⟨wr.heap.size + 1, 0, none⟩ 1 1 (shadeV (R j) (G j) (U j) 255) rfl rfl ?_ (by intro u hu; simp [shadeV] at hu; rcases hu with rfl | rfl | rfl | rfl <;> rfl) (by simp only [maxLen]; omega) (by omega) (by have := Hbl.out.size; simp; omega) ?_)
        · exact new_shade _ _ _ _ _ _ (by simp)
        · intro v' w' ho hg hn
          have Ho := Lib.hid ho
          have Hg := Lib.hid hg
          clear ho hg hn
          go_wp2
          go_roundg (gk - 1)
          case measure => have := Hj.out; omega
          case rel =>
            have := Hj.out
            have h1 := Hbl.out.size
            refine ⟨j + 1, by omega, by go_num, ?_, (by have := Ho.out; unfold shadesV; rw [Ha.out]; exact this)⟩
            exact (((Hbl.out.alloc h1 _).alloc (by simp; omega) _).grown Hg.out (by simp; omega) (fun k hk => (Hown.out.lt k hk).1))
    · have hjn : j = np := by have := Hj.out; omega
      subst hjn
      clear hbl hown hj hlt
      go_wp2
      go_ret
      exact ⟨_, rfl, Fr.of_below Hbl.out, Hown.out⟩

set_option maxHeartbeats 1000000 in
set_option maxRecDepth 100000 in
theorem shadesOf_nil (w : World) :
    Calls Tryz.prog 54 #[.slice none 0 0] w fun e w' => e = .returned (.slice none 0 0) ∧ w = w' := by
  go_enter Tryz.func54, Tryz.ntmps54
  go_wp2
  refine wp_loop_rounds 1 ?_
  rw [rounds_succ]
  go_wp2
  go_ret
  exact ⟨rfl, rfl⟩
end Go.Proofs.YtnpkgmgedgcjmaaGreatDoor
