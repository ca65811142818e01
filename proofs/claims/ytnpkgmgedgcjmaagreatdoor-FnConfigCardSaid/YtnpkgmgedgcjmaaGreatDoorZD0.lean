/- A part of the proof: D0, D4. -/
import Derived.Deep.RegionLaw
import Derived.Test.YtnpkgmgedgcjmaaGreatDoorZDa
import Derived.Test.YtnpkgmgedgcjmaaGreatDoorZDc
import Derived.Test.YtnpkgmgedgcjmaaGreatDoorZDe
import Derived.Test.YtnpkgmgedgcjmaaGreatDoorZDf
import Derived.Test.YtnpkgmgedgcjmaaGreatDoorZW6
import Derived.Test.YtnpkgmgedgcjmaaGreatDoorZWc
set_option linter.all false
section
namespace Go.Proofs.YtnpkgmgedgcjmaaGreatDoor
open Go Go.RowKit Png
theorem pal_dots (p : Option Addr) (n cap : Nat) (R G U A : Nat → Nat) (w : World) (h : Pal w p n R G U A) (hn : n ≤ 2147483647) :
  Calls Tryz.prog 30 #[.slice p n cap] w fun e w' => ∃ q c, e = .returned (.slice q n c) ∧ Od w' w.heap.size q n c (q4s R G U A n) ∧ Below w.heap.size w w' := by
 rcases h with rfl | ⟨b, off, rfl, hb, hs⟩
 ·
  go_enter Tryz.func30, Tryz.ntmps30
  go_wp2
  refine wp_loop_rounds 1 ?_
  rw [rounds_succ]
  go_wp2
  go_ret
  exact ⟨_, _, rfl, ⟨rfl, World.ownsRow_made w #[] 0 (Nat.le_refl _) (by simp) rfl⟩, (Below.refl _ _).alloc (Nat.le_refl _) _⟩
 ·
  exact dots_ok b off n cap R G U A w hs hb hn
theorem Od.at {w : World} {base g n cap : Nat} {l : List Q4} (h : Od w base (some ⟨g, 0, Option.none⟩) n cap l) : DotsAt w g l := fun _ hk => h.cells hk
theorem Od.ptr {w : World} {base n cap : Nat} {p : Option Addr} {l : List Q4} (h : Od w base p n cap l) (h0 : 0 < n) : ∃ g, p = some ⟨g, 0, Option.none⟩ ∧ base ≤ g ∧ g < w.heap.size ∧ n ≤ cap ∧ cap ≤ 9223372036854775807 := by
 obtain ⟨g, c, hv, _⟩ := h.2.form h0
 injection hv with hv hn hc
 have hlt := owns_lt h.2 g (by rw [hv]; rfl)
 rcases h.2.2 with ⟨e, _⟩ | ⟨g', c', cur, e, hb, hh, h1, h2, h3⟩
 ·
  cases e; omega
 ·
  injection e with e1 e2 e3
  subst e3
  exact ⟨g, hv, hlt.1, hlt.2, h1, Nat.le_trans h2 (by decide)⟩
theorem Fr.to_below {w w' : World} (h : Fr [] w w') : Below w.heap.size w w' := ⟨h.os, h.tape, h.output, h.size, fun k hk => h.block k hk (by simp)⟩
theorem shadesV_length' (R G U A : Nat → Nat) (n : Nat) : (shadesV R G U A n).length = 4 * n := by
 induction n with
 | zero => rfl
 | succ n ih => simp [shadesV, shadeV, ih]; omega
theorem shadesV_get (R G U A : Nat → Nat) (n : Nat) : ∀ k, k < n → (shadesV R G U A n)[k * 4]? = some (.int .u8 (R k : Nat)) ∧ (shadesV R G U A n)[k * 4 + 1]? = some (.int .u8 (G k : Nat)) ∧
  (shadesV R G U A n)[k * 4 + 2]? = some (.int .u8 (U k : Nat)) ∧ (shadesV R G U A n)[k * 4 + 3]? = some (.int .u8 (A k : Nat)) := by
 induction n with
 | zero => intro k h; omega
 | succ n ih =>
  intro k hk
  have hl := shadesV_length' R G U A n
  simp only [shadesV]
  by_cases h : k < n
  ·
   obtain ⟨h0, h1, h2, h3⟩ := ih k h
   rw [List.getElem?_append_left (by omega), List.getElem?_append_left (by omega), List.getElem?_append_left (by omega), List.getElem?_append_left (by omega)]
   exact ⟨h0, h1, h2, h3⟩
  ·
   have hkn : k = n := by omega
   subst hkn
   rw [List.getElem?_append_right (by omega), List.getElem?_append_right (by omega), List.getElem?_append_right (by omega), List.getElem?_append_right (by omega), hl]
   rw [show k * 4 - 4 * k = 0 by omega, show k * 4 + 1 - 4 * k = 1 by omega, show k * 4 + 2 - 4 * k = 2 by omega, show k * 4 + 3 - 4 * k = 3 by omega]
   exact ⟨rfl, rfl, rfl, rfl⟩
theorem shades_of {w : World} {base np g c : Nat} {R G U A : Nat → Nat} (h : w.ownsRow base 96 4 (.slice (some ⟨g, 0, none⟩) np c) np (shadesV R G U A np)) (hb : ∀ k, k < np → R k < 256 ∧ G k < 256 ∧ U k < 256 ∧ A k < 256) : Shades w g 0 np R G U A := fun k hk => by
 obtain ⟨g0, g1, g2, g3⟩ := shadesV_get R G U A np k hk
 refine ⟨?_, ?_, ?_, ?_, hb k hk⟩
 ·
  rw [Nat.zero_add, h.cellAt _ (by omega)]; exact g0
 ·
  rw [Nat.zero_add, h.cellAt _ (by omega)]; exact g1
 ·
  rw [Nat.zero_add, h.cellAt _ (by omega)]; exact g2
 ·
  rw [Nat.zero_add, h.cellAt _ (by omega)]; exact g3
end Go.Proofs.YtnpkgmgedgcjmaaGreatDoor
end
section
namespace Go.Proofs.YtnpkgmgedgcjmaaGreatDoor
open Go Go.RowKit Png
theorem dotsW_ok (W H dp ct sb ns scap dN dcap cN ccap N : Nat) (il : Bool) (zs : List Nat) (ds : List Q4) (cs : List Nat) (pd pc : Option Addr) (w : World)
  (hk : Kinds ct dp) (hN : N ≤ 16384) (hz : IntsAt w sb zs) (hsb : sb < w.heap.size) (hl : zs.length = ns)
  (hns : ns = N * chan ct) (hcap : ns ≤ scap) (hcap2 : scap ≤ 9223372036854775807) (hv : ∀ k, zs.getD k 0 ≤ 65535)
  (hd : 0 < dN → ∃ db, pd = some ⟨db, 0, none⟩ ∧ db < w.heap.size ∧ DotsAt w db ds) (hdl : ds.length = dN) (hdn : dN ≤ 256)
  (hc : 0 < cN → ∃ cb, pc = some ⟨cb, 0, none⟩ ∧ cb < w.heap.size ∧ IntsAt w cb cs) (hcl : cs.length = cN) (hcn : cN ≤ 4) :
  Calls Tryz.prog 37 #[.agg #[.int .i64 W, .int .i64 H, .int .i64 dp, .int .i64 ct, .bool il], .slice (some ⟨sb, 0, none⟩) ns scap, .slice pd dN dcap, .slice pc cN ccap] w fun e w' =>
   ∃ p n c s, e = .returned (.tuple #[.slice p n c, .int .i64 s]) ∧ Below w.heap.size w w' := by
 rcases hk.ct with h | h | h | h | h
 ·
  exact dotsW_a W H dp ct sb ns scap dN dcap cN ccap N il zs ds cs pd pc w (.inl h) hk hN hz hsb hl hns hcap hcap2 hv hd hdl hdn hc hcl hcn
 ·
  exact dotsW_a W H dp ct sb ns scap dN dcap cN ccap N il zs ds cs pd pc w (.inr h) hk hN hz hsb hl hns hcap hcap2 hv hd hdl hdn hc hcl hcn
 ·
  exact dotsW_b W H dp ct sb ns scap dN dcap cN ccap N il zs ds cs pd pc w (.inl h) hk hN hz hsb hl hns hcap hcap2 hv hd hdl hdn hc hcl hcn
 ·
  exact dotsW_b W H dp ct sb ns scap dN dcap cN ccap N il zs ds cs pd pc w (.inr h) hk hN hz hsb hl hns hcap hcap2 hv hd hdl hdn hc hcl hcn
 ·
  exact dotsW_c W H dp ct sb ns scap dN dcap cN ccap N il zs ds cs pd pc w h hk hN hz hsb hl hns hcap hcap2 hv hd hdl hdn hc hcl hcn
end Go.Proofs.YtnpkgmgedgcjmaaGreatDoor
namespace Go.Proofs.YtnpkgmgedgcjmaaGreatDoor
open Go Go.RowKit Png
theorem Oi.ptr2 {w : World} {base n cap : Nat} {p : Option Addr} {l : List Nat} (h : Oi w base p n cap l) (h0 : 0 < n) : ∃ g, p = some ⟨g, 0, Option.none⟩ ∧ base ≤ g ∧ g < w.heap.size ∧ n ≤ cap ∧ cap ≤ 9223372036854775807 := by
 obtain ⟨g, c, hv, _⟩ := h.2.form h0
 injection hv with hv hn hc
 have hlt := owns_lt h.2 g (by rw [hv]; rfl)
 rcases h.2.2 with ⟨e, _⟩ | ⟨g', c', cur, e, hb, hh, h1, h2, h3⟩
 ·
  cases e; omega
 ·
  injection e with e1 e2 e3
  subst e3
  exact ⟨g, hv, hlt.1, hlt.2, h1, Nat.le_trans h2 (by decide)⟩
theorem Oi.ints {w : World} {base g n cap : Nat} {l : List Nat} (h : Oi w base (some ⟨g, 0, Option.none⟩) n cap l) : IntsAt w g l := fun k hk => by
 have hl := h.1
 rw [h.2.cellAt k (by omega)]
 simp [nvals, List.getElem?_eq_getElem hk, List.getD_eq_getElem?_getD]
end Go.Proofs.YtnpkgmgedgcjmaaGreatDoor
end
