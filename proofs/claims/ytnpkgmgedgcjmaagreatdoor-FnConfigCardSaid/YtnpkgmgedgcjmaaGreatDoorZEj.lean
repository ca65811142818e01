/- A part of the proof: Ej. -/
import Derived.Test.YtnpkgmgedgcjmaaGreatDoorZD0
import Derived.Test.YtnpkgmgedgcjmaaGreatDoorZEe
import Derived.Test.YtnpkgmgedgcjmaaGreatDoorZEi
set_option linter.all false
set_option maxRecDepth 100000
section
namespace Go.Proofs.YtnpkgmgedgcjmaaGreatDoor
open Go Go.RowKit Png Go.Proofs.YtnpkgmgedgcjmaaGreatDoorW.PrintWords Go.Proofs.YtnpkgmgedgcjmaaGreatDoorW.PrintMore Go.Proofs.YtnpkgmgedgcjmaaGreatDoor.Pr
theorem own_ne {w : World} {b b' : Nat} {e e' : TypeId} {sz sz' n n' : Nat} {v v' : Value} {xs xs' : List Value} (h : w.ownsRow b e sz v n xs) (h' : w.ownsRow b' e' sz' v' n' xs') (hne : e ≠ e') : ∀ j, v.ownBlock = some j → v'.ownBlock ≠ some j := by
 intro j hj hj'
 rcases h.2 with ⟨rfl, _⟩ | ⟨g, cap, cur, rfl, _, hh, _⟩
 ·
  simp [Value.ownBlock] at hj
 ·
  have e1 : g = j := by simpa [Value.ownBlock] using hj
  subst e1
  exact own_blk_ne (t := e) h' (show Blk w g e cur from hh) (Ne.symm hne) hj'
def rdCells (s : RS) (used : Nat) (v5 : Value) (pp : Option Addr) (pn pc : Nat) (cp : Option Addr) (cn cc : Nat) (rp : Option Addr) (rn rc : Nat) : Array Value :=
 #[.int .i64 (s.W : Int), .int .i64 (s.H : Int), .int .i64 (s.dp : Int), .int .i64 (s.ct : Int), .bool s.il, v5, .slice pp pn pc, .slice cp cn cc, .int .i64 (used : Int), .int .i64 0, .int .i64 (s.stage : Int), .slice rp rn rc]
structure RD (w0 w : World) (f : Nat) (s : RS) (used : Nat) (v5 : Value) (pp : Option Addr) (pn pc : Nat) (cp : Option Addr) (cn cc : Nat) (rp : Option Addr) (rn rc : Nat) : Prop where
 blk : Blk w f 90 (rdCells s used v5 pp pn pc cp cn cc rp rn rc)
 sl : Sl v5
 pal : Od w w0.heap.size pp pn pc s.pal
 clear : Oi w w0.heap.size cp cn cc s.clear
 rest : Ob w w0.heap.size rp rn rc s.rest
 low : Below w0.heap.size w0 w
 ge : w0.heap.size ≤ f
section
variable {w0 w w' : World} {f : Nat} {s s2 : RS} {used used2 : Nat} {v5 v52 : Value} {pp pp2 : Option Addr} {pn pc pn2 pc2 : Nat} {cp cp2 : Option Addr} {cn cc cn2 cc2 : Nat} {rp rp2 : Option Addr} {rn rc rn2 rc2 : Nat}
theorem RD.lt (h : RD w0 w f s used v5 pp pn pc cp cn cc rp rn rc) : f < w.heap.size := h.blk.lt
theorem RD.below (h : RD w0 w f s used v5 pp pn pc cp cn cc rp rn rc) (hb : Below w.heap.size w w') : RD w0 w' f s used v5 pp pn pc cp cn cc rp rn rc :=
 ⟨h.blk.below hb h.blk.lt, h.sl, h.pal.kept hb, h.clear.kept hb, h.rest.kept hb, h.low.trans (hb.mono h.low.size), h.ge⟩
theorem RD.drewN (h : RD w0 w f s used v5 pp pn pc cp cn cc rp rn rc) (n : Nat) : RD w0 (w.drewN n) f s used v5 pp pn pc cp cn cc rp rn rc :=
 h.below (pw_below_drewN (Below.refl _ _) n)
theorem RD.drew (h : RD w0 w f s used v5 pp pn pc cp cn cc rp rn rc) : RD w0 w.drew f s used v5 pp pn pc cp cn cc rp rn rc := h.drewN 1
theorem RD.alloc (h : RD w0 w f s used v5 pp pn pc cp cn cc rp rn rc) (o : Obj) : RD w0 (w.alloc o) f s used v5 pp pn pc cp cn cc rp rn rc := h.below ((Below.refl _ _).alloc (Nat.le_refl _) _)
theorem RD.cells (h : RD w0 w f s used v5 pp pn pc cp cn cc rp rn rc) :
  w.cell? ⟨f, 0, none⟩ = some (.int .i64 (s.W : Int)) ∧ w.cell? ⟨f, 1, none⟩ = some (.int .i64 (s.H : Int)) ∧ w.cell? ⟨f, 2, none⟩ = some (.int .i64 (s.dp : Int)) ∧ w.cell? ⟨f, 3, none⟩ = some (.int .i64 (s.ct : Int)) ∧ w.cell? ⟨f, 4, none⟩ = some (.bool s.il) ∧ w.cell? ⟨f, 5, none⟩ = some v5 ∧
  w.cell? ⟨f, 6, none⟩ = some (.slice pp pn pc) ∧ w.cell? ⟨f, 7, none⟩ = some (.slice cp cn cc) ∧ w.cell? ⟨f, 8, none⟩ = some (.int .i64 (used : Int)) ∧ w.cell? ⟨f, 9, none⟩ = some (.int .i64 0) ∧ w.cell? ⟨f, 10, none⟩ = some (.int .i64 (s.stage : Int)) ∧ w.cell? ⟨f, 11, none⟩ = some (.slice rp rn rc) ∧
  (∀ o, w.frozen? ⟨f, o, none⟩ = false) ∧ (∀ o, o < 12 → hasCell w ⟨f, o, none⟩ = true) :=
 ⟨h.blk.cell 0, h.blk.cell 1, h.blk.cell 2, h.blk.cell 3, h.blk.cell 4, h.blk.cell 5, h.blk.cell 6, h.blk.cell 7, h.blk.cell 8, h.blk.cell 9, h.blk.cell 10, h.blk.cell 11, fun o => h.blk.frozen o, fun o ho => by
  unfold hasCell
  rw [h.blk.cell o, Array.getElem?_eq_getElem (show o < (rdCells s used v5 pp pn pc cp cn cc rp rn rc).size from ho)]
  rfl⟩
theorem RD.put (h : Blk w f 90 (rdCells s used v5 pp pn pc cp cn cc rp rn rc)) (hl : Below w0.heap.size w0 w) (hg : w0.heap.size ≤ f) (hp : Od w w0.heap.size pp2 pn2 pc2 s2.pal) (hq : Oi w w0.heap.size cp2 cn2 cc2 s2.clear) (hr : Ob w w0.heap.size rp2 rn2 rc2 s2.rest) (hs : Sl v52)
  (k : Nat) (v : Value) (hc : (rdCells s used v5 pp pn pc cp cn cc rp rn rc).setIfInBounds k v = rdCells s2 used2 v52 pp2 pn2 pc2 cp2 cn2 cc2 rp2 rn2 rc2) :
  RD w0 (w.setCell ⟨f, k, none⟩ v) f s2 used2 v52 pp2 pn2 pc2 cp2 cn2 cc2 rp2 rn2 rc2 := by
 have hb := h.set_ k v
 rw [hc] at hb
 refine ⟨hb, hs, ?_, ?_, ?_, hl.setCell (p := ⟨f, k, none⟩) hg v, hg⟩
 ·
  exact hp.keep fun j hj => Below.heap_setCell w ⟨f, k, none⟩ v j (fun e => own_blk_ne hp.2 h (by decide) (by rw [ownBlock_slice, hj]; exact congrArg some e))
 ·
  exact hq.keep fun j hj => Below.heap_setCell w ⟨f, k, none⟩ v j (fun e => own_blk_ne hq.2 h (by decide) (by rw [ownBlock_slice, hj]; exact congrArg some e))
 ·
  exact hr.keep fun j hj => Below.heap_setCell w ⟨f, k, none⟩ v j (fun e => own_blk_ne hr.2 h (by decide) (by rw [ownBlock_slice, hj]; exact congrArg some e))
theorem RD.far (h : RD w0 w f s used v5 pp pn pc cp cn cc rp rn rc) (k : Nat) (v : Value) (hc : (rdCells s used v5 pp pn pc cp cn cc rp rn rc).setIfInBounds k v = rdCells s2 used2 v52 pp pn pc cp cn cc rp rn rc) (hs : Sl v52) (h1 : s2.pal = s.pal) (h2 : s2.clear = s.clear) (h3 : s2.rest = s.rest) :
  RD w0 (w.setCell ⟨f, k, none⟩ v) f s2 used2 v52 pp pn pc cp cn cc rp rn rc :=
 RD.put h.blk h.low h.ge (by rw [h1]; exact h.pal) (by rw [h2]; exact h.clear) (by rw [h3]; exact h.rest) hs k v hc
theorem RD.grownBlk (h : RD w0 w f s used v5 pp pn pc cp cn cc rp rn rc) {row : Option Nat} (hg : w.grownBy w' row) (hr : row = pp.map (·.block) ∨ row = cp.map (·.block) ∨ row = rp.map (·.block)) :
  Blk w' f 90 (rdCells s used v5 pp pn pc cp cn cc rp rn rc) ∧ Below w0.heap.size w0 w' := by
 have hn : some f ≠ row := by
  rcases hr with rfl | rfl | rfl
  ·
   exact fun e => own_blk_ne h.pal.2 h.blk (by decide) (by rw [ownBlock_slice]; exact e.symm)
  ·
   exact fun e => own_blk_ne h.clear.2 h.blk (by decide) (by rw [ownBlock_slice]; exact e.symm)
  ·
   exact fun e => own_blk_ne h.rest.2 h.blk (by decide) (by rw [ownBlock_slice]; exact e.symm)
 refine ⟨h.blk.grown hg hn, h.low.grown hg h.low.size fun j hj => ?_⟩
 rcases hr with rfl | rfl | rfl
 ·
  exact (owns_lt h.pal.2 j hj).1
 ·
  exact (owns_lt h.clear.2 j hj).1
 ·
  exact (owns_lt h.rest.2 j hj).1
theorem RD.keepPal (h : RD w0 w f s used v5 pp pn pc cp cn cc rp rn rc) {row : Option Nat} (hg : w.grownBy w' row) (hr : row = cp.map (·.block) ∨ row = rp.map (·.block)) : Od w' w0.heap.size pp pn pc s.pal := by
 refine h.pal.keep fun j hj => hg.block j (owns_lt h.pal.2 j hj).2 fun e => ?_
 rcases hr with rfl | rfl
 ·
  exact own_ne h.pal.2 h.clear.2 (by decide) j (by rw [ownBlock_slice]; exact hj) (by rw [ownBlock_slice]; exact e.symm)
 ·
  exact own_ne h.pal.2 h.rest.2 (by decide) j (by rw [ownBlock_slice]; exact hj) (by rw [ownBlock_slice]; exact e.symm)
theorem RD.keepClear (h : RD w0 w f s used v5 pp pn pc cp cn cc rp rn rc) {row : Option Nat} (hg : w.grownBy w' row) (hr : row = pp.map (·.block) ∨ row = rp.map (·.block)) : Oi w' w0.heap.size cp cn cc s.clear := by
 refine h.clear.keep fun j hj => hg.block j (owns_lt h.clear.2 j hj).2 fun e => ?_
 rcases hr with rfl | rfl
 ·
  exact own_ne h.clear.2 h.pal.2 (by decide) j (by rw [ownBlock_slice]; exact hj) (by rw [ownBlock_slice]; exact e.symm)
 ·
  exact own_ne h.clear.2 h.rest.2 (by decide) j (by rw [ownBlock_slice]; exact hj) (by rw [ownBlock_slice]; exact e.symm)
theorem RD.keepRest (h : RD w0 w f s used v5 pp pn pc cp cn cc rp rn rc) {row : Option Nat} (hg : w.grownBy w' row) (hr : row = pp.map (·.block) ∨ row = cp.map (·.block)) : Ob w' w0.heap.size rp rn rc s.rest := by
 refine h.rest.keep fun j hj => hg.block j (owns_lt h.rest.2 j hj).2 fun e => ?_
 rcases hr with rfl | rfl
 ·
  exact own_ne h.rest.2 h.pal.2 (by decide) j (by rw [ownBlock_slice]; exact hj) (by rw [ownBlock_slice]; exact e.symm)
 ·
  exact own_ne h.rest.2 h.clear.2 (by decide) j (by rw [ownBlock_slice]; exact hj) (by rw [ownBlock_slice]; exact e.symm)
end
def ChunkP (w0 w' : World) (f : Nat) (s : RS) (used : Nat) (nm b : List UInt8) (e : Ending) : Prop :=
 ∃ (st : Int) (s' : RS) (v52 : Value) (pp2 : Option Addr) (pn2 pc2 : Nat) (cp2 : Option Addr) (cn2 cc2 : Nat) (rp2 : Option Addr) (rn2 rc2 : Nat), e = .returned (.int .i64 st) ∧ RD w0 w' f s' used v52 pp2 pn2 pc2 cp2 cn2 cc2 rp2 rn2 rc2 ∧ (st = 0 → StepG s nm b s')
theorem ChunkP.mk {w0 w' : World} {f : Nat} {s : RS} {used : Nat} {nm b : List UInt8} {st : Int} (s' : RS) {v52 : Value} {pp2 : Option Addr} {pn2 pc2 : Nat} {cp2 : Option Addr} {cn2 cc2 : Nat} {rp2 : Option Addr} {rn2 rc2 : Nat} (h : RD w0 w' f s' used v52 pp2 pn2 pc2 cp2 cn2 cc2 rp2 rn2 rc2) (hs : st = 0 → StepG s nm b s') : ChunkP w0 w' f s used nm b (.returned (.int .i64 st)) :=
 ⟨st, s', v52, pp2, pn2, pc2, cp2, cn2, cc2, rp2, rn2, rc2, rfl, h, hs⟩
theorem ChunkP.no {w0 w' : World} {f : Nat} {s s' : RS} {used : Nat} {nm b : List UInt8} {st : Int} (hst : st ≠ 0) {v52 : Value} {pp2 : Option Addr} {pn2 pc2 : Nat} {cp2 : Option Addr} {cn2 cc2 : Nat} {rp2 : Option Addr} {rn2 rc2 : Nat} (h : RD w0 w' f s' used v52 pp2 pn2 pc2 cp2 cn2 cc2 rp2 rn2 rc2) : ChunkP w0 w' f s used nm b (.returned (.int .i64 st)) :=
 .mk s' h fun h => absurd h hst
theorem step_appD {w : World} {ops : Array Oper} {o : Oper} {a : Act} {K : Act → World → Prop} {Q : Exit → Act → World → Prop} {E : Prop} (hgd : o.guard = none) (s x : Operand)
  (ho : o.op = .call { callee := .builtin .append, args := #[s, x], argTypes := #[28, 28] })
  (base n cap m c : Nat) (p p2 : Option Addr) (l l2 : List Q4) (hs : a.eval s = .slice p n cap) (hx : a.eval x = .slice p2 m c) (hown : Od w base p n cap l)
  (B : Nat) (hr : Reads w B 4 p2 m (dvals l2)) (hbd : n + m ≤ 4398046511104) (hbase : base ≤ w.heap.size)
  (h : ∀ p' cap' w', Od w' base p' (n + m) cap' (l ++ l2) → w.grownBy w' (p.map (·.block)) → (p'.map (·.block) = p.map (·.block) ∨ p'.map (·.block) = some w.heap.size) → K (a.put o.dst (.slice p' (n + m) cap')) w') :
  if Region.wanted o (yielded ops a.tmps) = true then Oper.wp Tryz.prog o a w K Q else E := by
 refine step_append_any w hgd s x 28 ho base 75 Tryz.t75 (.agg #[.int .i64 0, .int .i64 0, .int .i64 0, .int .i64 0]) 4 32 Tryz.underlying28 (by kernel_rfl) (by kernel_rfl) (by kernel_rfl) (by kernel_rfl) rfl (by decide)
  (.slice p n cap) n (dvals l) hs hown.2 B p2 m c (dvals l2) hx hr (dvals_one l2) (by simp only [maxLen]; omega) (by omega) hbase ?_
 intro v' w' h1 h2 h3
 obtain ⟨p', cap', rfl⟩ := owns_slice h1
 rw [ownBlock_slice] at h2 h3
 rw [ownBlock_slice] at h3
 have hl : l2.length = m := by have := hr.1; simp at this; omega
 exact h p' cap' w' ⟨by simp [hown.1, hl], by rw [dvals_append]; exact h1⟩ h2 h3
theorem R_at0 {w : World} {base : Nat} {ok : Nat → Prop} {A : Option Addr} {n c : Nat} {xs : List Nat} (h : Kd.R (Kd.int .i64) 3 w base ok (.slice A n c) (nats xs)) (h0 : 0 < xs.length) :
  n = xs.length ∧ n ≤ c ∧ c ≤ 9223372036854775807 ∧ ∃ g, A = some ⟨g, 0, none⟩ ∧ base ≤ g ∧ g < w.heap.size ∧ IntsAt w g xs := by
 obtain ⟨h1, h2, ab, ao, rfl, hc⟩ := R_at h h0
 obtain ⟨g, cap, he, hb, hl, _⟩ := Kd.R_form h (by rw [nats_length]; exact h0)
 obtain ⟨inner, ho⟩ := Kd.R_own h
 injection he with e1 e2 e3
 have e1 := Option.some.inj e1
 injection e1 with e4 e5
 subst e4
 subst e5
 refine ⟨h1, h2, ?_, ab, rfl, hb, hl, fun k hk => by have := hc k hk; rwa [Nat.zero_add] at this⟩
 rcases ho.2 with ⟨e, _⟩ | ⟨g', c', cur, e, hb', hh, k1, k2, k3⟩
 ·
  cases e
 ·
  injection e with e7 e8 e9
  subst e9
  exact Nat.le_trans k2 (by decide)
theorem unpackM_most (l : List UInt8) (most : Nat) : (unpackM l most).2 = 0 → (unpackM l most).1.length ≤ most := by
 unfold unpackM
 split
 ·
  intro h; cases h
 ·
  split
  ·
   intro h; cases h
  ·
   simp only
   split
   ·
    rename_i h; intro h'; exact absurd h' h
   ·
    rename_i h
    split
    ·
     intro h; cases h
    ·
     split
     ·
      intro h; cases h
     ·
      intro _; exact infM_most _ _ _ _ _ _ (by omega)
set_option maxHeartbeats 8000000 in
theorem pixels_c {w0 w : World} {f : Nat} {s : RS} {used : Nat} {v5 : Value} {pp : Option Addr} {pn pc : Nat} {cp : Option Addr} {cn cc : Nat} {rp : Option Addr} {rn rc : Nat} (h : RD w0 w f s used v5 pp pn pc cp cn cc rp rn rc) (ho : Okay s) (hpn : s.pal.length ≤ 256) (hcn : s.clear.length ≤ 4) (hl : s.rest.length ≤ 1073741824) :
  Calls Tryz.prog 59 #[.pointer (some ⟨f, 0, none⟩), .slice rp rn rc] w fun e w' => ∃ (st : Int) (v52 : Value), e = .returned (.int .i64 st) ∧ RD w0 w' f s used v52 pp pn pc cp cn cc rp rn rc := by
 obtain ⟨W, H, dp, ct, il, pal, clr, stage, rest⟩ := s
 have hrn : rest.length = rn := h.rest.1
 subst hrn
 have hpn2 : pal.length = pn := h.pal.1
 have hcn2 : clr.length = cn := h.clear.1
 obtain ⟨c0, c1, c2, c3, c4, c5, c6, c7, c8, c9, c10, c11, fz, hs⟩ := h.cells
 dsimp only at c0 c1 c2 c3 c4 hpn hcn hl
 obtain ⟨hk, hW, hH, hWH, hW1, hH1⟩ := ho
 dsimp only at hk hW hH hWH hW1 hH1
 have hdb := hk.bounds.1
 have hdps := hk.dps
 have hch := (chan_le ct).1
 have htop := hk.tops.2
 have hNN : 1 ≤ W * H := Nat.mul_pos hW1 hH1
 have hZ1 : 1 ≤ W * H * chan ct := Nat.mul_pos hNN hch
 have HR := Lib.hid h
 have HN := Lib.hid (need_c W H dp ct il hdb hW hH hWH w)
 have hnl := needM_le W H dp ct il hdb hW hH hWH
 generalize needM W H dp ct il = N at HN hnl
 have hum := unpackM_most rest N
 have HU := Lib.hid (fun (W' : World) (hA : Bsl W' rp rest) => unpack_c hA h.rest.nle hl N (by omega))
 generalize unpackM rest N = U at HU hum
 obtain ⟨ud, us⟩ := U
 dsimp only at HU hum
 have hsm := samplesM_facts W H dp ct il (ints ud) (Byt_ints ud) hdps
 have HS := Lib.hid (fun (W' : World) (A : Option Addr) (c : Nat) (hA : Bsl W' A ud) (hc : ud.length ≤ c) (hlu : ud.length ≤ 1000000000) => samples_c hA hc W H dp ct il hdps hW hH hWH hlu)
 generalize samplesM W H dp ct il (ints ud) = Z at HS hsm
 obtain ⟨zl, zs⟩ := Z
 dsimp only at HS hsm
 have Hum := Lib.hid hum
 have Hsm := Lib.hid hsm
 have Hk := Lib.hid hk
 have HWH := Lib.hid hWH
 have Hhh := Lib.hid (And.intro hdps (And.intro htop (And.intro hZ1 (And.intro hNN (And.intro hpn2 (And.intro hcn2 (And.intro hpn hcn)))))))
 clear h hum hsm hk hdps htop hZ1 hNN hpn2 hcn2 hpn hcn hWH c5 c6 c7 c8 c9 c10 c11 hch
 go_enter Tryz.func59, Tryz.ntmps59
 go_wp2_with fail
 refine HN.out.mono ?_
 rintro e w1 ⟨rfl, hb⟩
 have HR1 := Lib.hid (HR.out.below hb)
 clear hb HN c0 c1 c2 c3 c4 fz hs
 go_wp2_with fail
 refine (HU.out w1 HR1.out.rest.bsl).mono ?_
 rintro e w2 ⟨p2, n2, q2, rfl, hO2, hb2⟩
 have HR2 := Lib.hid (HR1.out.below hb2)
 have hn2 : ud.length = n2 := hO2.1
 subst hn2
 have HO2 := Lib.hid hO2
 clear hO2 hb2 HU
 by_cases hus : us = 0
 ·
  have husi : ((us : Int) != 0) = false := by simp; omega
  have hul : ud.length ≤ 1000000000 := by have := Hum.out hus; omega
  have Hus := Lib.hid hus
  clear hus
  obtain ⟨c0, c1, c2, c3, c4, c5, c6, c7, c8, c9, c10, c11, fz, hs⟩ := HR2.out.cells
  dsimp only at c0 c1 c2 c3 c4
  clear c5 c6 c7 c8 c9 c10 c11
  go_wp2_with fail
  refine (HS.out w2 p2 q2 HO2.out.bsl HO2.out.nle hul).mono ?_
  rintro e w3 ⟨p3, n3, q3, rfl, hR3, hb3⟩
  have HR3 := Lib.hid (HR2.out.below hb3)
  have HRo := Lib.hid hR3
  clear hR3 hb3 HS c0 c1 c2 c3 c4 fz hs
  by_cases hzs : zs = 0
  ·
   have hzsi : ((zs : Int) != 0) = false := by simp; omega
   obtain ⟨hz1, hz2⟩ := Hsm.out hzs
   have Hzs := Lib.hid hzs
   clear hzs
   obtain ⟨e3, hq3, hq3b, g3, rfl, hg3, hg3l, hI3⟩ := R_at0 HRo.out (by have := Hhh.out.2.2.1; omega)
   subst e3
   have HD : Hid (∀ W' : World, Dr w3 W' → Calls Tryz.prog 37 #[.agg #[.int .i64 (W : Int), .int .i64 (H : Int), .int .i64 (dp : Int), .int .i64 (ct : Int), .bool il], .slice (some ⟨g3, 0, none⟩) zl.length q3, .slice pp pn pc, .slice cp cn cc] W' fun e w' =>
     ∃ p n c st, e = .returned (.tuple #[.slice p n c, .int .i64 st]) ∧ Below w3.heap.size w3 w') := Lib.hid fun W' hW' => by
    obtain ⟨kk, rfl⟩ := hW'
    have hx := dotsW_ok W H dp ct g3 zl.length q3 pn pc cn cc (W * H) il zl pal clr pp cp (w3.drewN kk) Hk.out HWH.out hI3 hg3l rfl hz1 hq3 hq3b
     (fun k => by
      rw [List.getD_eq_getElem?_getD]
      rcases hgk : zl[k]? with _ | v
      ·
       simp
      ·
       have h1 := hz2 v (List.mem_of_getElem? hgk)
       have h2 := Hhh.out.2.1
       show v ≤ 65535
       omega)
     (fun h0 => by obtain ⟨g, e, _, hlt, _, _⟩ := HR3.out.pal.ptr h0; have := HR3.out.pal; rw [e] at this; exact ⟨g, e, hlt, this.at⟩) Hhh.out.2.2.2.2.1 (by have := Hhh.out.2.2.2.2; omega)
     (fun h0 => by obtain ⟨g, e, _, hlt, _, _⟩ := HR3.out.clear.ptr2 h0; have := HR3.out.clear; rw [e] at this; exact ⟨g, e, hlt, this.ints⟩) Hhh.out.2.2.2.2.2.1 (by have := Hhh.out.2.2.2.2; omega)
    refine hx.mono ?_
    rintro e w' ⟨p, n, c, st, rfl, hb⟩
    exact ⟨p, n, c, st, rfl, (pw_below_drewN (Below.refl _ _) kk).trans hb⟩
   clear hI3 hz1 hz2 hg3 hg3l hq3 hq3b
   obtain ⟨c0, c1, c2, c3, c4, c5, c6, c7, c8, c9, c10, c11, fz, hs⟩ := HR3.out.cells
   dsimp only at c0 c1 c2 c3 c4
   clear c5 c8 c9 c10 c11
   go_wp2_with fail
   go_region_held3 (fun w' => w'.cell? ⟨f, 0, none⟩ = some (.int .i64 (W : Int)) ∧ w'.cell? ⟨f, 1, none⟩ = some (.int .i64 (H : Int)) ∧ w'.cell? ⟨f, 2, none⟩ = some (.int .i64 (dp : Int)) ∧ w'.cell? ⟨f, 3, none⟩ = some (.int .i64 (ct : Int)) ∧ w'.cell? ⟨f, 4, none⟩ = some (.bool il) ∧ w'.cell? ⟨f, 6, none⟩ = some (.slice pp pn pc) ∧ w'.cell? ⟨f, 7, none⟩ = some (.slice cp cn cc))
    (first | exact ⟨c0, c1, c2, c3, c4, c6, c7⟩ | exact ⟨d0, d1, d2, d3, d4, d6, d7⟩ | (refine ⟨?_, ?_, ?_, ?_, ?_, ?_, ?_⟩ <;> go_simp))
    (first
     | (go_at_call 37; refine (HD.out _ ⟨_, rfl⟩).mono ?_; rintro e w5 ⟨p5, n5, q5, st5, rfl, hb5⟩; have HR5 := Lib.hid (HR3.out.below hb5); obtain ⟨d0, d1, d2, d3, d4, d5, d6, d7, d8, d9, d10, d11, dz, ds⟩ := HR5.out.cells; dsimp only at d0 d1 d2 d3 d4; clear d8 d9 d10 d11 hb5)
     | fail)
   all_goals
    go_wp2
    go_ret
    refine ⟨st5, .slice p5 n5 q5, rfl, ?_⟩
    have hfin := HR5.out.far 5 (.slice p5 n5 q5) (s2 := ⟨W, H, dp, ct, il, pal, clr, stage, rest⟩) (used2 := used) (v52 := .slice p5 n5 q5) rfl (Sl.mk _ _ _) rfl rfl rfl
    first | exact hfin | exact hfin.drew | exact hfin.drewN _
  ·
   have hzsi : ((zs : Int) != 0) = true := by simp; omega
   have Hzs := Lib.hid hzs
   clear hzs
   go_wp2
   go_ret
   exact ⟨_, v5, rfl, HR3.out⟩
 ·
  have husi : ((us : Int) != 0) = true := by simp; omega
  have Hus := Lib.hid hus
  clear hus
  go_wp2
  go_ret
  exact ⟨_, v5, rfl, HR2.out⟩
end Go.Proofs.YtnpkgmgedgcjmaaGreatDoor
end
