/- The law FnConfigEarly: it returns true, and what was there is as it was. -/
import Derived.Test.YtnpkgmgedgcjmaaGreatDoorP1
import Derived.Test.YtnpkgmgedgcjmaaGreatDoorD1
import Derived.Laws.StructEq
import Derived.Test.YtnpkgmgedgcjmaaGreatDoorD4
set_option linter.all false

/- The file of an image that is drawn. -/
namespace Go.Proofs.YtnpkgmgedgcjmaaGreatDoor
open Go Go.RowKit Png

set_option maxHeartbeats 2000000 in
set_option maxRecDepth 100000 in
theorem file_ok (W H dp ct sb ns scap dN dcap cN ccap : Nat) (il : Bool) (zs : List Nat) (ds : List Q4) (cs : List Nat) (pd pc : Option Addr) (vd : Value) (w : World) (hvd : vd = .slice none 0 0 ∨ ∃ a n c, vd = .slice a n c)
    (hk : Kinds ct dp) (hW1 : 1 ≤ W) (hW : W ≤ 40) (hH1 : 1 ≤ H) (hH : H ≤ 40) (hz : IntsAt w sb zs) (hsb : sb < w.heap.size) (hl : zs.length = ns)
    (hns : ns = H * W * chan ct) (hcap : ns ≤ scap) (hcap2 : scap ≤ 9223372036854775807) (hv : ∀ k, zs.getD k 0 ≤ 65535)
    (hd : 0 < dN → ∃ db, pd = some ⟨db, 0, none⟩ ∧ db < w.heap.size ∧ DotsAt w db ds) (hdl : ds.length = dN) (hdn : dN ≤ 256) (hdv : ∀ d ∈ ds, d.r ≤ 65535 ∧ d.g ≤ 65535 ∧ d.b ≤ 65535 ∧ d.a ≤ 65535)
    (hc : 0 < cN → ∃ cb, pc = some ⟨cb, 0, none⟩ ∧ cb < w.heap.size ∧ IntsAt w cb cs) (hcl : cs.length = cN) (hcn : cN ≤ 4) (hcv : ∀ k, cs.getD k 0 ≤ 65535) (h3 : 0 < dN → cN = 0) :
    Calls Tryz.prog 20 #[.agg #[.int .i64 W, .int .i64 H, .int .i64 dp, .int .i64 ct, .bool il, .slice (some ⟨sb, 0, none⟩) ns scap, .slice pd dN dcap, .slice pc cN ccap, vd], .slice none 0 0, .int .u16 1000, .int .u8 1, .slice none 0 0, .slice none 0 0, .slice none 0 0] w fun e w' =>
      ∃ p m c packed, e = .returned (.slice p m c) ∧ Ob w' w.heap.size p m c (fileOf W H dp ct (if il then 1 else 0) ds cs packed) ∧ packed.length ≤ 20000000 ∧ Below w.heap.size w w' := by
  obtain ⟨pq, qN, qcap, rfl⟩ : ∃ pq qN qcap, vd = .slice pq qN qcap := by
    rcases hvd with rfl | ⟨a, n, c, rfl⟩
    · exact ⟨_, _, _, rfl⟩
    · exact ⟨_, _, _, rfl⟩
  obtain ⟨iv, hiv⟩ : ∃ iv : Nat, iv = if il then 1 else 0 := ⟨_, rfl⟩
  rw [← hiv]
  have Hiv := Lib.hid hiv
  clear hiv
  have Hz := Lib.hid hz
  have Hl := Lib.hid hl
  have Hv := Lib.hid hv
  have Hd := Lib.hid hd
  have Hc := Lib.hid hc
  have Hdl := Lib.hid hdl
  have Hcl := Lib.hid hcl
  have Hdv := Lib.hid hdv
  have Hcv := Lib.hid hcv
  have H3 := Lib.hid h3
  have Hns := Lib.hid hns
  have Hk := Lib.hid hk
  clear hz hl hv hd hc hdl hcl hdv hcv h3 hns hk hvd
  go_enter Tryz.func20, Tryz.ntmps20
  go_wp2_with fail
  generalize hw2 : World.alloc (World.alloc w _) _ = w2
  have hb : Below w.heap.size w w2 := by rw [← hw2]; exact ((Below.refl _ _).alloc (Nat.le_refl _) _).alloc (by simp) _
  have Hb := Lib.hid hb
  have hs2 := hb.size
  clear hw2 hb
  have HW := (write_ok W H dp ct sb ns scap dN dcap cN ccap il zs ds cs pd pc w2 Hk.out hW1 hW hH1 hH (Hz.out.below Hb.out hsb) (Nat.lt_of_lt_of_le hsb hs2) Hl.out Hns.out hcap hcap2 Hv.out
    (fun h => by obtain ⟨db, e, h1, h2⟩ := Hd.out h; exact ⟨db, e, Nat.lt_of_lt_of_le h1 hs2, h2.below Hb.out h1⟩) Hdl.out hdn Hdv.out
    (fun h => by obtain ⟨db, e, h1, h2⟩ := Hc.out h; exact ⟨db, e, Nat.lt_of_lt_of_le h1 hs2, h2.below Hb.out h1⟩) Hcl.out hcn Hcv.out H3.out)
  rw [← Hiv.out] at HW
  refine HW.mono ?_
  rintro e w3 ⟨p, m, c, packed, rfl, hO, hp, hb3⟩
  have HO := Lib.hid hO
  have Hb3 := Lib.hid hb3
  clear hO hb3
  go_wp2
  go_ret
  exact ⟨p, m, c, packed, rfl, HO.out.lower hs2, hp, Hb.out.trans (Hb3.out.mono hs2)⟩
end Go.Proofs.YtnpkgmgedgcjmaaGreatDoor

/- Lists of pixels held against each other: equal ones. -/
namespace Go.Proofs.YtnpkgmgedgcjmaaGreatDoor
open Go Go.RowKit Png

@[go_sem] theorem eq75 (a b c d : Int) (w : World) : (Op.equalIn 10000 75 (.agg #[.int .i64 a, .int .i64 b, .int .i64 c, .int .i64 d]) (.agg #[.int .i64 a, .int .i64 b, .int .i64 c, .int .i64 d])).run Tryz.prog w = .ok true w := by
  have u3 := Tryz.underlying3
  have a3 := Tryz.isAgg3
  have z3 := Tryz.sizeOf3
  rw [run_equalIn_struct w 9999 75 _ _ (by kernel_rfl) (by kernel_rfl)]
  simp only [Program.fieldsOf, Tryz.underlying75]
  go_simp

set_option maxHeartbeats 4000000 in
set_option maxRecDepth 100000 in
theorem same_ok (p p' : Option Addr) (n c c' base base' : Nat) (l : List Q4) (w : World) (h : Od w base p n c l) (h' : Od w base' p' n c' l) (hn : n ≤ 4294967296) :
    Calls Tryz.prog 29 #[.slice p n c, .slice p' n c'] w fun e w' => e = .returned (.bool true) ∧ Dr w w' := by
  by_cases h0 : 0 < n
  · obtain ⟨g, hg⟩ : ∃ g, p = some ⟨g, 0, none⟩ := by
      obtain ⟨g, c, hv, _⟩ := h.2.form h0
      injection hv with hv
      exact ⟨g, hv⟩
    obtain ⟨g', hg'⟩ : ∃ g, p' = some ⟨g, 0, none⟩ := by
      obtain ⟨g, c, hv, _⟩ := h'.2.form h0
      injection hv with hv
      exact ⟨g, hv⟩
    subst hg
    subst hg'
    have H := Lib.hid h
    have H' := Lib.hid h'
    clear h h'
    have hnn : ((n : Int) != (n : Int)) = false := by simp
    go_enter Tryz.func29, Tryz.ntmps29
    go_wp2
    go_loopg [13] n (fun gh i wr => ∃ k, k + gh = n ∧ i = .int .i64 (k : Nat) ∧ Dr w wr)
    case atStart => exact ⟨0, by omega, rfl, Dr.refl _⟩
    case round =>
      obtain ⟨k, hk, rfl, hD⟩ := hrel
      have HD := Lib.hid hD
      have Hk := Lib.hid hk
      by_cases hlt : k < n
      · obtain ⟨a0, a1, a2, a3⟩ := H.out.cells (k := k) (by rw [H.out.1]; exact hlt)
        obtain ⟨b0, b1, b2, b3⟩ := H'.out.cells (k := k) (by rw [H.out.1]; exact hlt)
        have kk : k < l.length := by rw [H.out.1]; exact hlt
        obtain ⟨x0, hx0⟩ : ∃ x, x = l[k].r := ⟨_, rfl⟩
        obtain ⟨x1, hx1⟩ : ∃ x, x = l[k].g := ⟨_, rfl⟩
        obtain ⟨x2, hx2⟩ : ∃ x, x = l[k].b := ⟨_, rfl⟩
        obtain ⟨x3, hx3⟩ : ∃ x, x = l[k].a := ⟨_, rfl⟩
        rw [← hx0] at a0 b0
        rw [← hx1] at a1 b1
        rw [← hx2] at a2 b2
        rw [← hx3] at a3 b3
        have F := hD.fr []
        have f0 := F.cell' (by simp) a0
        have f1 := F.cell' (by simp) a1
        have f2 := F.cell' (by simp) a2
        have f3 := F.cell' (by simp) a3
        have j0 := F.cell' (by simp) b0
        have j1 := F.cell' (by simp) b1
        have j2 := F.cell' (by simp) b2
        have j3 := F.cell' (by simp) b3
        have hki : (k : Int) < (n : Int) := by omega
        clear hx0 hx1 hx2 hx3 kk a0 a1 a2 a3 b0 b1 b2 b3 F hD hk
        go_wp2
        go_quiet (fail)
        go_wp2
        go_roundg (gk - 1)
        case measure => have := Hk.out; omega
        case rel => exact ⟨k + 1, by have := Hk.out; omega, by go_num, HD.out.drewN _⟩
      · clear hD hk
        go_wp2
        go_ret
        exact ⟨rfl, HD.out⟩
  · have hz : n = 0 := by omega
    subst hz
    go_enter Tryz.func29, Tryz.ntmps29
    go_wp2
    refine wp_loop_rounds 1 ?_
    rw [rounds_succ]
    go_wp2
    go_ret
    exact ⟨rfl, Dr.refl _⟩
end Go.Proofs.YtnpkgmgedgcjmaaGreatDoor

namespace Go.Proofs.YtnpkgmgedgcjmaaGreatDoor
open Go Go.RowKit Png

/-- What is told of a file's head, and of a file that is cut off behind the name of its packed bytes. -/
theorem heads (W H ct dp sb ns scap dN dcap kN kcap : Nat) (il : Bool) (pd pk : Option Addr) (vd : Value) (zs : List Nat) (ds : List Q4) (cs : List Nat) (w : World) (h : Drawn w W H ct dp sb ns scap dN dcap kN kcap pd pk vd zs ds cs) (packed : List UInt8) (hp : packed.length ≤ 20000000) :
    Head (fileOf W H dp ct (if il then 1 else 0) ds cs packed) ct dp W H ds.length (palR ds) (palG ds) (palU ds) (palA ds) ∧
    Head ((fileOf W H dp ct (if il then 1 else 0) ds cs packed).take ((sig ++ cks ((nIHDR, h13 W H dp ct (if il then 1 else 0)) :: mids ds cs)).length + 8)) ct dp W H ds.length (palR ds) (palG ds) (palU ds) (palA ds) := by
  have hi : (if il then 1 else 0 : Nat) = 0 ∨ (if il then 1 else 0 : Nat) = 1 := by cases il <;> simp
  have h3 : ct = 3 → 0 < ds.length ∧ ds.length ≤ 2 ^ dp ∧ cs = [] := fun e => by
    have := h.three e
    rw [h.dl]
    refine ⟨this.1, this.2, List.eq_nil_of_length_eq_zero ?_⟩
    rw [h.cl]; exact h.one this.1
  have hn : ct ≠ 3 → ds = [] := fun e => List.eq_nil_of_length_eq_zero (by rw [h.dl]; exact h.other e)
  have a1 := h.w1
  have a2 := h.w40
  have a3 := h.h1
  have a4 := h.h40
  rw [take_file]
  refine ⟨?_, ?_⟩
  · rw [fileOf_eq]
    exact head_file W H dp ct _ packed.length ds cs _ h.kinds hi (by omega) (by omega) (by omega) (by omega) h3 hn (by omega)
  · exact head_file W H dp ct _ packed.length ds cs [] h.kinds hi (by omega) (by omega) (by omega) (by omega) h3 hn (by omega)

theorem pal_bytes (ds : List Q4) : ∀ k, palR ds k < 256 ∧ palG ds k < 256 ∧ palU ds k < 256 ∧ palA ds k < 256 := fun k =>
  ⟨nb_lt _ _, nb_lt _ _, nb_lt _ _, by unfold palA; split; exact nb_lt _ _; decide⟩

/-- The chunks ahead of the packed bytes. -/
def heads_ (W H dp ct iv : Nat) (ds : List Q4) (cs : List Nat) : List (List UInt8 × List UInt8) := (nIHDR, h13 W H dp ct iv) :: mids ds cs
theorem heads_mem (W H dp ct iv : Nat) (ds : List Q4) (cs : List Nat) (hd : ds.length ≤ 256) (hc : cs.length ≤ 4) : ∀ c ∈ heads_ W H dp ct iv ds cs, (c.1 = nIHDR ∨ c.1 = nPLTE ∨ c.1 = ntRNS) ∧ c.2.length ≤ 1000 := by
  intro c hm
  simp only [heads_, mids, List.mem_cons, List.mem_append] at hm
  rcases hm with rfl | hm | hm | hm
  · exact ⟨.inl rfl, by simp [h13, four_length]⟩
  · split at hm
    · cases hm
    · simp at hm; subst hm; exact ⟨.inr (.inl rfl), by simp only [palBytes_length]; omega⟩
  · split at hm
    · simp at hm; subst hm; exact ⟨.inr (.inr rfl), by simp only [aBytes_length]; omega⟩
    · cases hm
  · split at hm
    · cases hm
    · simp at hm; subst hm; exact ⟨.inr (.inr rfl), by simp only [clrBytes_length]; omega⟩
theorem heads_length (W H dp ct iv : Nat) (ds : List Q4) (cs : List Nat) : (heads_ W H dp ct iv ds cs).length ≤ 4 := by
  simp only [heads_, mids, List.length_cons, List.length_append]
  split <;> split <;> split <;> simp

/-- Where a chunk begins. -/
def pAt (hds : List (List UInt8 × List UInt8)) (k : Nat) : Nat := (sig ++ cks (hds.take k)).length
theorem pAt_zero (hds : List (List UInt8 × List UInt8)) : pAt hds 0 = 8 := rfl
theorem file_round (hds : List (List UInt8 × List UInt8)) (tail : List UInt8) (k : Nat) (hk : k < hds.length) (h4 : (hds[k]).1.length = 4) (hn : (hds[k]).2.length ≤ 1000) :
    nb (sig ++ (cks hds ++ tail)) (pAt hds k + 2) * 256 + nb (sig ++ (cks hds ++ tail)) (pAt hds k + 3) = (hds[k]).2.length ∧ ((sig ++ (cks hds ++ tail)).drop (pAt hds k + 4)).take 4 = (hds[k]).1 ∧
      pAt hds (k + 1) = pAt hds k + 12 + (hds[k]).2.length ∧ pAt hds (k + 1) ≤ (sig ++ cks hds).length := by
  have e : hds = hds.take k ++ (hds[k] :: hds.drop (k + 1)) := by
    rw [← List.drop_eq_getElem_cons hk, List.take_append_drop]
  have e2 : sig ++ (cks hds ++ tail) = (sig ++ cks (hds.take k)) ++ (ck hds[k] ++ (cks (hds.drop (k + 1)) ++ tail)) := by
    conv => lhs; rw [e]
    rw [cks_append, cks_cons]
    simp only [List.append_assoc]
  have e3 : cks (hds.take (k + 1)) = cks (hds.take k) ++ ck hds[k] := by
    rw [List.take_succ_eq_append_getElem hk, cks_append, cks_cons, cks_nil, List.append_nil]
  obtain ⟨r1, r2⟩ := ck_at (sig ++ cks (hds.take k)) hds[k] (cks (hds.drop (k + 1)) ++ tail) h4 (by omega)
  rw [e2]
  refine ⟨r1, r2, ?_, ?_⟩
  · unfold pAt
    rw [e3]
    have := ck_length hds[k] h4
    simp only [List.length_append, this]
    omega
  · have e4 : cks hds = cks (hds.take (k + 1)) ++ cks (hds.drop (k + 1)) := by rw [← cks_append, List.take_append_drop]
    unfold pAt
    rw [List.length_append, List.length_append, e4, List.length_append]
    omega
theorem file_last (hds : List (List UInt8 × List UInt8)) (packed rest : List UInt8) (k : Nat) (hk : hds.length ≤ k) :
    ((sig ++ (cks hds ++ (ck (nIDAT, packed) ++ rest))).drop (pAt hds k + 4)).take 4 = nIDAT ∧ pAt hds k = (sig ++ cks hds).length := by
  have e : hds.take k = hds := List.take_of_length_le hk
  unfold pAt
  rw [e]
  refine ⟨?_, rfl⟩
  rw [← List.append_assoc, ← List.drop_drop, List.drop_left]
  unfold ck
  rw [List.append_assoc, show (4 : Nat) = (four packed.length).length from rfl, List.drop_left]
  rw [List.append_assoc]
  rfl
theorem seg_mid {w : World} {g : Nat} {l : List UInt8} (h : Seg w g 0 l) (a : Nat) (m : List UInt8) (hm : (l.drop a).take 4 = m) (ha : a + 4 ≤ l.length) : Seg w g a m := fun k hk => by
  subst hm
  have hk4 : k < 4 := by simp at hk; omega
  have := h (a + k) (by omega)
  rw [Nat.zero_add] at this
  rw [this]
  unfold nb
  simp [List.getD_eq_getElem?_getD, List.getElem?_take, List.getElem?_drop, hk4]

set_option maxHeartbeats 8000000 in
set_option maxRecDepth 100000 in
theorem law_ok (kd a b sN scap pN pcap cN ccap : Nat) (il : Bool) (ps pp pc : Option Addr) (X C R G U A : Nat → Nat) (w : World) (hkd : kd < 256) (ha : a < 256) (hb : b < 256) (hs : U16s w ps sN X) (hp : Pal w pp pN R G U A) (hc : U16s w pc cN C)
    (hsc : sN ≤ scap ∧ scap ≤ 9223372036854775807) (hpc : pN ≤ pcap ∧ pcap ≤ 9223372036854775807) (hcc : cN ≤ ccap ∧ ccap ≤ 9223372036854775807) (hT : Tab w 3 .u32 256 crc8) :
    Calls Tryz.prog 14 #[.int .u8 kd, .int .u8 a, .int .u8 b, .bool il, .slice ps sN scap, .slice pp pN pcap, .slice pc cN ccap] w fun e w' => e = .returned (.bool true) ∧ Below w.heap.size w w' := by
  have h3w : 3 < w.heap.size := (cell_lt (hT 0 (by decide))).1
  have Hs := Lib.hid hs
  have Hp := Lib.hid hp
  have Hc := Lib.hid hc
  have HT := Lib.hid hT
  obtain ⟨hs1, hs2⟩ := hsc
  obtain ⟨hp1, hp2⟩ := hpc
  obtain ⟨hc1, hc2⟩ := hcc
  clear hs hp hc hT
  by_cases k1 : (2147483647 : Int) < (sN : Int)
  · go_enter Tryz.func14, Tryz.ntmps14
    go_wp2
    go_ret
    exact ⟨rfl, Below.refl _ _⟩
  by_cases k2 : (2147483647 : Int) < (pN : Int)
  · go_enter Tryz.func14, Tryz.ntmps14
    go_wp2
    go_ret
    exact ⟨rfl, Below.refl _ _⟩
  by_cases k3 : (2147483647 : Int) < (cN : Int)
  · go_enter Tryz.func14, Tryz.ntmps14
    go_wp2
    go_ret
    exact ⟨rfl, Below.refl _ _⟩
  go_enter Tryz.func14, Tryz.ntmps14
  go_wp2_with fail
  refine (drawn_ok kd a b sN scap pN pcap cN ccap il ps pp pc X C R G U A w hkd ha hb Hs.out Hp.out Hc.out (by omega) (by omega) (by omega) hs1 hs2 hp1 hp2 hc1 hc2).mono ?_
  rintro e w1 ⟨W, H, ct, dp, sb, ns, scap', dN, dcap, kN, kcap, pd, pk, vd, zs, ds, cs, rfl, hD, hb1⟩
  have HD := Lib.hid hD
  have Hb1 := Lib.hid hb1
  have hs1w := hb1.size
  obtain ⟨va, vn, vc, rfl⟩ := hD.vds
  clear hD hb1
  obtain ⟨D, hDn⟩ : ∃ D, w1.heap.size = D := ⟨_, rfl⟩
  have hBD : DBox (w1.alloc (.cells #[.int .i64 W, .int .i64 H, .int .i64 dp, .int .i64 ct, .bool il, .slice (some ⟨sb, 0, none⟩) ns scap', .slice pd dN dcap, .slice pk kN kcap, .slice va vn vc] 30)) D W H dp ct il (.slice (some ⟨sb, 0, none⟩) ns scap') (.slice pd dN dcap) (.slice pk kN kcap) (.slice va vn vc) := by rw [← hDn]; exact Blk.new _ _ _
  have hb2 : Below w1.heap.size w1 (w1.alloc (.cells #[.int .i64 W, .int .i64 H, .int .i64 dp, .int .i64 ct, .bool il, .slice (some ⟨sb, 0, none⟩) ns scap', .slice pd dN dcap, .slice pk kN kcap, .slice va vn vc] 30)) := (Below.refl _ _).alloc (Nat.le_refl _) _
  have hz2 : (w1.alloc (.cells #[.int .i64 W, .int .i64 H, .int .i64 dp, .int .i64 ct, .bool il, .slice (some ⟨sb, 0, none⟩) ns scap', .slice pd dN dcap, .slice pk kN kcap, .slice va vn vc] 30)).heap.size = D + 1 := by simp [hDn]
  have HBD := Lib.hid hBD
  have HDn := Lib.hid hDn
  have Hb2 := Lib.hid hb2
  have Hz2 := Lib.hid hz2
  clear hBD hDn hb2 hz2
  go_wp2_with fail
  have hBD := HBD.out
  have hb2 := Hb2.out
  have hz2 := Hz2.out
  rw [HDn.out]
  generalize hw2 : World.alloc w1 _ = w2
  rw [hw2] at hBD hb2 hz2
  have HBD := Lib.hid hBD
  have Hb2 := Lib.hid hb2
  have HD2 := Lib.hid (HD.out.below hb2)
  have Hz2 := Lib.hid hz2
  clear hw2 hBD hb2 hz2 HD
  have F := HD2.out
  refine (file_ok W H dp ct sb ns scap' dN dcap kN kcap il zs ds cs pd pk (.slice va vn vc) w2 (.inr ⟨_, _, _, rfl⟩) F.kinds F.w1 F.w40 F.h1 F.h40 F.ints F.sbl F.zl F.nse F.cap F.cap2 F.zv F.dots F.dl F.dn F.dv F.clr F.cl F.cn F.cv F.one).mono ?_
  clear F
  rintro e w3 ⟨p, m, c, packed, rfl, hO, hpk, hb3⟩
  have hHead := heads W H ct dp sb ns scap' dN dcap kN kcap il pd pk (.slice va vn vc) zs ds cs w2 HD2.out packed hpk
  obtain ⟨iv, hiv⟩ : ∃ iv : Nat, iv = if il then 1 else 0 := ⟨_, rfl⟩
  rw [← hiv] at hO hHead
  obtain ⟨fl, hfl⟩ : ∃ fl, fl = fileOf W H dp ct iv ds cs packed := ⟨_, rfl⟩
  obtain ⟨hds, hhds⟩ : ∃ hds, hds = heads_ W H dp ct iv ds cs := ⟨_, rfl⟩
  have hfe : fl = sig ++ (cks hds ++ (ck (nIDAT, packed) ++ ck (nIEND, []))) := by rw [hfl, hhds]; rfl
  rw [← hfl] at hO hHead
  have hmem := heads_mem W H dp ct iv ds cs (by rw [HD2.out.dl]; exact HD2.out.dn) (by rw [HD2.out.cl]; exact HD2.out.cn)
  have hlen := heads_length W H dp ct iv ds cs
  rw [← hhds] at hmem hlen
  have hcut : (sig ++ cks ((nIHDR, h13 W H dp ct iv) :: mids ds cs)).length = pAt hds hds.length := by rw [hhds, (file_last _ [] [] _ (Nat.le_refl _)).2]; rfl
  rw [hcut] at hHead
  have hml : fl.length = m := hO.1
  have hpl : pAt hds hds.length + 12 ≤ fl.length ∧ fl.length ≤ 20010000 := by
    have h1 := (file_last hds [] [] hds.length (Nat.le_refl _)).2
    have h2 := ck_length (nIDAT, packed) rfl
    have h3 := ck_length (nIEND, []) rfl
    have h4 : pAt hds hds.length ≤ 8 + 4 * 1012 := by
      clear hHead hcut hfe hml
      have : ∀ k, k ≤ hds.length → pAt hds k ≤ 8 + k * 1012 := by
        intro k
        induction k with
        | zero => intro _; exact Nat.le_refl _
        | succ k ih =>
          intro hk
          have hc := hmem _ (List.getElem_mem (show k < hds.length by omega))
          have r := (file_round hds [] k (by omega) (by rcases hc.1 with h | h | h <;> rw [h] <;> rfl) hc.2).2.2.1
          have := ih (by omega)
          omega
      have := this hds.length (Nat.le_refl _)
      omega
    rw [h1] at h4 ⊢
    rw [hfe]
    simp only [List.length_append] at h4 ⊢
    rw [h2, h3]
    simp only [List.length_nil]
    omega
  obtain ⟨g, rfl, hmc, hc63⟩ := hO.capge (by omega)
  have hgl := hO.lt g rfl
  have hgs : Seg w3 g 0 fl := fun k hk => by
    have := (hO.bsl).cellZ hk
    rwa [Nat.zero_add]
  have HO := Lib.hid hO
  have Hb3 := Lib.hid hb3
  have Hgs := Lib.hid hgs
  have Hhead := Lib.hid hHead
  have Hfe := Lib.hid hfe
  have Hmem := Lib.hid hmem
  have Hml := Lib.hid hml
  have hD3 : D < w3.heap.size := by have := hb3.size; have := Hz2.out; omega
  have HBD3 := Lib.hid (HBD.out.below hb3 (by have := Hz2.out; omega))
  have hm2 : m ≤ 20010000 := by omega
  obtain ⟨hp1', hp2'⟩ := hpl
  rw [hml] at hp1' hp2'
  obtain ⟨L, hL⟩ : ∃ L, hds.length = L := ⟨_, rfl⟩
  rw [hL] at hp1' hlen
  have HL := Lib.hid hL
  clear hO hb3 hgs hHead hfe hmem hfl hhds hcut hiv hml hL
  go_wp2
  go_loopg [18] L (fun g v wr => ∃ k at_ : Nat, k + g = L ∧ Hid (at_ = pAt hds k) ∧ v = .int .i64 (at_ : Nat) ∧ Dr w3 wr)
  case atStart => exact ⟨0, 8, by omega, Lib.hid (pAt_zero hds).symm, rfl, Dr.refl _⟩
  case round =>
    obtain ⟨k, at_, hk, Hat, rfl, hD⟩ := hrel
    have HDr := Lib.hid hD
    have Hk := Lib.hid hk
    have HS3 := Lib.hid (Hgs.out.fr (hD.fr []) (by simp))
    clear hD
    by_cases hlt : k < L
    · have hkd : k < hds.length := by rw [HL.out]; exact hlt
      have hc := Hmem.out _ (List.getElem_mem hkd)
      have r := file_round hds (ck (nIDAT, packed) ++ ck (nIEND, [])) k hkd (by rcases hc.1 with h | h | h <;> rw [h] <;> rfl) hc.2
      rw [← Hfe.out, ← Hat.out] at r
      obtain ⟨r1, r2, r3, r4⟩ := r
      obtain ⟨nl, hnl⟩ : ∃ nl, (hds[k]).2.length = nl := ⟨_, rfl⟩
      rw [hnl] at r1 r3 hc
      have r5 : pAt hds hds.length = (sig ++ cks hds).length := (file_last hds [] [] _ (Nat.le_refl _)).2
      rw [← r5, HL.out] at r4
      obtain ⟨z1, hz1⟩ : ∃ z1, nb fl (at_ + 2) = z1 := ⟨_, rfl⟩
      obtain ⟨z2, hz2⟩ : ∃ z2, nb fl (at_ + 3) = z2 := ⟨_, rfl⟩
      have b1 : z1 < 256 := by rw [← hz1]; exact nb_lt _ _
      have b2 : z2 < 256 := by rw [← hz2]; exact nb_lt _ _
      rw [hz1, hz2] at r1
      have hat12 : at_ + 12 + nl ≤ m := by rw [← r3]; have := hp1'; omega
      have c1 := HS3.out (at_ + 2) (by rw [Hml.out]; omega)
      have c2 := HS3.out (at_ + 3) (by rw [Hml.out]; omega)
      rw [hz1, Nat.zero_add] at c1
      rw [hz2, Nat.zero_add] at c2
      obtain ⟨a2, ha2⟩ : ∃ a2, a2 = at_ + 2 := ⟨_, rfl⟩
      obtain ⟨a3, ha3⟩ : ∃ a3, a3 = at_ + 3 := ⟨_, rfl⟩
      obtain ⟨a4, ha4⟩ : ∃ a4, a4 = at_ + 4 := ⟨_, rfl⟩
      obtain ⟨a8, ha8⟩ : ∃ a8, a8 = at_ + 8 := ⟨_, rfl⟩
      rw [← ha2] at c1
      rw [← ha3] at c2
      have e2 : (at_ : Int) + 2 = (a2 : Int) := by omega
      have e3 : (at_ : Int) + 3 = (a3 : Int) := by omega
      have e4 : (at_ : Int) + 4 = (a4 : Int) := by omega
      have e8 : (at_ : Int) + 8 = (a8 : Int) := by omega
      have hS4 : Seg wr g a4 (hds[k]).1 := seg_mid HS3.out a4 _ (by rw [ha4]; exact r2) (by rw [Hml.out]; omega)
      have hsub : a8 - a4 = 4 := by omega
      have hcv : (convert 24 9 (.slice (some ⟨g, a4, none⟩) (a8 - a4) (c - a4))).run Tryz.prog wr = .ok (.string ⟨(hds[k]).1.toArray⟩) wr :=
        run_convert_seg (P := Tryz.prog) wr 24 5 9 Tryz.underlying24 Tryz.underlying5 Tryz.underlying9 g a4 (a8 - a4) (c - a4) _ (by rw [hsub]; rcases hc.1 with h | h | h <;> rw [h] <;> rfl) hS4
      have hati : (at_ : Int) < (m : Int) := by omega
      have k4 : a4 ≤ a8 := by omega
      have k8 : a8 ≤ c := by omega
      have k9 : ¬ c = a4 := by omega
      have ka : at_ ≤ 20010000 := by omega
      have kb : a2 ≤ 20010000 := by omega
      have kc : a3 ≤ 20010000 := by omega
      have kd4 : a4 ≤ 20010000 := by omega
      have ke : a8 ≤ 20010000 := by omega
      have km2 : (a2 : Int) < (m : Int) := by omega
      have km3 : (a3 : Int) < (m : Int) := by omega
      obtain ⟨s1, hs1e⟩ : ∃ s1, s1 = z1 * 256 := ⟨_, rfl⟩
      obtain ⟨s2, hs2e⟩ : ∃ s2, s2 = 12 + s1 := ⟨_, rfl⟩
      obtain ⟨s3, hs3e⟩ : ∃ s3, s3 = s2 + z2 := ⟨_, rfl⟩
      obtain ⟨s4, hs4e⟩ : ∃ s4, s4 = at_ + s3 := ⟨_, rfl⟩
      have f1 : (z1 : Int) * 256 = (s1 : Int) := by omega
      have f2 : 12 + (s1 : Int) = (s2 : Int) := by omega
      have f3 : (s2 : Int) + (z2 : Int) = (s3 : Int) := by omega
      have f4 : (at_ : Int) + (s3 : Int) = (s4 : Int) := by omega
      have Hs4 := Lib.hid (show s4 = pAt hds (k + 1) by omega)
      have w1i : IntKind.i64.wrap (s1 : Int) = (s1 : Int) := IntWalk.i64_in _ (by omega)
      have w2i : IntKind.i64.wrap (s2 : Int) = (s2 : Int) := IntWalk.i64_in _ (by omega)
      have w3i : IntKind.i64.wrap (s3 : Int) = (s3 : Int) := IntWalk.i64_in _ (by omega)
      have w4i : IntKind.i64.wrap (s4 : Int) = (s4 : Int) := IntWalk.i64_in _ (by omega)
      have w5i : IntKind.i64.wrap (a2 : Int) = (a2 : Int) := IntWalk.i64_in _ (by omega)
      have w6i : IntKind.i64.wrap (a3 : Int) = (a3 : Int) := IntWalk.i64_in _ (by omega)
      have w7i : IntKind.i64.wrap (z1 : Int) = (z1 : Int) := IntWalk.i64_in _ (by omega)
      have w8i : IntKind.i64.wrap (z2 : Int) = (z2 : Int) := IntWalk.i64_in _ (by omega)
      have hnm := hc.1
      clear hc r1 r2 r3 r4 r5 hnl hz1 hz2 ha2 ha3 ha4 ha8 hS4 hsub hs1e hs2e hs3e hs4e hk
      rcases hnm with h | h | h
      all_goals
        rw [h] at hcv
        clear h
        go_wp2
        go_quiet (fail)
        go_wp2
        go_roundg (gk - 1)
        case measure => have := Hk.out; omega
        case rel => exact ⟨k + 1, s4, by have := Hk.out; omega, Hs4, by go_num, HDr.out.drewN _⟩
    · have hkL : L = k := by omega
      subst hkL
      have r := file_last hds packed (ck (nIEND, [])) L (by rw [HL.out]; exact Nat.le_refl _)
      rw [← Hfe.out, ← Hat.out] at r
      have hat12 : at_ + 12 ≤ m := by rw [Hat.out]; exact hp1'
      obtain ⟨a4, ha4⟩ : ∃ a4, a4 = at_ + 4 := ⟨_, rfl⟩
      obtain ⟨a8, ha8⟩ : ∃ a8, a8 = at_ + 8 := ⟨_, rfl⟩
      have e4 : (at_ : Int) + 4 = (a4 : Int) := by omega
      have e8 : (at_ : Int) + 8 = (a8 : Int) := by omega
      have hS4 : Seg wr g a4 nIDAT := seg_mid HS3.out a4 _ (by rw [ha4]; exact r.1) (by rw [Hml.out]; omega)
      have hsub : a8 - a4 = 4 := by omega
      have hcv : (convert 24 9 (.slice (some ⟨g, a4, none⟩) (a8 - a4) (c - a4))).run Tryz.prog wr = .ok (.string ⟨nIDAT.toArray⟩) wr :=
        run_convert_seg (P := Tryz.prog) wr 24 5 9 Tryz.underlying24 Tryz.underlying5 Tryz.underlying9 g a4 (a8 - a4) (c - a4) _ (by rw [hsub]; rfl) hS4
      have hati : (at_ : Int) < (m : Int) := by omega
      have k4 : a4 ≤ a8 := by omega
      have k8 : a8 ≤ c := by omega
      have k9 : ¬ c = a4 := by omega
      have ka : at_ ≤ 20010000 := by omega
      have kd4 : a4 ≤ 20010000 := by omega
      have ke : a8 ≤ 20010000 := by omega
      have km8 : a8 ≤ m := by omega
      have Ha8 := Lib.hid (show a8 = pAt hds hds.length + 8 by rw [HL.out, ← Hat.out]; exact ha8)
      have HBw3 := Lib.hid (show Below w.heap.size w w3 from (Hb1.out.trans (Hb2.out.mono hs1w)).trans (Hb3.out.mono (by have := Hb2.out.size; omega)))
      have hBwr : Below w.heap.size w wr := by obtain ⟨n, rfl⟩ := HDr.out; exact ⟨HBw3.out.os, HBw3.out.tape, HBw3.out.output, HBw3.out.size, HBw3.out.block⟩
      have hBDr : DBox wr D W H dp ct il (.slice (some ⟨sb, 0, none⟩) ns scap') (.slice pd dN dcap) (.slice pk kN kcap) (.slice va vn vc) := by obtain ⟨n, rfl⟩ := HDr.out; exact HBD3.out
      have hgw : g < wr.heap.size ∧ D < wr.heap.size := by obtain ⟨n, rfl⟩ := HDr.out; exact ⟨hgl.2, hD3⟩
      have HBwr := Lib.hid hBwr
      have HBDr := Lib.hid hBDr
      have HTab := Lib.hid (show ∀ w', Below w.heap.size w w' → Tab w' 3 .u32 256 crc8 from fun w' hb k hk => by rw [hb.cell (p := ⟨3, k, none⟩) h3w]; exact HT.out k hk)
      obtain ⟨kk, hkk⟩ : ∃ kk, kk = 100 * ct + dp := ⟨_, rfl⟩
      obtain ⟨nd, hnd⟩ : ∃ nd, ds.length = nd := ⟨_, rfl⟩
      have hnd2 : nd ≤ 256 := by rw [← hnd, HD2.out.dl]; exact HD2.out.dn
      have I1 := iconf_ok g 0 c ct dp W H ds.length (palR ds) (palG ds) (palU ds) (palA ds) fl wr Hhead.out.1 HS3.out (by rw [Hml.out]; omega) (HTab.out _ HBwr.out)
      rw [Hml.out, ← hkk, hnd] at I1
      have HI1 := Lib.hid I1
      have hseg2 : ∀ w', Fr [] wr w' → Seg w' g 0 (fl.take a8) := fun w' hf k hk => by
        have h1 : k < fl.length := by simp at hk; omega
        have h2 : k < a8 := by simp at hk; omega
        have := (HS3.out.fr hf (by simp)) k h1
        rw [this]
        unfold nb
        simp [List.getD_eq_getElem?_getD, List.getElem?_take, h2]
      have hlen2 : (fl.take a8).length = a8 := by rw [List.length_take, Hml.out]; omega
      have HI2 := Lib.hid (show ∀ w', Fr [] wr w' → Below w.heap.size w w' → Calls Tryz.prog 33 #[.slice (some ⟨g, 0, none⟩) a8 c] w' fun e w'' =>
          ∃ v, e = .returned (.tuple #[.agg #[.int .i64 (kk : Int), .int .i64 W, .int .i64 H, v], .int .i64 0]) ∧ Fr [] w' w'' ∧
            ((ct ≠ 3 ∧ v = .slice none 0 0) ∨ (ct = 3 ∧ w''.ownsRow w'.heap.size 96 4 v nd (shadesV (palR ds) (palG ds) (palU ds) (palA ds) nd))) from fun w' hf hb => by
        have I2 := iconf_ok g 0 c ct dp W H ds.length (palR ds) (palG ds) (palU ds) (palA ds) (fl.take a8) w' (by rw [Ha8.out]; exact Hhead.out.2) (hseg2 w' hf) (by rw [hlen2]; omega) (HTab.out _ hb)
        rw [hlen2, ← hkk, hnd] at I2
        exact I2)
      have HV := Lib.hid (show ∀ (w' w'' : World) (v : Value), ((ct ≠ 3 ∧ v = .slice none 0 0) ∨ (ct = 3 ∧ w''.ownsRow w'.heap.size 96 4 v nd (shadesV (palR ds) (palG ds) (palU ds) (palA ds) nd))) → ∃ q n', v = .slice q nd n' ∧ Pal w'' q nd (palR ds) (palG ds) (palU ds) (palA ds) from fun w' w'' v hv => by
        rcases hv with ⟨h3, rfl⟩ | ⟨h3, ho⟩
        · have : nd = 0 := by rw [← hnd, HD2.out.dl]; exact HD2.out.other h3
          subst this
          exact ⟨none, 0, rfl, .inl rfl⟩
        · have hp0 : 0 < nd := by rw [← hnd, HD2.out.dl]; exact (HD2.out.three h3).1
          obtain ⟨gv, cv, rfl, hg1, hg2⟩ := ho.form hp0
          exact ⟨_, cv, rfl, .inr ⟨gv, 0, rfl, hg2, shades_of ho (fun k _ => pal_bytes ds k)⟩⟩)
      clear r ha4 ha8 hS4 hsub hk hkk hnd I1 hseg2 hlen2 hBwr hBDr
      have hcv2 : (convert 24 9 (.slice (some ⟨g, a4, none⟩) (a8 - a4) (c - a4))).run Tryz.prog wr = .ok (.string ⟨#[73, 68, 65, 84]⟩) wr := hcv
      clear hcv
      go_wp2_with fail
      refine HI1.out.mono ?_
      rintro e w4 ⟨v1, rfl, hF4, hv1⟩
      obtain ⟨q1, n1, rfl, hP1⟩ := HV.out wr w4 v1 hv1
      have HP1 := Lib.hid hP1
      have HF4 := Lib.hid hF4
      have hB4 : Below w.heap.size w w4 := HBwr.out.trans (hF4.to_below.mono HBwr.out.size)
      have HB4 := Lib.hid hB4
      have hs4 : wr.heap.size ≤ w4.heap.size := hF4.size
      obtain ⟨A, hA⟩ : ∃ A, w4.heap.size = A := ⟨_, rfl⟩
      have hBA : Blk (w4.alloc (.cells #[.int .i64 (kk : Int), .int .i64 W, .int .i64 H, .slice q1 nd n1] 64)) A 64 #[.int .i64 (kk : Int), .int .i64 W, .int .i64 H, .slice q1 nd n1] := by rw [← hA]; exact Blk.new _ _ _
      have hF5 : Fr [] w4 (w4.alloc (.cells #[.int .i64 (kk : Int), .int .i64 W, .int .i64 H, .slice q1 nd n1] 64)) := (Fr.refl [] w4).alloc _
      have hb5 : Below w4.heap.size w4 (w4.alloc (.cells #[.int .i64 (kk : Int), .int .i64 W, .int .i64 H, .slice q1 nd n1] 64)) := (Below.refl _ _).alloc (Nat.le_refl _) _
      have hz5 : (w4.alloc (.cells #[.int .i64 (kk : Int), .int .i64 W, .int .i64 H, .slice q1 nd n1] 64)).heap.size = A + 1 := by simp [hA]
      have HA := Lib.hid hA
      have HBA := Lib.hid hBA
      have HF5 := Lib.hid hF5
      have Hb5 := Lib.hid hb5
      have Hz5 := Lib.hid hz5
      clear hP1 hF4 hB4 hA hBA hF5 hb5 hz5 hv1
      go_wp2_with fail
      have hBA := HBA.out
      have hF5 := HF5.out
      have hb5 := Hb5.out
      have hz5 := Hz5.out
      rw [HA.out]
      generalize hw5 : World.alloc w4 _ = w5
      rw [hw5] at hBA hF5 hb5 hz5
      have HBA5 := Lib.hid hBA
      have HF5' := Lib.hid hF5
      have Hb5' := Lib.hid hb5
      have Hz5' := Lib.hid hz5
      clear hw5 hBA hF5 hb5 hz5 HBA HF5 Hb5 Hz5
      refine (HI2.out w5 (HF4.out.trans HF5'.out) (HB4.out.trans (Hb5'.out.mono HB4.out.size))).mono ?_
      rintro e w6 ⟨v2, rfl, hF6, hv2⟩
      obtain ⟨q2, n2, rfl, hP2⟩ := HV.out w5 w6 v2 hv2
      have HP2 := Lib.hid hP2
      have HF6 := Lib.hid hF6
      have hs6 : w5.heap.size ≤ w6.heap.size := hF6.size
      obtain ⟨A2, hA2⟩ : ∃ A2, w6.heap.size = A2 := ⟨_, rfl⟩
      have hBA2 : Blk (w6.alloc (.cells #[.int .i64 (kk : Int), .int .i64 W, .int .i64 H, .slice q2 nd n2] 64)) A2 64 #[.int .i64 (kk : Int), .int .i64 W, .int .i64 H, .slice q2 nd n2] := by rw [← hA2]; exact Blk.new _ _ _
      have hb7 : Below w6.heap.size w6 (w6.alloc (.cells #[.int .i64 (kk : Int), .int .i64 W, .int .i64 H, .slice q2 nd n2] 64)) := (Below.refl _ _).alloc (Nat.le_refl _) _
      have HA2 := Lib.hid hA2
      have HBA2 := Lib.hid hBA2
      have Hb7 := Lib.hid hb7
      clear hP2 hF6 hA2 hBA2 hb7 hv2
      go_upto_region 13 with (fail)
      have hBA2 := HBA2.out
      have hb7 := Hb7.out
      rw [HA2.out]
      generalize hw7 : World.alloc w6 _ = w7
      rw [hw7] at hBA2 hb7
      have Hb7' := Lib.hid hb7
      have hAlt : A < w6.heap.size := by have := Hz5'.out; omega
      have hA2lt : A2 < w7.heap.size := Blk.lt hBA2
      have hs7 : w6.heap.size ≤ w7.heap.size := hb7.size
      have HB6 := Lib.hid (show Below w.heap.size w w6 from (HB4.out.trans (Hb5'.out.mono HB4.out.size)).trans (HF6.out.to_below.mono (by have := HB4.out.size; have := Hb5'.out.size; omega)))
      have HB7 := Lib.hid (show Below w.heap.size w w7 from HB6.out.trans (hb7.mono HB6.out.size))
      have HA7 := Lib.hid (show Blk w7 A 64 #[.int .i64 (kk : Int), .int .i64 W, .int .i64 H, .slice q1 nd n1] from ((HBA5.out.below HF6.out.to_below (by have := Hz5'.out; omega)).below hb7 hAlt))
      have HA27 := Lib.hid hBA2
      have hD4 : D < w4.heap.size := Nat.lt_of_lt_of_le hgw.2 hs4
      have hDA : D < A := by rw [← HA.out]; exact hD4
      have HD7 := Lib.hid (show DBox w7 D W H dp ct il (.slice (some ⟨sb, 0, none⟩) ns scap') (.slice pd dN dcap) (.slice pk kN kcap) (.slice va vn vc) from (((HBDr.out.below HF4.out.to_below hgw.2).below Hb5'.out hD4).below HF6.out.to_below (by have := Hz5'.out; omega)).below hb7 (by have := Hz5'.out; omega))
      have HP17 := Lib.hid (show Pal w7 q1 nd (palR ds) (palG ds) (palU ds) (palA ds) from ((HP1.out.below Hb5'.out).below HF6.out.to_below).below hb7)
      have HP27 := Lib.hid (show Pal w7 q2 nd (palR ds) (palG ds) (palU ds) (palA ds) from HP2.out.below hb7)
      have hD7 : D < w7.heap.size := Blk.lt HD7.out
      have hA7 : A < w7.heap.size := by omega
      have x0 := HD7.out.cells.1
      have y0 := HA7.out.cell 0
      have y1 := HA7.out.cell 1
      have y2 := HA7.out.cell 2
      have y3 := HA7.out.cell 3
      have z0 := HA27.out.cell 0
      have z1 := HA27.out.cell 1
      have z2 := HA27.out.cell 2
      have z3 := HA27.out.cell 3
      simp only [List.getElem?_toArray, List.getElem?_cons_zero, List.getElem?_cons_succ] at y0 y1 y2 y3 z0 z1 z2 z3
      have hq9 : nd ≤ 2147483647 := by omega
      have hq8 : nd ≤ 4294967296 := by omega
      clear hw7 hBA2 hb7
      have HCells := Lib.hid (show ∀ w', Below w7.heap.size w7 w' → (w'.cell? ⟨D, 0, none⟩ = some (.int .i64 W) ∧ w'.cell? ⟨A, 0, none⟩ = some (.int .i64 (kk : Int)) ∧ w'.cell? ⟨A, 1, none⟩ = some (.int .i64 W) ∧ w'.cell? ⟨A, 2, none⟩ = some (.int .i64 H) ∧ w'.cell? ⟨A, 3, none⟩ = some (.slice q1 nd n1) ∧ w'.cell? ⟨A2, 0, none⟩ = some (.int .i64 (kk : Int)) ∧ w'.cell? ⟨A2, 1, none⟩ = some (.int .i64 W) ∧ w'.cell? ⟨A2, 2, none⟩ = some (.int .i64 H) ∧ w'.cell? ⟨A2, 3, none⟩ = some (.slice q2 nd n2)) from fun w' hb =>
        ⟨(hb.cell (p := ⟨D, 0, none⟩) hD7).trans x0, (hb.cell (p := ⟨A, 0, none⟩) hA7).trans y0, (hb.cell (p := ⟨A, 1, none⟩) hA7).trans y1, (hb.cell (p := ⟨A, 2, none⟩) hA7).trans y2, (hb.cell (p := ⟨A, 3, none⟩) hA7).trans y3,
          (hb.cell (p := ⟨A2, 0, none⟩) hA2lt).trans z0, (hb.cell (p := ⟨A2, 1, none⟩) hA2lt).trans z1, (hb.cell (p := ⟨A2, 2, none⟩) hA2lt).trans z2, (hb.cell (p := ⟨A2, 3, none⟩) hA2lt).trans z3⟩)
      go_region_held3 (fun w' => w'.cell? ⟨D, 0, none⟩ = some (.int .i64 W) ∧ w'.cell? ⟨A, 0, none⟩ = some (.int .i64 (kk : Int)) ∧ w'.cell? ⟨A, 1, none⟩ = some (.int .i64 W) ∧ w'.cell? ⟨A, 2, none⟩ = some (.int .i64 H) ∧ w'.cell? ⟨A, 3, none⟩ = some (.slice q1 nd n1) ∧ w'.cell? ⟨A2, 0, none⟩ = some (.int .i64 (kk : Int)) ∧ w'.cell? ⟨A2, 1, none⟩ = some (.int .i64 W) ∧ w'.cell? ⟨A2, 2, none⟩ = some (.int .i64 H) ∧ w'.cell? ⟨A2, 3, none⟩ = some (.slice q2 nd n2))
        (first | exact ⟨x0, y0, y1, y2, y3, z0, z1, z2, z3⟩ | exact HCells.out _ HbC.out | exact HCells.out _ HbB.out | exact HCells.out _ HbA.out | (refine ⟨?_, ?_, ?_, ?_, ?_, ?_, ?_, ?_, ?_⟩ <;> go_simp))
        (first
          | (go_at_call 30; have hO2' := HO1.out; clear hO2'; refine (pal_dots q2 nd n2 (palR ds) (palG ds) (palU ds) (palA ds) w8 (HP27.out.below HbA.out) hq9).mono ?_; rintro e w9 ⟨t2, tc2, rfl, hO2, hb9⟩; have HO2 := Lib.hid hO2; have Hb9 := Lib.hid hb9; have HbB := Lib.hid (show Below w7.heap.size w7 w9 from HbA.out.trans (hb9.mono HbA.out.size)); clear hO2 hb9)
          | (go_at_call 30; refine (pal_dots q1 nd n1 (palR ds) (palG ds) (palU ds) (palA ds) w7.drew HP17.out hq9).mono ?_; rintro e w8 ⟨t1, tc1, rfl, hO1, hb8⟩; have HO1 := Lib.hid hO1; have HbA := Lib.hid (show Below w7.heap.size w7 w8 from (by first | exact (Below.refl _ w7).drew.trans hb8 | exact hb8)); clear hO1 hb8)
          | (go_at_call 29; refine (same_ok t1 t2 nd tc1 tc2 _ _ (q4s (palR ds) (palG ds) (palU ds) (palA ds) nd) w9 (HO1.out.keep fun k hk => Hb9.out.block k (owns_lt HO1.out.2 k hk).2) HO2.out hq8).mono ?_; rintro e w10 ⟨rfl, hD10⟩; have HbC := Lib.hid (show Below w7.heap.size w7 w10 from (by obtain ⟨nq, rfl⟩ := hD10; exact ⟨HbB.out.os, HbB.out.tape, HbB.out.output, HbB.out.size, HbB.out.block⟩)); clear hD10)
          | fail)
      all_goals
        go_wp2
        go_ret
        exact ⟨rfl, HB7.out.trans (HbC.out.mono HB7.out.size)⟩
end Go.Proofs.YtnpkgmgedgcjmaaGreatDoor
