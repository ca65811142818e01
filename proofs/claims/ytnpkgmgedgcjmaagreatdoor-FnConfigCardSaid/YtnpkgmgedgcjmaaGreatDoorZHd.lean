/- A part of the proof: Hd. -/
import Derived.Deep.RegionHeld3
import Derived.Deep.RegionWith
import Derived.LaidEql
import Derived.LaidEqlPtr
import Derived.StillTailTactics
import Derived.Test.YtnpkgmgedgcjmaaGreatDoorZCrc
set_option linter.all false
set_option maxRecDepth 100000
section
namespace Go.Proofs.YtnpkgmgedgcjmaaGreatDoor
open Go Go.RowKit
set_option maxHeartbeats 400000 in
theorem brRead_some (rb sb n cap i db do_ dlen dcap N m : Nat) (t tr : TypeId) (l : List UInt8) (w : World)
  (h0 : w.cell? ⟨rb, 0, none⟩ = some (.slice (some ⟨sb, 0, none⟩) n cap)) (h1 : w.cell? ⟨rb, 1, none⟩ = some (.int .i64 i))
  (hr : Row w rb tr 3) (hi : i < n) (hn : n ≤ cap) (hi' : cap ≤ 9223372036854775807)
  (hd : Row w db t N) (Hl : Hid (l.length = Nat.min (n - i) dlen)) (hsrc : Seg w sb i l) (hfit : do_ + l.length ≤ N) (hdr : db ≠ rb) (hsb : sb ≠ rb) (Hm : Hid (l.length = m)) (hmi : m + i ≤ 9223372036854775807):
  Calls Tryz.prog 216 #[.pointer (some ⟨rb, 0, none⟩), .slice (some ⟨db, do_, none⟩) dlen dcap] w fun e w' =>
   e = .returned (.tuple #[.int .i64 m, .nilIface]) ∧ Fr [db, rb] w w' ∧ Seg w' db do_ l ∧
    (∀ o, (o < do_ ∨ do_ + l.length ≤ o) → w'.cell? ⟨db, o, none⟩ = w.cell? ⟨db, o, none⟩) ∧
    w'.cell? ⟨rb, 0, none⟩ = some (.slice (some ⟨sb, 0, none⟩) n cap) ∧ w'.cell? ⟨rb, 1, none⟩ = some (.int .i64 ((i + m : Nat) : Int)) := by
 have ht : decide ((n : Int) ≤ (i : Int)) = false := by simp; omega
 have hf := hr.frozen
 obtain ⟨v2, h2⟩ := hr.cell (o := 2) (by omega)
 go_enter Tryz.func216, Tryz.ntmps216
 go_wp2
 go_quiet (fail)
 go_wp2
 go_outline
 refine region_tail 10 (by kernel_rfl) (by kernel_rfl) ?_
 simp only [List.take_succ_cons, List.take_zero, List.drop_succ_cons, List.drop_zero]
 generalize hw1 : World.drew _ = w1
 have g0 : w1.cell? ⟨rb, 0, none⟩ = some (.slice (some ⟨sb, 0, none⟩) n cap) := by subst hw1; go_simp
 have g1 : w1.cell? ⟨rb, 1, none⟩ = some (.int .i64 i) := by subst hw1; go_simp
 have F1 : Fr [rb] w w1 := by subst hw1; exact ((((Fr.refl _ w).drewN _).setCell _ _ (.inl (by simp))).drew)
 clear hw1 h0 h1 h2 hf
 have hin : i ≤ n := by omega
 have hic : i ≤ cap := by omega
 have hne : ¬ cap = i := by omega
 have hrow : Row w1 db t N := F1.row _ _ _ hd
 have hseg : Seg w1 sb i l := hsrc.fr F1 (by simpa using hsb)
 repeat still_step
 refine wpStill_nil ?_
 refine wpList_copy_bytes rfl _ _ _ _ rfl _ Tryz.underlying24 (by kernel_rfl) db do_ dlen dcap sb i (n - i) (cap - i) N t l rfl rfl hrow Hl.out hseg hfit ?_
 intro w2 hw2
 have c0 := hw2.fr.cell' (b := rb) (by simpa using hdr.symm) g0
 have c1 := hw2.fr.cell' (b := rb) (by simpa using hdr.symm) g1
 have hf := (hw2.fr.row _ _ _ (F1.row _ _ _ hr)).frozen
 rw [Hm.out]
 clear g0 g1 hne
 have F2 : Fr [rb] w2 (w2.setCell ⟨rb, 1, none⟩ (.int .i64 ((i : Int) + (m : Int)))) := (Fr.refl _ _).setCell _ _ (.inl (by simp))
 have hdb : db ∉ [rb] := by simpa using hdr
 go_wp2
 go_ret2
 refine ⟨rfl, ((F1.mono (by simp)).trans (hw2.fr.mono (by simp))).trans (F2.mono (by simp)), hw2.new.fr F2 hdb, fun o ho => ?_, by go_simp, by go_simp⟩
 rw [F2.cell (Nat.lt_of_lt_of_le hrow.lt hw2.fr.size) hdb, hw2.same o ho, F1.cell hd.lt hdb]
end Go.Proofs.YtnpkgmgedgcjmaaGreatDoor
namespace Go.Proofs.YtnpkgmgedgcjmaaGreatDoor
open Go Go.RowKit
theorem nilAhead84 (a : Addr) (w : World) : (nilAhead 501 84 (.pointer (some a)) "Read").run Tryz.prog w = .ok (some false) w := by kernel_rfl
theorem method84 (a : Addr) (w : World) : (method 501 84 (.pointer (some a)) "Read").run Tryz.prog w = .ok (216, .pointer (some a)) w := by kernel_rfl
set_option maxHeartbeats 400000 in
theorem ral_full (rb sb n cap i db do_ dcap N m : Nat) (t tr : TypeId) (l : List UInt8) (w : World)
  (h0 : w.cell? ⟨rb, 0, none⟩ = some (.slice (some ⟨sb, 0, none⟩) n cap)) (h1 : w.cell? ⟨rb, 1, none⟩ = some (.int .i64 i))
  (hr : Row w rb tr 3) (hn : n ≤ cap) (hi' : cap ≤ 9223372036854775807)
  (hd : Row w db t N) (Hl : Hid (l.length = m)) (hm : i + m ≤ n) (hm0 : 0 < m) (hsrc : Seg w sb i l) (hfit : do_ + l.length ≤ N) (hdr : db ≠ rb) (hsb : sb ≠ rb) :
  Calls Tryz.prog 106 #[.iface 84 (.pointer (some ⟨rb, 0, none⟩)), .slice (some ⟨db, do_, none⟩) m dcap, .int .i64 m] w fun e w' =>
   e = .returned (.tuple #[.int .i64 m, .nilIface]) ∧ Fr [db, rb] w w' ∧ Seg w' db do_ l ∧
    (∀ o, (o < do_ ∨ do_ + l.length ≤ o) → w'.cell? ⟨db, o, none⟩ = w.cell? ⟨db, o, none⟩) ∧
    w'.cell? ⟨rb, 0, none⟩ = some (.slice (some ⟨sb, 0, none⟩) n cap) ∧ w'.cell? ⟨rb, 1, none⟩ = some (.int .i64 ((i + m : Nat) : Int)) := by
 have n84 := nilAhead84 ⟨rb, 0, none⟩
 have m84 := method84 ⟨rb, 0, none⟩
 have ht : decide ((m : Int) < (m : Int)) = false := by simp
 have ht2 : decide ((0 : Int) < (m : Int)) = true := by simp; omega
 go_enter Tryz.func106, Tryz.ntmps106
 go_wp2
 refine wp_loop_rounds 2 ?_
 rw [rounds_succ]
 go_wp2
 have C := brRead_some rb sb n cap i db do_ m dcap N m t tr l w.drew h0 h1 hr (by omega) hn hi' hd (Lib.hid (by rw [Hl.out]; simp only [Nat.min_def]; split <;> omega)) hsrc hfit hdr hsb Hl (by omega)
 have HC := Lib.hid C
 clear C
 go_region_with (go_at_call 216; refine HC.out.mono ?_; rintro e w1 ⟨rfl, hF, hS, hsame, c0, c1⟩)
 clear n84 m84 HC h0 h1
 go_wp2
 rw [rounds_succ]
 go_wp2
 go_ret2
 exact ⟨rfl, ⟨hF.os, hF.tape, hF.output, hF.size, hF.block, hF.row⟩, hS, hsame, c0, c1⟩
def Src (w : World) (rb sb : Nat) (l : List UInt8) : Prop :=
 ∃ n cap i : Nat, ∃ tr : TypeId, w.cell? ⟨rb, 0, none⟩ = some (.slice (some ⟨sb, 0, none⟩) n cap) ∧ w.cell? ⟨rb, 1, none⟩ = some (.int .i64 i) ∧
  Row w rb tr 3 ∧ n ≤ cap ∧ cap ≤ 9223372036854775807 ∧ i + l.length = n ∧ Seg w sb i l ∧ sb ≠ rb
theorem Src.fr {S : List Nat} {w w' : World} {rb sb : Nat} {l : List UInt8} (h : Src w rb sb l) (hf : Fr S w w') (h1 : rb ∉ S) (h2 : sb ∉ S) : Src w' rb sb l := by
 obtain ⟨n, cap, i, tr, a, b, c, d, e, f, g, k⟩ := h
 exact ⟨n, cap, i, tr, hf.cell' h1 a, hf.cell' h1 b, hf.row _ _ _ c, d, e, f, g.fr hf h2, k⟩
theorem Seg.append {w : World} {b off : Nat} {p q : List UInt8} (h : Seg w b off (p ++ q)) : Seg w b off p ∧ Seg w b (off + p.length) q := by
 refine ⟨fun k hk => ?_, fun k hk => ?_⟩
 ·
  have := h k (by simp; omega)
  rw [this]; simp [nb, List.getD_eq_getElem?_getD, List.getElem?_append_left hk]
 ·
  have := h (p.length + k) (by simp; omega)
  rw [Nat.add_assoc, this]; simp [nb, List.getD_eq_getElem?_getD, List.getElem?_append_right (show p.length ≤ p.length + k by omega)]
set_option maxHeartbeats 400000 in
theorem rf_full (rb sb db do_ dcap N m : Nat) (t : TypeId) (p rest : List UInt8) (w : World) (hs : Src w rb sb (p ++ rest)) (Hm : Hid (p.length = m)) (hm0 : 0 < m)
  (hd : Row w db t N) (hfit : do_ + m ≤ N) (hdr : db ≠ rb) (hds : db ≠ sb) :
  Calls Tryz.prog 84 #[.iface 84 (.pointer (some ⟨rb, 0, none⟩)), .slice (some ⟨db, do_, none⟩) m dcap] w fun e w' =>
   e = .returned (.tuple #[.int .i64 m, .nilIface]) ∧ Fr [db, rb] w w' ∧ Seg w' db do_ p ∧
    (∀ o, (o < do_ ∨ do_ + m ≤ o) → w'.cell? ⟨db, o, none⟩ = w.cell? ⟨db, o, none⟩) ∧ Src w' rb sb rest := by
 obtain ⟨n, cap, i, tr, h0, h1, hr, hn, hc, hl, hseg, hsb⟩ := hs
 have hm := Hm.out
 simp only [List.length_append] at hl
 have hsp := hseg.append
 have C := ral_full rb sb n cap i db do_ dcap N m t tr p w h0 h1 hr hn hc hd Hm (by omega) hm0 hsp.1 (by omega) hdr hsb
 have HC := Lib.hid C
 have hsr := hsp.2
 rw [hm] at hsr
 have Hsr := Lib.hid hsr
 have Hrest := Lib.hid (show i + m + rest.length = n by omega)
 have Hmm := Lib.hid hm
 clear C hseg hsp hl hm h0 h1 hsr
 go_enter Tryz.func84, Tryz.ntmps84
 go_wp2_with (go_at_call 106; refine HC.out.mono ?_; rintro e w1 ⟨rfl, hF, hS, hsame, c0, c1⟩)
 go_ret2
 refine ⟨rfl, hF, hS, fun o ho => hsame o (by rw [Hmm.out]; exact ho), n, cap, i + m, tr, c0, c1, hF.row _ _ _ hr, hn, hc, Hrest.out, ?_, hsb⟩
 exact Hsr.out.fr hF (by simp [hds.symm, hsb])
end Go.Proofs.YtnpkgmgedgcjmaaGreatDoor
namespace Go.Proofs.YtnpkgmgedgcjmaaGreatDoor
open Go Go.RowKit Png
def cidx (x n : Nat) : Nat := (x % 256) ^^^ n
theorem cidx_lt (x n : Nat) (h : n < 256) : cidx x n < 256 := Nat.xor_lt_two_pow (n := 8) (by omega) (by omega)
theorem cidx_bits (x n : Nat) (h : n < 256) : bits .xor .u8 ((x : Int) % 256) (n : Int) = ((cidx x n : Nat) : Int) := by
 rw [show ((x : Int) % 256) = ((x % 256 : Nat) : Int) by omega]
 exact u8_xor_nat (x % 256) n (by omega) h
def cnew (x n : Nat) : Nat := crc8 (cidx x n) ^^^ (x / 256)
theorem cnew_bits (x n : Nat) (hx : x < 4294967296) (h : n < 256) : bits .xor .u32 ((crc8 (cidx x n) : Nat) : Int) ((x : Int) / 256) = ((cnew x n : Nat) : Int) := by
 have hc := cidx_lt x n h
 rw [show ((x : Int) / 256) = ((x / 256 : Nat) : Int) by omega]
 exact u32_xor_nat (crc8 (cidx x n)) (x / 256) (crc8_lt (by omega)) (by omega)
theorem cnew_lt (x n : Nat) (hx : x < 4294967296) (h : n < 256) : cnew x n < 4294967296 :=
 Nat.xor_lt_two_pow (n := 32) (crc8_lt (by have := cidx_lt x n h; omega)) (by omega)
theorem crcRun_take (c : Nat) (l : List UInt8) (k : Nat) (hk : k < l.length) : crcRun c (l.take (k + 1)) = cnew (crcRun c (l.take k)) (nb l k) := by
 rw [List.take_succ_eq_append_getElem hk, crcRun_append]
 show crcByte _ _ = _
 rw [crcByte_tab]
 unfold cnew cidx nb
 simp [List.getD_eq_getElem?_getD, List.getElem?_eq_getElem hk]
set_option maxHeartbeats 400000 in
theorem crcW (d b off cap : Nat) (l : List UInt8) (c0 : Nat) (hc0 : c0 < 4294967296) (w : World)
  (hl : l.length ≤ 9223372036854775807)
  (hd : w.cell? ⟨d, 0, none⟩ = some (.int .u32 c0)) (hf : w.frozen? ⟨d, 0, none⟩ = false)
  (hT : Tab w 3 .u32 256 crc8) (hc : Seg w b off l) :
  Calls Tryz.prog 87 #[.pointer (some ⟨d, 0, none⟩), .slice (some ⟨b, off, none⟩) l.length cap] w fun e w' => 
   e = .returned (.tuple #[.int .i64 l.length, .nilIface]) ∧ w.setCell ⟨d, 0, none⟩ (.int .u32 ((flip32 (crcRun (flip32 c0) l) : Nat) : Int)) = w' := by
 have hn := not32 c0 hc0
 rw [show 4294967295 - c0 = flip32 c0 from rfl] at hn
 go_enter Tryz.func87, Tryz.ntmps87
 go_wp2
 go_loop [6, 8, 16] (fun c v i => ∃ k x : Nat, k ≤ l.length ∧ x < 4294967296 ∧ Hid (x = crcRun (flip32 c0) (l.take k)) ∧ i = .int .i64 k ∧ c = .int .u32 (x : Nat)) (fun _ _ i => l.length - (intOf i).toNat)
 case atStart => exact ⟨0, flip32 c0, Nat.zero_le _, by unfold flip32; omega, Lib.hid (by simp [crcRun]), rfl, rfl⟩
 case round =>
  obtain ⟨k, x, hk, hx, Hx, rfl, rfl⟩ := hrel
  by_cases hlt : k < l.length
  ·
   have hck := hc k hlt
   have hb := nb_lt l k
   have e1 := cidx_bits x (nb l k) hb
   have e2 := cnew_bits x (nb l k) hx hb
   have hi := cidx_lt x (nb l k) hb
   have ht := hT _ hi
   have hx' := cnew_lt x (nb l k) hx hb
   clear hc hT hn
   go_wp2
   go_round
   case rel => exact ⟨k + 1, _, by omega, hx', Lib.hid (by rw [crcRun_take _ _ _ hlt, Hx.out]), by go_num, rfl⟩
   case measure => simp [intOf]; omega
  ·
   have hk' : k = l.length := by omega
   have hn2 := not32 x hx
   clear hc hT hn
   go_wp2
   go_ret2
   refine ⟨rfl, ?_⟩
   rw [Hx.out, hk', List.take_length]; rfl
theorem flip_flip {x : Nat} (h : x < 4294967296) : flip32 (flip32 x) = x := by unfold flip32; omega
theorem crc_append (acc l : List UInt8) : flip32 (crcRun (flip32 (crc acc)) l) = crc (acc ++ l) := by
 unfold crc
 rw [flip_flip (crcRun_lt _ (by decide)), crcRun_append]
theorem crcW_acc (d b off cap n : Nat) (acc l : List UInt8) (w : World) (hn : l.length = n) (hl : n ≤ 9223372036854775807) (t : TypeId) (hr : Row w d t 1)
  (hd : w.cell? ⟨d, 0, none⟩ = some (.int .u32 (crc acc : Nat))) (hT : Tab w 3 .u32 256 crc8) (hc : Seg w b off l) :
  Calls Tryz.prog 87 #[.pointer (some ⟨d, 0, none⟩), .slice (some ⟨b, off, none⟩) n cap] w fun e w' =>
   e = .returned (.tuple #[.int .i64 n, .nilIface]) ∧ Fr [d] w w' ∧ w'.cell? ⟨d, 0, none⟩ = some (.int .u32 (crc (acc ++ l) : Nat)) := by
 subst hn
 refine (crcW d b off cap l (crc acc) (crc_lt acc) w hl hd (hr.frozen 0) hT hc).mono ?_
 rintro e w' ⟨rfl, rfl⟩
 refine ⟨rfl, (Fr.refl _ w).setCell _ _ (.inl (by simp)), ?_⟩
 rw [crc_append]; go_simp
end Go.Proofs.YtnpkgmgedgcjmaaGreatDoor
namespace Go.Proofs.YtnpkgmgedgcjmaaGreatDoor
open Go Go.RowKit Png
set_option maxHeartbeats 400000 in
theorem sum32_any (c : Nat) (v : Value) (w : World) (hc : w.cell? ⟨c, 0, none⟩ = some v) :
  Calls Tryz.prog 108 #[.pointer (some ⟨c, 0, none⟩)] w fun e w' => e = .returned v ∧ w = w' := by
 go_enter Tryz.func108, Tryz.ntmps108
 go_wp2
 go_ret
 exact ⟨rfl, rfl⟩
set_option maxHeartbeats 400000 in
theorem reset_any (c : Nat) (v : Value) (w : World) (hc : w.cell? ⟨c, 0, none⟩ = some v) (hf : w.frozen? ⟨c, 0, none⟩ = false) :
  Calls Tryz.prog 86 #[.pointer (some ⟨c, 0, none⟩)] w fun e w' => e = .returned (.tuple #[]) ∧ w.setCell ⟨c, 0, none⟩ (.int .u32 0) = w' := by
 go_enter Tryz.func86, Tryz.ntmps86
 go_wp2
 go_end0
 exact ⟨rfl, rfl⟩
def be4 (l : List UInt8) (k : Nat) : Nat := ((nb l k * 256 + nb l (k + 1)) * 256 + nb l (k + 2)) * 256 + nb l (k + 3)
theorem be4_lt (l : List UInt8) (k : Nat) : be4 l k < 4294967296 := by
 have := nb_lt l k; have := nb_lt l (k + 1); have := nb_lt l (k + 2); have := nb_lt l (k + 3); unfold be4; omega
set_option maxHeartbeats 400000 in
theorem be32_any (b o k n cap : Nat) (l : List UInt8) (w : World) (hl : k + 4 ≤ l.length) (hn : 4 ≤ n) (hs : Seg w b o l) :
  Calls Tryz.prog 85 #[.slice (some ⟨b, o + k, none⟩) n cap] w fun e w' => e = .returned (.int .u32 (be4 l k : Nat)) ∧ Dr w w' := by
 have c0 := hs k (by omega)
 have c1 := hs (k + 1) (by omega)
 have c2 := hs (k + 2) (by omega)
 have c3 := hs (k + 3) (by omega)
 rw [← Nat.add_assoc] at c1 c2 c3
 have b0 := nb_lt l k
 have b1 := nb_lt l (k + 1)
 have b2 := nb_lt l (k + 2)
 have b3 := nb_lt l (k + 3)
 have hn3 : (3 : Int) < (n : Int) := by omega
 have hn2 : (2 : Int) < (n : Int) := by omega
 have hn1 : (1 : Int) < (n : Int) := by omega
 have hn0 : (0 : Int) < (n : Int) := by omega
 have HF := Lib.hid (show be4 l k = ((nb l k * 256 + nb l (k + 1)) * 256 + nb l (k + 2)) * 256 + nb l (k + 3) from rfl)
 clear hs hl
 go_enter Tryz.func85, Tryz.ntmps85
 go_wp2
 go_quiet (fail)
 go_wp2
 go_bits2
 go_ret
 exact ⟨ret_int (by rw [HF.out]; omega), (Dr.refl w).drewN _⟩
structure Dec (w : World) (d c rb : Nat) (td : TypeId) : Prop where
 row : Row w d td 786
 r : w.cell? ⟨d, 0, none⟩ = some (.iface 84 (.pointer (some ⟨rb, 0, none⟩)))
 crc : w.cell? ⟨d, 2, none⟩ = some (.pointer (some ⟨c, 0, none⟩))
 crow : Row w c 126 1
 ne : c ≠ d ∧ c ≠ rb ∧ d ≠ rb
theorem Dec.fr {w w' : World} {d c rb : Nat} {td : TypeId} (h : Dec w d c rb td) {S : List Nat} (hf : Fr S w w')
  (h0 : w'.cell? ⟨d, 0, none⟩ = w.cell? ⟨d, 0, none⟩) (h2 : w'.cell? ⟨d, 2, none⟩ = w.cell? ⟨d, 2, none⟩) : Dec w' d c rb td :=
 ⟨hf.row _ _ _ h.row, h0.trans h.r, h2.trans h.crc, hf.row _ _ _ h.crow, h.ne⟩
def four (n : Nat) : List UInt8 := [UInt8.ofNat (n / 16777216), UInt8.ofNat (n / 65536), UInt8.ofNat (n / 256), UInt8.ofNat n]
theorem be4_four (n : Nat) (h : n < 4294967296) : be4 (four n) 0 = n := by
 simp [be4, nb, four]
 omega
def sig : List UInt8 := [137, 80, 78, 71, 13, 10, 26, 10]
set_option maxHeartbeats 400000 in
theorem checkHeader_ok (d c rb sb : Nat) (td : TypeId) (rest : List UInt8) (w : World) (hd : Dec w d c rb td) (hs : Src w rb sb (sig ++ rest)) (hds : d ≠ sb) :
  Calls Tryz.prog 64 #[.pointer (some ⟨d, 0, none⟩)] w fun e w' =>
   e = .returned .nilIface ∧ Fr [d, rb] w w' ∧ (∀ o, (o < 10 ∨ 18 ≤ o) → w'.cell? ⟨d, o, none⟩ = w.cell? ⟨d, o, none⟩) ∧ Src w' rb sb rest := by
 have hr := hd.r
 have C := rf_full rb sb d 10 768 786 8 td sig rest w.drew hs (Lib.hid rfl) (by omega) hd.row (by omega) hd.ne.2.2 hds
 have HC := Lib.hid C
 clear C
 go_enter Tryz.func64, Tryz.ntmps64
 go_wp2
 go_region_with (go_at_call 84; refine HC.out.mono ?_; rintro e w1 ⟨rfl, hF, hS, hsame, hsrc⟩)
 have hcv := run_convert_seg (P := Tryz.prog) w1 24 5 9 Tryz.underlying24 Tryz.underlying5 Tryz.underlying9 d 10 8 768 sig rfl hS
 clear HC
 go_wp2
 go_ret
 exact ⟨rfl, hF.undrew, hsame, hsrc⟩
set_option maxHeartbeats 400000 in
theorem verify_ok (d c rb sb : Nat) (td : TypeId) (p rest : List UInt8) (w : World) (hd : Dec w d c rb td) (hs : Src w rb sb (p ++ rest)) (hds : d ≠ sb) (hcs : c ≠ sb) (hp : p.length = 4)
  (hc : w.cell? ⟨c, 0, none⟩ = some (.int .u32 (be4 p 0 : Nat))) :
  Calls Tryz.prog 94 #[.pointer (some ⟨d, 0, none⟩)] w fun e w' =>
   e = .returned .nilIface ∧ Fr [d, rb] w w' ∧ (∀ o, (o < 10 ∨ 14 ≤ o) → w'.cell? ⟨d, o, none⟩ = w.cell? ⟨d, o, none⟩) ∧ Src w' rb sb rest := by
 have hr := hd.r
 have C := rf_full rb sb d 10 768 786 4 td p rest w.drew hs (Lib.hid hp) (by omega) hd.row (by omega) hd.ne.2.2 hds
 have HC := Lib.hid C
 have Hp := Lib.hid hp
 clear C hp
 go_enter Tryz.func94, Tryz.ntmps94
 go_wp2
 go_region_with (go_at_call 84; refine HC.out.mono ?_; rintro e w1 ⟨rfl, hF, hS, hsame, hsrc⟩)
 have r1 : w1.cell? ⟨d, 2, none⟩ = some (.pointer (some ⟨c, 0, none⟩)) := by rw [hsame 2 (by omega)]; exact hd.crc
 have c1 : w1.cell? ⟨c, 0, none⟩ = some (.int .u32 (be4 p 0 : Nat)) := by
  rw [hF.cell (by simpa using hd.crow.lt) (by simp [hd.ne.1, hd.ne.2.1])]; exact hc
 have Hsame := Lib.hid hsame
 clear HC hsame hr hc
 go_wp2
 go_quiet ((first | (go_at_call 85; exact calls_dr (be32_any d 10 0 4 768 p _ (Nat.le_of_eq Hp.out.symm) (by omega) hS)) | (go_at_call 108; exact calls_same (sum32_any c _ _ c1))))
 go_wp2
 go_ret
 exact ⟨rfl, hF.undrew.drewN _, Hsame.out, hsrc.fr ((Fr.refl [] w1).drewN _) (by simp) (by simp)⟩
end Go.Proofs.YtnpkgmgedgcjmaaGreatDoor
end
