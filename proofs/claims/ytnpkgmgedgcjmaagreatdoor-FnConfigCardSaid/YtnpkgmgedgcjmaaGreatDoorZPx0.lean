/- A part of the proof: Px0, Px2, Px4. -/
import Derived.ArgAppend
import Derived.Below
import Derived.BigQuiet
import Derived.Deep.AppendLies
import Derived.Deep.CutBlock
import Derived.Deep.DeepCutAuto
import Derived.Deep.Draws
import Derived.Deep.LoopGhost
import Derived.Deep.OwnRows
import Derived.Deep.QuietTactic
import Derived.Deep.RegionHeld3
import Derived.KernelRfl
import Derived.Laws.BitsLemmas
import Derived.Laws.BytesArg
import Derived.Laws.IdiomCopy
import Derived.Laws.MakeOwn
import Derived.Laws.OwnMore
import Derived.Laws.Rows
import Derived.Laws.Slices
import Derived.Laws.StructEq
import Derived.Lib.AppendStr
import Derived.Lib.ConvBytes
import Derived.Maps.AppendAt
import Derived.OrdersHeld
import Derived.OwnWalk
import Derived.RowKit
import Derived.RowKit3
import Derived.Tactics
import Derived.Test.YtnpkgmgedgcjmaaGreatDoorProg
import Derived.WalkKit
import Derived.WideLaws
import Derived.Test.YtnpkgmgedgcjmaaGreatDoorZWFoot
import Derived.Test.YtnpkgmgedgcjmaaGreatDoorZWWords
set_option linter.all false
set_option maxRecDepth 100000
section
namespace Go.Proofs.YtnpkgmgedgcjmaaGreatDoor.Pr
open Go.RowKit Go.Proofs.YtnpkgmgedgcjmaaGreatDoorW.PrintWords Go.Proofs.YtnpkgmgedgcjmaaGreatDoorW.PrintLast Go.Proofs.YtnpkgmgedgcjmaaGreatDoorW.PrintMore
attribute [local go_sem] max2_int max_two
theorem info3 : (Tryz.prog.info? 3).map (fun i => (i.zero, i.size, i.bytes)) = some (some (.int .i64 0), 1, 8) := by kernel_rfl
theorem info5 : (Tryz.prog.info? 5).map (fun i => (i.zero, i.size, i.bytes)) = some (some (.int .u8 0), 1, 1) := by kernel_rfl
structure S151 where
 f0 : Int
 f1 : Int
 f2 : Int
 f3 : Int
def z151 : S151 := ⟨(0 : Int), (0 : Int), (0 : Int), (0 : Int)⟩
def k151 : Kd S151 := Kd.iso (Kd.pair (Kd.int .i64) (Kd.pair (Kd.int .i64) (Kd.pair (Kd.int .i64) (Kd.int .i64)))) (fun x : S151 => (x.f0, x.f1, x.f2, x.f3))
theorem k151_open {w : World} {x : S151} {cs : List Value} (h : k151.K w x cs) : cs = [.int .i64 x.f0, .int .i64 x.f1, .int .i64 x.f2, .int .i64 x.f3] := by
 obtain ⟨_, _, rfl, rfl, ⟨_, _, rfl, rfl, ⟨_, _, rfl, rfl, rfl⟩⟩⟩ := h
 exact rfl
theorem k151_mkM (w : World) (base : Nat) (ok : Nat → Prop) (x : S151)  : k151.M w base ok x [.int .i64 x.f0, .int .i64 x.f1, .int .i64 x.f2, .int .i64 x.f3] := ⟨[.int .i64 x.f0], [.int .i64 x.f1, .int .i64 x.f2, .int .i64 x.f3], rfl, rfl, ⟨[.int .i64 x.f1], [.int .i64 x.f2, .int .i64 x.f3], rfl, rfl, ⟨[.int .i64 x.f2], [.int .i64 x.f3], rfl, rfl, rfl⟩⟩⟩
def rd_T151 (xs : List S151) (i : Int) : S151 := xs.getD i.toNat z151
theorem at_T151 {w : World} {A : Option Addr} {n : Nat} {xs : List S151} (h : Kd.C k151 w A n xs) (i : Int) (h0 : 0 ≤ i) (h1 : i < n) : ∃ ad , A = some ad ∧ w.cell? (ad.add (i.toNat * 4)) = some (.int .i64 (rd_T151 xs i).f0) ∧ w.cell? ⟨(ad.add (i.toNat * 4)).block, (ad.add (i.toNat * 4)).off + 1, none⟩ = some (.int .i64 (rd_T151 xs i).f1) ∧ w.cell? ⟨(ad.add (i.toNat * 4)).block, (ad.add (i.toNat * 4)).off + 2, none⟩ = some (.int .i64 (rd_T151 xs i).f2) ∧ w.cell? ⟨(ad.add (i.toNat * 4)).block, (ad.add (i.toNat * 4)).off + 3, none⟩ = some (.int .i64 (rd_T151 xs i).f3) := by
 obtain ⟨ad, c, e, _, hK, hc0⟩ := Kd.C_get h z151 i h0 h1
 have hc : ∀ j u, c[j]? = some u → w.cell? (ad.add (i.toNat * 4 + j)) = some u := hc0
 obtain rfl := k151_open hK
 exact ⟨ad, e, hc 0 _ rfl, by rw [← add_field _ _ 1 (by omega)]; exact hc 1 _ rfl, by rw [← add_field _ _ 2 (by omega)]; exact hc 2 _ rfl, by rw [← add_field _ _ 3 (by omega)]; exact hc 3 _ rfl⟩
end Go.Proofs.YtnpkgmgedgcjmaaGreatDoor.Pr
end
section
namespace Go.Proofs.YtnpkgmgedgcjmaaGreatDoor.Pr
open Go.RowKit Go.Proofs.YtnpkgmgedgcjmaaGreatDoorW.PrintWords Go.Proofs.YtnpkgmgedgcjmaaGreatDoorW.PrintLast Go.Proofs.YtnpkgmgedgcjmaaGreatDoorW.PrintMore
attribute [local go_sem] max2_int max_two
def spec_four.f (l0 : List Int) (a1 : Int) : Option (Int) := if 0 ≤ a1 then (if a1 < (l0.length : Int) then (if 0 ≤ (wrap64 (a1 + 1)) then (if (wrap64 (a1 + 1)) < (l0.length : Int) then (if 0 ≤ (wrap64 (a1 + 2)) then (if (wrap64 (a1 + 2)) < (l0.length : Int) then (if 0 ≤ (wrap64 (a1 + 3)) then (if (wrap64 (a1 + 3)) < (l0.length : Int) then (some (Go.bits .or .u32 (Go.bits .or .u32 (Go.bits .or .u32 ((((rd l0 a1) % 4294967296) * 16777216) % 4294967296) ((((rd l0 (wrap64 (a1 + 1))) % 4294967296) * 65536) % 4294967296)) ((((rd l0 (wrap64 (a1 + 2))) % 4294967296) * 256) % 4294967296)) ((rd l0 (wrap64 (a1 + 3))) % 4294967296))) else (none)) else (none)) else (none)) else (none)) else (none)) else (none)) else (none)) else (none)
set_option maxHeartbeats 8000000 in
theorem spec_four.calls (A0 : Option Addr) (c0 : Nat) (l0 : List Int) (a1 : Int) (r : Int) (w : World) (hr0 : Kd.C (Kd.int .u8) w A0 l0.length l0) (hc0 : l0.length ≤ c0) (h : spec_four.f l0 a1 = some r) :
  Calls Tryz.prog 44 #[.slice A0 l0.length c0, .int .i64 a1] w fun e w' => e = .returned (.int .u32 r) ∧ Drawn0 w w' := by
 have HR0 := Aside0.mk hr0
 have HC0 := Aside0.mk hc0
 clear hr0 hc0
 have H : (if 0 ≤ a1 then (if a1 < (l0.length : Int) then (if 0 ≤ (wrap64 (a1 + 1)) then (if (wrap64 (a1 + 1)) < (l0.length : Int) then (if 0 ≤ (wrap64 (a1 + 2)) then (if (wrap64 (a1 + 2)) < (l0.length : Int) then (if 0 ≤ (wrap64 (a1 + 3)) then (if (wrap64 (a1 + 3)) < (l0.length : Int) then (some (Go.bits .or .u32 (Go.bits .or .u32 (Go.bits .or .u32 ((((rd l0 a1) % 4294967296) * 16777216) % 4294967296) ((((rd l0 (wrap64 (a1 + 1))) % 4294967296) * 65536) % 4294967296)) ((((rd l0 (wrap64 (a1 + 2))) % 4294967296) * 256) % 4294967296)) ((rd l0 (wrap64 (a1 + 3))) % 4294967296))) else (none)) else (none)) else (none)) else (none)) else (none)) else (none)) else (none)) else (none)) = some r := h
 clear h
 by_cases c3 : 0 ≤ a1
 ·
  rw [if_pos c3] at H
  have c3b0 : decide (0 ≤ a1) = true := decide_eq_true c3
  clear c3
  by_cases c4 : a1 < (l0.length : Int)
  ·
   rw [if_pos c4] at H
   have c4b0 : decide (a1 < (l0.length : Int)) = true := decide_eq_true c4
   clear c4
   obtain ⟨ji5, hji5⟩ : ∃ j_ : Int, (wrap64 (a1 + 1)) = j_ := ⟨_, rfl⟩
   replace H : (if 0 ≤ (ji5) then (if (ji5) < (l0.length : Int) then (if 0 ≤ (wrap64 (a1 + 2)) then (if (wrap64 (a1 + 2)) < (l0.length : Int) then (if 0 ≤ (wrap64 (a1 + 3)) then (if (wrap64 (a1 + 3)) < (l0.length : Int) then (some (Go.bits .or .u32 (Go.bits .or .u32 (Go.bits .or .u32 ((((rd l0 a1) % 4294967296) * 16777216) % 4294967296) ((((rd l0 (ji5)) % 4294967296) * 65536) % 4294967296)) ((((rd l0 (wrap64 (a1 + 2))) % 4294967296) * 256) % 4294967296)) ((rd l0 (wrap64 (a1 + 3))) % 4294967296))) else (none)) else (none)) else (none)) else (none)) else (none)) else (none)) = some r := by first | (rw [hji5] at H; exact H) | (simp only [hji5] at H ⊢; exact H)
   have hji5w : (IntKind.i64.wrap (a1 + 1)) = ji5 := (i64_w _).trans hji5
   by_cases c6 : 0 ≤ (ji5)
   ·
    rw [if_pos c6] at H
    have c6b0 : decide (0 ≤ (ji5)) = true := decide_eq_true c6
    clear c6
    by_cases c7 : (ji5) < (l0.length : Int)
    ·
     rw [if_pos c7] at H
     have c7b0 : decide ((ji5) < (l0.length : Int)) = true := decide_eq_true c7
     clear c7
     obtain ⟨ji8, hji8⟩ : ∃ j_ : Int, (wrap64 (a1 + 2)) = j_ := ⟨_, rfl⟩
     replace H : (if 0 ≤ (ji8) then (if (ji8) < (l0.length : Int) then (if 0 ≤ (wrap64 (a1 + 3)) then (if (wrap64 (a1 + 3)) < (l0.length : Int) then (some (Go.bits .or .u32 (Go.bits .or .u32 (Go.bits .or .u32 ((((rd l0 a1) % 4294967296) * 16777216) % 4294967296) ((((rd l0 (ji5)) % 4294967296) * 65536) % 4294967296)) ((((rd l0 (ji8)) % 4294967296) * 256) % 4294967296)) ((rd l0 (wrap64 (a1 + 3))) % 4294967296))) else (none)) else (none)) else (none)) else (none)) = some r := by first | (rw [hji8] at H; exact H) | (simp only [hji8] at H ⊢; exact H)
     have hji8w : (IntKind.i64.wrap (a1 + 2)) = ji8 := (i64_w _).trans hji8
     by_cases c9 : 0 ≤ (ji8)
     ·
      rw [if_pos c9] at H
      have c9b0 : decide (0 ≤ (ji8)) = true := decide_eq_true c9
      clear c9
      by_cases c10 : (ji8) < (l0.length : Int)
      ·
       rw [if_pos c10] at H
       have c10b0 : decide ((ji8) < (l0.length : Int)) = true := decide_eq_true c10
       clear c10
       obtain ⟨ji11, hji11⟩ : ∃ j_ : Int, (wrap64 (a1 + 3)) = j_ := ⟨_, rfl⟩
       replace H : (if 0 ≤ (ji11) then (if (ji11) < (l0.length : Int) then (some (Go.bits .or .u32 (Go.bits .or .u32 (Go.bits .or .u32 ((((rd l0 a1) % 4294967296) * 16777216) % 4294967296) ((((rd l0 (ji5)) % 4294967296) * 65536) % 4294967296)) ((((rd l0 (ji8)) % 4294967296) * 256) % 4294967296)) ((rd l0 (ji11)) % 4294967296))) else (none)) else (none)) = some r := by first | (rw [hji11] at H; exact H) | (simp only [hji11] at H ⊢; exact H)
       have hji11w : (IntKind.i64.wrap (a1 + 3)) = ji11 := (i64_w _).trans hji11
       by_cases c12 : 0 ≤ (ji11)
       ·
        rw [if_pos c12] at H
        have c12b0 : decide (0 ≤ (ji11)) = true := decide_eq_true c12
        clear c12
        by_cases c13 : (ji11) < (l0.length : Int)
        ·
         rw [if_pos c13] at H
         have c13b0 : decide ((ji11) < (l0.length : Int)) = true := decide_eq_true c13
         clear c13
         obtain rfl := Option.some.inj H
         have p101 : 0 ≤ (a1 : Int) := of_decide_eq_true (by first | (with_reducible assumption) | assumption)
         have q101 : a1 < (l0.length : Int) := of_decide_eq_true (by first | (with_reducible assumption) | assumption)
         obtain ⟨ad101, e101, hx101_0⟩ := Kd.at_int HR0.out a1 p101 q101
         cases e101
         replace p101 := eq_true p101
         replace q101 := eq_true q101
         have p102 : 0 ≤ ((ji5) : Int) := of_decide_eq_true (by first | (with_reducible assumption) | assumption)
         have q102 : (ji5) < (l0.length : Int) := of_decide_eq_true (by first | (with_reducible assumption) | assumption)
         obtain ⟨ad102, e102, hx102_0⟩ := Kd.at_int HR0.out (ji5) p102 q102
         obtain rfl : ad101 = ad102 := (by injection e102)
         replace p102 := eq_true p102
         replace q102 := eq_true q102
         have p103 : 0 ≤ ((ji8) : Int) := of_decide_eq_true (by first | (with_reducible assumption) | assumption)
         have q103 : (ji8) < (l0.length : Int) := of_decide_eq_true (by first | (with_reducible assumption) | assumption)
         obtain ⟨ad103, e103, hx103_0⟩ := Kd.at_int HR0.out (ji8) p103 q103
         obtain rfl : ad101 = ad103 := (by injection e103)
         replace p103 := eq_true p103
         replace q103 := eq_true q103
         have p104 : 0 ≤ ((ji11) : Int) := of_decide_eq_true (by first | (with_reducible assumption) | assumption)
         have q104 : (ji11) < (l0.length : Int) := of_decide_eq_true (by first | (with_reducible assumption) | assumption)
         obtain ⟨ad104, e104, hx104_0⟩ := Kd.at_int HR0.out (ji11) p104 q104
         obtain rfl : ad101 = ad104 := (by injection e104)
         replace p104 := eq_true p104
         replace q104 := eq_true q104
         go_enter Tryz.func44, Tryz.ntmps44
         go_wp2
         repeat (go_quiet (fail); try go_wp2)
         go_ret
         exact ⟨by first | rfl | (simp; done) | (simp only [← hji5, ← hji8, ← hji11] <;> (first | rfl | simp)) | (simp [*]; done), by repeat (first | exact Drawn0.refl _ | apply Drawn0.step)⟩
        ·
         rw [if_neg c13] at H
         exact absurd H (by simp)
       ·
        rw [if_neg c12] at H
        exact absurd H (by simp)
      ·
       rw [if_neg c10] at H
       exact absurd H (by simp)
     ·
      rw [if_neg c9] at H
      exact absurd H (by simp)
    ·
     rw [if_neg c7] at H
     exact absurd H (by simp)
   ·
    rw [if_neg c6] at H
    exact absurd H (by simp)
  ·
   rw [if_neg c4] at H
   exact absurd H (by simp)
 ·
  rw [if_neg c3] at H
  exact absurd H (by simp)
def spec_Small.f (l0 : List Int) : Option (Bool) := if (l0.length : Int) > 262144 then (some false) else (if (l0.length : Int) < 24 then (some true) else ((spec_four.f l0 16).bind fun t105 => ((spec_four.f l0 20).bind fun t106 => (if (wrap64 (t105)) ≤ 16384 then (if (wrap64 (t106)) ≤ 16384 then (some (decide ((wrap64 ((wrap64 (t105)) * (wrap64 (t106)))) ≤ 16384))) else (some false)) else (some false)))))
set_option maxHeartbeats 8000000 in
theorem spec_Small.calls (A0 : Option Addr) (c0 : Nat) (l0 : List Int) (r : Bool) (w : World) (hr0 : Kd.C (Kd.int .u8) w A0 l0.length l0) (hc0 : l0.length ≤ c0) (h : spec_Small.f l0 = some r) :
  Calls Tryz.prog 23 #[.slice A0 l0.length c0] w fun e w' => e = .returned (.bool r) ∧ Drawn0 w w' := by
 have HR0 := Aside0.mk hr0
 have HC0 := Aside0.mk hc0
 clear hr0 hc0
 have H : (if (l0.length : Int) > 262144 then (some false) else (if (l0.length : Int) < 24 then (some true) else ((spec_four.f l0 16).bind fun t105 => ((spec_four.f l0 20).bind fun t106 => (if (wrap64 (t105)) ≤ 16384 then (if (wrap64 (t106)) ≤ 16384 then (some (decide ((wrap64 ((wrap64 (t105)) * (wrap64 (t106)))) ≤ 16384))) else (some false)) else (some false)))))) = some r := h
 clear h
 by_cases c2 : (l0.length : Int) > 262144
 ·
  rw [if_pos c2] at H
  have c2b0 : decide (262144 < (l0.length : Int)) = true := decide_eq_true c2
  have c2b1 : decide (262144 < l0.length) = true := decide_eq_true (by omega)
  clear c2
  obtain rfl := Option.some.inj H
  go_enter Tryz.func23, Tryz.ntmps23
  go_wp2
  go_ret
  exact ⟨by first | rfl | (simp; done) | (simp [*]; done), by repeat (first | exact Drawn0.refl _ | apply Drawn0.step)⟩
 ·
  rw [if_neg c2] at H
  have c2b0 : decide (262144 < (l0.length : Int)) = false := decide_eq_false c2
  have c2b1 : decide (262144 < l0.length) = false := decide_eq_false (by omega)
  clear c2
  by_cases c3 : (l0.length : Int) < 24
  ·
   rw [if_pos c3] at H
   have c3b0 : decide ((l0.length : Int) < 24) = true := decide_eq_true c3
   have c3b1 : decide (l0.length < 24) = true := decide_eq_true (by omega)
   clear c3
   obtain rfl := Option.some.inj H
   go_enter Tryz.func23, Tryz.ntmps23
   go_wp2
   go_ret
   exact ⟨by first | rfl | (simp; done) | (simp [*]; done), by repeat (first | exact Drawn0.refl _ | apply Drawn0.step)⟩
  ·
   rw [if_neg c3] at H
   have c3b0 : decide ((l0.length : Int) < 24) = false := decide_eq_false c3
   have c3b1 : decide (l0.length < 24) = false := decide_eq_false (by omega)
   clear c3
   replace H := Option.bind_eq_some_iff.mp H
   obtain ⟨t105, A40, H⟩ := H
   replace H : ((spec_four.f l0 20).bind fun t106 => (if (wrap64 (t105)) ≤ 16384 then (if (wrap64 (t106)) ≤ 16384 then (some (decide ((wrap64 ((wrap64 (t105)) * (wrap64 (t106)))) ≤ 16384))) else (some false)) else (some false))) = some r := H
   have A4 := Aside0.mk A40
   clear A40
   replace H := Option.bind_eq_some_iff.mp H
   obtain ⟨t106, A50, H⟩ := H
   replace H : (if (wrap64 (t105)) ≤ 16384 then (if (wrap64 (t106)) ≤ 16384 then (some (decide ((wrap64 ((wrap64 (t105)) * (wrap64 (t106)))) ≤ 16384))) else (some false)) else (some false)) = some r := H
   have A5 := Aside0.mk A50
   clear A50
   by_cases c6 : (wrap64 (t105)) ≤ 16384
   ·
    rw [if_pos c6] at H
    have c6b0 : decide ((wrap64 (t105)) ≤ 16384) = true := decide_eq_true c6
    clear c6
    by_cases c7 : (wrap64 (t106)) ≤ 16384
    ·
     rw [if_pos c7] at H
     have c7b0 : decide ((wrap64 (t106)) ≤ 16384) = true := decide_eq_true c7
     clear c7
     obtain rfl := Option.some.inj H
     go_enter Tryz.func23, Tryz.ntmps23
     go_wp2_with (first | ((with_reducible refine gate_callee (f := 44) rfl ?_); refine goesL_ (some 12) rfl rfl Tryz.func44 (by kernel_rfl) rfl #[.slice A0 l0.length c0, .int .i64 16] rfl (by (try simp only [List.map_toArray, List.map_cons, List.map_nil]); first | done | rfl | (simp only [List.length_drop, List.length_take]; rfl)) ?_; (with_reducible refine (spec_four.calls _ _ l0 16 t105 _ ?side1 ?side2 A4.out).mono ?_); (case side1 => repeat (first | exact HR0.out | (with_reducible refine Kd.C_alloc ?_ _) | (with_reducible refine Kd.C_drewN ?_ _) | (with_reducible refine Kd.C_drew ?_))); (case side2 => exact HC0.out); rintro e w' ⟨rfl, ⟨nd, rfl⟩⟩; refine ⟨_, rfl, ?_⟩) | ((with_reducible refine gate_callee (f := 44) rfl ?_); refine goesL_ (some 15) rfl rfl Tryz.func44 (by kernel_rfl) rfl #[.slice A0 l0.length c0, .int .i64 20] rfl (by (try simp only [List.map_toArray, List.map_cons, List.map_nil]); first | done | rfl | (simp only [List.length_drop, List.length_take]; rfl)) ?_; (with_reducible refine (spec_four.calls _ _ l0 20 t106 _ ?side1 ?side2 A5.out).mono ?_); (case side1 => repeat (first | exact HR0.out | (with_reducible refine Kd.C_alloc ?_ _) | (with_reducible refine Kd.C_drewN ?_ _) | (with_reducible refine Kd.C_drew ?_))); (case side2 => exact HC0.out); rintro e w' ⟨rfl, ⟨nd, rfl⟩⟩; refine ⟨_, rfl, ?_⟩))
     go_ret
     exact ⟨by first | rfl | (simp; done) | (simp [*]; done), by repeat (first | exact Drawn0.refl _ | apply Drawn0.step)⟩
    ·
     rw [if_neg c7] at H
     have c7b0 : decide ((wrap64 (t106)) ≤ 16384) = false := decide_eq_false c7
     clear c7
     obtain rfl := Option.some.inj H
     go_enter Tryz.func23, Tryz.ntmps23
     go_wp2_with (first | ((with_reducible refine gate_callee (f := 44) rfl ?_); refine goesL_ (some 12) rfl rfl Tryz.func44 (by kernel_rfl) rfl #[.slice A0 l0.length c0, .int .i64 16] rfl (by (try simp only [List.map_toArray, List.map_cons, List.map_nil]); first | done | rfl | (simp only [List.length_drop, List.length_take]; rfl)) ?_; (with_reducible refine (spec_four.calls _ _ l0 16 t105 _ ?side1 ?side2 A4.out).mono ?_); (case side1 => repeat (first | exact HR0.out | (with_reducible refine Kd.C_alloc ?_ _) | (with_reducible refine Kd.C_drewN ?_ _) | (with_reducible refine Kd.C_drew ?_))); (case side2 => exact HC0.out); rintro e w' ⟨rfl, ⟨nd, rfl⟩⟩; refine ⟨_, rfl, ?_⟩) | ((with_reducible refine gate_callee (f := 44) rfl ?_); refine goesL_ (some 15) rfl rfl Tryz.func44 (by kernel_rfl) rfl #[.slice A0 l0.length c0, .int .i64 20] rfl (by (try simp only [List.map_toArray, List.map_cons, List.map_nil]); first | done | rfl | (simp only [List.length_drop, List.length_take]; rfl)) ?_; (with_reducible refine (spec_four.calls _ _ l0 20 t106 _ ?side1 ?side2 A5.out).mono ?_); (case side1 => repeat (first | exact HR0.out | (with_reducible refine Kd.C_alloc ?_ _) | (with_reducible refine Kd.C_drewN ?_ _) | (with_reducible refine Kd.C_drew ?_))); (case side2 => exact HC0.out); rintro e w' ⟨rfl, ⟨nd, rfl⟩⟩; refine ⟨_, rfl, ?_⟩))
     go_ret
     exact ⟨by first | rfl | (simp; done) | (simp [*]; done), by repeat (first | exact Drawn0.refl _ | apply Drawn0.step)⟩
   ·
    rw [if_neg c6] at H
    have c6b0 : decide ((wrap64 (t105)) ≤ 16384) = false := decide_eq_false c6
    clear c6
    obtain rfl := Option.some.inj H
    go_enter Tryz.func23, Tryz.ntmps23
    go_wp2_with (first | ((with_reducible refine gate_callee (f := 44) rfl ?_); refine goesL_ (some 12) rfl rfl Tryz.func44 (by kernel_rfl) rfl #[.slice A0 l0.length c0, .int .i64 16] rfl (by (try simp only [List.map_toArray, List.map_cons, List.map_nil]); first | done | rfl | (simp only [List.length_drop, List.length_take]; rfl)) ?_; (with_reducible refine (spec_four.calls _ _ l0 16 t105 _ ?side1 ?side2 A4.out).mono ?_); (case side1 => repeat (first | exact HR0.out | (with_reducible refine Kd.C_alloc ?_ _) | (with_reducible refine Kd.C_drewN ?_ _) | (with_reducible refine Kd.C_drew ?_))); (case side2 => exact HC0.out); rintro e w' ⟨rfl, ⟨nd, rfl⟩⟩; refine ⟨_, rfl, ?_⟩) | ((with_reducible refine gate_callee (f := 44) rfl ?_); refine goesL_ (some 15) rfl rfl Tryz.func44 (by kernel_rfl) rfl #[.slice A0 l0.length c0, .int .i64 20] rfl (by (try simp only [List.map_toArray, List.map_cons, List.map_nil]); first | done | rfl | (simp only [List.length_drop, List.length_take]; rfl)) ?_; (with_reducible refine (spec_four.calls _ _ l0 20 t106 _ ?side1 ?side2 A5.out).mono ?_); (case side1 => repeat (first | exact HR0.out | (with_reducible refine Kd.C_alloc ?_ _) | (with_reducible refine Kd.C_drewN ?_ _) | (with_reducible refine Kd.C_drew ?_))); (case side2 => exact HC0.out); rintro e w' ⟨rfl, ⟨nd, rfl⟩⟩; refine ⟨_, rfl, ?_⟩))
    go_ret
    exact ⟨by first | rfl | (simp; done) | (simp [*]; done), by repeat (first | exact Drawn0.refl _ | apply Drawn0.step)⟩
def spec_Channels.f (a0 : Int) : Option (Int) := if a0 = 2 then (some 3) else (if a0 = 4 then (some 2) else (if a0 = 6 then (some 4) else (some 1)))
set_option maxHeartbeats 8000000 in
theorem spec_Channels.calls (a0 : Int) (r : Int) (w : World) (h : spec_Channels.f a0 = some r) :
  Calls Tryz.prog 36 #[.int .i64 a0] w fun e w' => e = .returned (.int .i64 r) ∧ Drawn0 w w' := by
 have H : (if a0 = 2 then (some 3) else (if a0 = 4 then (some 2) else (if a0 = 6 then (some 4) else (some 1)))) = some r := h
 clear h
 by_cases c2 : a0 = 2
 ·
  rw [if_pos c2] at H
  have c2b0 : (a0 == 2) = true := beq_iff_eq.mpr c2
  have c2b1 : (a0 != 2) = false := bne_eq_false_iff_eq.mpr c2
  clear c2
  obtain rfl := Option.some.inj H
  go_enter Tryz.func36, Tryz.ntmps36
  go_wp2
  go_ret
  exact ⟨by first | rfl | (simp; done) | (simp [*]; done), by repeat (first | exact Drawn0.refl _ | apply Drawn0.step)⟩
 ·
  rw [if_neg c2] at H
  have c2b0 : (a0 == 2) = false := beq_eq_false_iff_ne.mpr c2
  have c2b1 : (a0 != 2) = true := bne_iff_ne.mpr c2
  by_cases c3 : a0 = 4
  ·
   rw [if_pos c3] at H
   have c3b0 : (a0 == 4) = true := beq_iff_eq.mpr c3
   have c3b1 : (a0 != 4) = false := bne_eq_false_iff_eq.mpr c3
   clear c3
   obtain rfl := Option.some.inj H
   go_enter Tryz.func36, Tryz.ntmps36
   go_wp2
   go_ret
   exact ⟨by first | rfl | (simp; done) | (simp [*]; done), by repeat (first | exact Drawn0.refl _ | apply Drawn0.step)⟩
  ·
   rw [if_neg c3] at H
   have c3b0 : (a0 == 4) = false := beq_eq_false_iff_ne.mpr c3
   have c3b1 : (a0 != 4) = true := bne_iff_ne.mpr c3
   by_cases c4 : a0 = 6
   ·
    rw [if_pos c4] at H
    have c4b0 : (a0 == 6) = true := beq_iff_eq.mpr c4
    have c4b1 : (a0 != 6) = false := bne_eq_false_iff_eq.mpr c4
    clear c4
    obtain rfl := Option.some.inj H
    go_enter Tryz.func36, Tryz.ntmps36
    go_wp2
    go_ret
    exact ⟨by first | rfl | (simp; done) | (simp [*]; done), by repeat (first | exact Drawn0.refl _ | apply Drawn0.step)⟩
   ·
    rw [if_neg c4] at H
    have c4b0 : (a0 == 6) = false := beq_eq_false_iff_ne.mpr c4
    have c4b1 : (a0 != 6) = true := bne_iff_ne.mpr c4
    obtain rfl := Option.some.inj H
    go_enter Tryz.func36, Tryz.ntmps36
    go_wp2
    go_ret
    exact ⟨by first | rfl | (simp; done) | (simp [*]; done), by repeat (first | exact Drawn0.refl _ | apply Drawn0.step)⟩
end Go.Proofs.YtnpkgmgedgcjmaaGreatDoor.Pr
end
section
namespace Go.Proofs.YtnpkgmgedgcjmaaGreatDoor.Pr
open Go.RowKit Go.Proofs.YtnpkgmgedgcjmaaGreatDoorW.PrintWords Go.Proofs.YtnpkgmgedgcjmaaGreatDoorW.PrintLast Go.Proofs.YtnpkgmgedgcjmaaGreatDoorW.PrintMore
attribute [local go_sem] max2_int max_two
def spec_Adler.l0 : Nat → Int → Int → List Int → Int → Int → Option (Int)
 | 0, _, _, _, _, _ => none
 | k + 1, x3, x4, x7, x8, x9 => if x9 < x8 then (if 0 ≤ x9 then (if x9 < (x7.length : Int) then (spec_Adler.l0 k (((x3 + ((rd x7 x9) % 4294967296)) % 4294967296) % 65521) (((x4 + (((x3 + ((rd x7 x9) % 4294967296)) % 4294967296) % 65521)) % 4294967296) % 65521) x7 x8 (wrap64 (x9 + 1))) else (none)) else (none)) else (some (Go.bits .or .u32 ((x4 * 65536) % 4294967296) x3))
def spec_Adler.f (k : Nat) (l0 : List Int) : Option (Int) := spec_Adler.l0 k 1 0 l0 (l0.length : Int) 0
set_option maxHeartbeats 8000000 in
theorem spec_Adler.calls (k : Nat) (A0 : Option Addr) (c0 : Nat) (l0 : List Int) (r : Int) (w : World) (hr0 : Kd.C (Kd.int .u8) w A0 l0.length l0) (hc0 : l0.length ≤ c0) (h : spec_Adler.f k l0 = some r) :
  Calls Tryz.prog 71 #[.slice A0 l0.length c0] w fun e w' => e = .returned (.int .u32 r) ∧ Drawn0 w w' := by
 have HR0 := Aside0.mk hr0
 have HC0 := Aside0.mk hc0
 clear hr0 hc0
 have H : (spec_Adler.l0 k 1 0 l0 (l0.length : Int) 0) = some r := h
 clear h
 have H' := Aside0.mk H
 clear H
 go_enter Tryz.func71, Tryz.ntmps71
 go_wp2
 go_loopg [3, 4, 9] k (fun kq v3 v4 v9 w' => ∃ (x3_1 : Int) (x4_1 : Int) (x9_1 : Int), v3 = .int .u32 x3_1 ∧ v4 = .int .u32 x4_1 ∧ v9 = .int .i64 x9_1 ∧ Aside0 (spec_Adler.l0 kq x3_1 x4_1 l0 (l0.length : Int) x9_1 = some r) ∧ Aside0 (kq ≤ k) ∧ Drawn0 w w')
 case atStart => exact ⟨(1), (0), (0), (by first | rfl | (simp; done) | (simp [*]; done)), (by first | rfl | (simp; done) | (simp [*]; done)), (by first | rfl | (simp; done) | (simp [*]; done)), H', ⟨Nat.le_refl _⟩, by repeat (first | exact Drawn0.refl _ | apply Drawn0.step)⟩
 case round =>
  clear H'
  obtain ⟨x3_1, x4_1, x9_1, rfl, rfl, rfl, HA, HK1, ⟨m1, rfl⟩⟩ := hrel
  cases gk with
  | zero => exact absurd HA.out (by simp [spec_Adler.l0])
  | succ k1 =>
   have H := HA.out
   clear HA
   simp only [spec_Adler.l0] at H
   by_cases c2 : x9_1 < (l0.length : Int)
   ·
    rw [if_pos c2] at H
    have c2b0 : decide (x9_1 < (l0.length : Int)) = true := decide_eq_true c2
    clear c2
    by_cases c3 : 0 ≤ x9_1
    ·
     rw [if_pos c3] at H
     have c3b0 : decide (0 ≤ x9_1) = true := decide_eq_true c3
     clear c3
     by_cases c4 : x9_1 < (l0.length : Int)
     ·
      rw [if_pos c4] at H
      have c4b0 : decide (x9_1 < (l0.length : Int)) = true := decide_eq_true c4
      clear c4
      have H' := Aside0.mk H
      clear H
      have p178 : 0 ≤ (x9_1 : Int) := of_decide_eq_true (by first | (with_reducible assumption) | assumption)
      have q178 : x9_1 < (l0.length : Int) := of_decide_eq_true (by first | (with_reducible assumption) | assumption)
      obtain ⟨ad178, e178, hx178_0⟩ := Kd.at_int HR0.out x9_1 p178 q178
      cases e178
      replace p178 := eq_true p178
      replace q178 := eq_true q178
      go_wp2
      go_roundg k1
      case measure => have := HK1.out; omega
      case rel => exact ⟨(((x3_1 + ((rd l0 x9_1) % 4294967296)) % 4294967296) % 65521), (((x4_1 + (((x3_1 + ((rd l0 x9_1) % 4294967296)) % 4294967296) % 65521)) % 4294967296) % 65521), (wrap64 (x9_1 + 1)), (by first | rfl | (simp; done) | (simp [*]; done)), (by first | rfl | (simp; done) | (simp [*]; done)), (by first | rfl | (simp; done) | (simp [*]; done)), H', ⟨by have := HK1.out; omega⟩, by repeat (first | exact Drawn0.refl _ | apply Drawn0.step)⟩
     ·
      rw [if_neg c4] at H
      exact absurd H (by simp)
    ·
     rw [if_neg c3] at H
     exact absurd H (by simp)
   ·
    rw [if_neg c2] at H
    have c2b0 : decide (x9_1 < (l0.length : Int)) = false := decide_eq_false c2
    clear c2
    obtain rfl := Option.some.inj H
    go_wp2
    go_ret
    exact ⟨by first | rfl | (simp; done) | (simp [*]; done), by repeat (first | exact Drawn0.refl _ | apply Drawn0.step)⟩
def IsS229 (w0 W : World) (g : Nat) (f0 : List Int) (f1 : Int) : Prop := ∃ A0 c0, W.heap[g]? = some (.cells #[.slice A0 f0.length (f0.length + c0), .int .i64 f1] 229 (0, 0)) ∧ w0.heap.size ≤ g ∧ Kd.C (Kd.int .u8) w0 A0 f0.length f0
theorem IsS229.grown {w0 W : World} {g : Nat} {f0 : List Int} {f1 : Int} {W1 : World} {row : Option Nat} (h : IsS229 w0 W g f0 f1) (hw : W.grownBy W1 row) (hne : some g ≠ row) : IsS229 w0 W1 g f0 f1 := by
 obtain ⟨A0, c0, hb, hg, hr0⟩ := h
 exact ⟨A0, c0, blk_grown hb hw hne, hg, hr0⟩
theorem IsS229.below {w0 W : World} {g : Nat} {f0 : List Int} {f1 : Int} {W1 : World} (h : IsS229 w0 W g f0 f1) (hw : Below W.heap.size W W1) : IsS229 w0 W1 g f0 f1 := h.grown (grown_of_below hw none) (by simp)
theorem IsS229.alloc {w0 W : World} {g : Nat} {f0 : List Int} {f1 : Int} (h : IsS229 w0 W g f0 f1) (o : Obj) : IsS229 w0 (W.alloc o) g f0 f1 := h.below (below_alloc (Below.refl _ _) o)
theorem IsS229.drewN {w0 W : World} {g : Nat} {f0 : List Int} {f1 : Int} (h : IsS229 w0 W g f0 f1) (m : Nat) : IsS229 w0 (W.drewN m) g f0 f1 := h
theorem IsS229.drew {w0 W : World} {g : Nat} {f0 : List Int} {f1 : Int} (h : IsS229 w0 W g f0 f1) : IsS229 w0 W.drew g f0 f1 := h
theorem IsS229.apart {w0 W : World} {g : Nat} {f0 : List Int} {f1 : Int} {α : Type} {d : Kd α} {e : Nat} {base : Nat} {ok : Nat → Prop} {v : Value} {xs : List α} (h : IsS229 w0 W g f0 f1) (ho : d.R e W base ok v xs) (ht : ∀ q, q ∈ e :: d.E → q ≠ 229) : d.R e W base (fun k => ok k ∧ k ≠ g) v xs := by
 obtain ⟨A0, c0, hb, hg, hr0⟩ := h
 exact Kd.R_types ho hb ht
theorem IsS229.own_ne {w0 W : World} {g : Nat} {f0 : List Int} {f1 : Int} {α : Type} {d : Kd α} {e : Nat} {base : Nat} {ok : Nat → Prop} {v : Value} {xs : List α} (h : IsS229 w0 W g f0 f1) (ho : d.R e W base ok v xs) (ht : e ≠ 229) : some g ≠ v.ownBlock := by
 obtain ⟨A0, c0, hb, hg, hr0⟩ := h
 exact Kd.R_ne ho hb ht
theorem IsS229.lt {w0 W : World} {g : Nat} {f0 : List Int} {f1 : Int} (h : IsS229 w0 W g f0 f1) : g < W.heap.size := by
 obtain ⟨A0, c0, hb, hg, hr0⟩ := h
 exact blk_lt hb
theorem IsS229.ge {w0 W : World} {g : Nat} {f0 : List Int} {f1 : Int} (h : IsS229 w0 W g f0 f1) : w0.heap.size ≤ g := by
 obtain ⟨A0, c0, hb, hg, hr0⟩ := h
 exact hg
theorem IsS229.ne_blk {w0 W : World} {g : Nat} {f0 : List Int} {f1 : Int} {a : Nat} {cs : Array Value} {t : TypeId} {fr : Nat × Nat} (h : IsS229 w0 W g f0 f1) (hb2 : W.heap[a]? = some (.cells cs t fr)) (ht : t ≠ 229) : g ≠ a := by
 obtain ⟨A0, c0, hb, hg, hr0⟩ := h
 rintro rfl
 rw [hb] at hb2
 injection hb2 with hb2
 injection hb2 with _ ht2
 exact ht ht2.symm
theorem cellS229_0 {W : World} {g : Nat} {A0 : Option Addr} {c0 : Nat} {f0 : List Int} {f1 : Int} (h : W.heap[g]? = some (.cells #[.slice A0 f0.length c0, .int .i64 f1] 229 (0, 0))) : W.cell? ⟨g, 0, none⟩ = some (.slice A0 f0.length c0) := (blk_cell h 0).trans rfl
theorem cellS229_1 {W : World} {g : Nat} {A0 : Option Addr} {c0 : Nat} {f0 : List Int} {f1 : Int} (h : W.heap[g]? = some (.cells #[.slice A0 f0.length c0, .int .i64 f1] 229 (0, 0))) : W.cell? ⟨g, 1, none⟩ = some (.int .i64 f1) := (blk_cell h 1).trans rfl
theorem IsS229.set_1 {w0 W : World} {g : Nat} {f0 : List Int} {f1 : Int} (h : IsS229 w0 W g f0 f1) (x : Int) : IsS229 w0 (W.setCell ⟨g, 1, none⟩ (.int .i64 x)) g f0 x := by
 obtain ⟨A0, c0, hb, hg, hr0⟩ := h
 exact ⟨A0, c0, by simpa using blk_set hb 1 (.int .i64 x), hg, hr0⟩
theorem IsS229.new (w0 W : World) (A0 : Option Addr) (c0 : Nat) (f0 : List Int) (f1 : Int) (hB : Below w0.heap.size w0 W) (hr0 : Kd.C (Kd.int .u8) w0 A0 f0.length f0) : IsS229 w0 (W.alloc (.cells #[.slice A0 f0.length (f0.length + c0), .int .i64 f1] 229)) W.heap.size f0 f1 := ⟨A0, c0, by simpa using heap_alloc_new W _, hB.size, hr0⟩
def spec_bits_one.f (s0_0 : List Int) (s0_1 : Int) : Option (Int × Int) := if (wrap64 (Int.tdiv s0_1 8)) ≥ (s0_0.length : Int) then (some (0, wrap64 (s0_1 + 1))) else (if 0 ≤ (wrap64 (Int.tdiv s0_1 8)) then (if (wrap64 (Int.tdiv s0_1 8)) < (s0_0.length : Int) then (if 0 ≤ (Int.tmod (wrap64 ((wrap64 (s0_1 + 1)) - 1)) 8) then (some (Go.bits .and .i64 (shr .i64 (wrap64 (rd s0_0 (wrap64 (Int.tdiv s0_1 8)))) (Int.tmod (wrap64 ((wrap64 (s0_1 + 1)) - 1)) 8)) 1, wrap64 (s0_1 + 1))) else (none)) else (none)) else (none))
set_option maxHeartbeats 8000000 in
theorem spec_bits_one.calls (g : Nat) (s0_0 : List Int) (s0_1 : Int) (r1 : Int) (r2 : Int) (w0 w : World) (hI : IsS229 w0 w g s0_0 s0_1) (hB : Below w0.heap.size w0 w) (h : spec_bits_one.f s0_0 s0_1 = some (r1, r2)) :
  Calls Tryz.prog 116 #[.pointer (some ⟨g, 0, none⟩)] w fun e w' => e = .returned (.int .i64 r1) ∧ IsS229 w0 w' g s0_0 r2 ∧ Below w0.heap.size w0 w' ∧ KeepBut w w' g none := by
 have HI0 := Aside0.mk hI
 have HK := Aside0.mk (KeepBut.refl w g none)
 have HL := Aside0.mk hB.size
 clear hI
 have HW0 := Aside0.mk hB.size
 have HB := Aside0.mk hB
 clear hB
 have H : (if (wrap64 (Int.tdiv s0_1 8)) ≥ (s0_0.length : Int) then (some (0, wrap64 (s0_1 + 1))) else (if 0 ≤ (wrap64 (Int.tdiv s0_1 8)) then (if (wrap64 (Int.tdiv s0_1 8)) < (s0_0.length : Int) then (if 0 ≤ (Int.tmod (wrap64 ((wrap64 (s0_1 + 1)) - 1)) 8) then (some (Go.bits .and .i64 (shr .i64 (wrap64 (rd s0_0 (wrap64 (Int.tdiv s0_1 8)))) (Int.tmod (wrap64 ((wrap64 (s0_1 + 1)) - 1)) 8)) 1, wrap64 (s0_1 + 1))) else (none)) else (none)) else (none))) = some (r1, r2) := h
 clear h
 by_cases c2 : (wrap64 (Int.tdiv s0_1 8)) ≥ (s0_0.length : Int)
 ·
  rw [if_pos c2] at H
  have c2b0 : decide ((s0_0.length : Int) ≤ (wrap64 (Int.tdiv s0_1 8))) = true := decide_eq_true c2
  clear c2
  simp only [Option.some.injEq, Prod.mk.injEq] at H
  obtain ⟨rfl, rfl⟩ := H
  obtain ⟨ASz3_0, cSz3_0, HGz3, hgz3, HSz3_0⟩ := HI0.out
  have hcz3_0 := cellS229_0 HGz3
  have hcz3_1 := cellS229_1 HGz3
  have hfz3_1 := blk_frozen HGz3 1
  clear HGz3 hgz3
  go_enter Tryz.func116, Tryz.ntmps116
  go_wp2
  repeat (go_quiet (fail); try go_wp2)
  go_ret
  exact ⟨by first | rfl | (simp <;> rfl) | (simp [*] <;> rfl), by repeat (first | (with_reducible first | exact HI0.out | apply IsS229.alloc | apply IsS229.drewN | apply IsS229.drew | apply IsS229.set_1) | exact HI0.out), by repeat (first | (with_reducible first | exact HB.out | apply below_alloc | apply pw_below_drewN | apply below_drew1 | refine below_set ?_ (IsS229.ge HI0.out)) | exact HB.out), by repeat (first | (with_reducible first | exact HK.out | apply KeepBut.set_ | apply keep_drewN | apply keep_drew | apply keep_alloc) | exact HK.out)⟩
 ·
  rw [if_neg c2] at H
  have c2b0 : decide ((s0_0.length : Int) ≤ (wrap64 (Int.tdiv s0_1 8))) = false := decide_eq_false c2
  clear c2
  obtain ⟨ji4, hji4⟩ : ∃ j_ : Int, (wrap64 (Int.tdiv s0_1 8)) = j_ := ⟨_, rfl⟩
  replace H : (if 0 ≤ (ji4) then (if (ji4) < (s0_0.length : Int) then (if 0 ≤ (Int.tmod (wrap64 ((wrap64 (s0_1 + 1)) - 1)) 8) then (some (Go.bits .and .i64 (shr .i64 (wrap64 (rd s0_0 (ji4))) (Int.tmod (wrap64 ((wrap64 (s0_1 + 1)) - 1)) 8)) 1, wrap64 (s0_1 + 1))) else (none)) else (none)) else (none)) = some (r1, r2) := by first | (rw [hji4] at H; exact H) | (simp only [hji4] at H ⊢; exact H)
  (try rw [hji4] at c2b0)
  have hji4w : (IntKind.i64.wrap (Int.tdiv s0_1 8)) = ji4 := (i64_w _).trans hji4
  by_cases c5 : 0 ≤ (ji4)
  ·
   rw [if_pos c5] at H
   have c5b0 : decide (0 ≤ (ji4)) = true := decide_eq_true c5
   clear c5
   by_cases c6 : (ji4) < (s0_0.length : Int)
   ·
    rw [if_pos c6] at H
    have c6b0 : decide ((ji4) < (s0_0.length : Int)) = true := decide_eq_true c6
    clear c6
    obtain ⟨ji7, hji7⟩ : ∃ j_ : Int, (Int.tmod (wrap64 ((wrap64 (s0_1 + 1)) - 1)) 8) = j_ := ⟨_, rfl⟩
    replace H : (if 0 ≤ (ji7) then (some (Go.bits .and .i64 (shr .i64 (wrap64 (rd s0_0 (ji4))) (ji7)) 1, wrap64 (s0_1 + 1))) else (none)) = some (r1, r2) := by first | (rw [hji7] at H; exact H) | (simp only [hji7] at H ⊢; exact H)
    by_cases c8 : 0 ≤ (ji7)
    ·
     rw [if_pos c8] at H
     have c8b0 := eq_true c8
     have c8b1 : decide (0 ≤ (ji7)) = true := decide_eq_true c8
     clear c8
     obtain ⟨ji9, hji9⟩ : ∃ j_ : Int, (shr .i64 (wrap64 (rd s0_0 (ji4))) (ji7)) = j_ := ⟨_, rfl⟩
     replace H : (some (Go.bits .and .i64 (ji9) 1, wrap64 (s0_1 + 1))) = some (r1, r2) := by first | (rw [hji9] at H; exact H) | (simp only [hji9] at H ⊢; exact H)
     have hji9_ : ((wrap64 (rd s0_0 (ji4))) / 2 ^ min (ji7).toNat 64) = ji9 := hji9
     have hji9z : (ji7) ≤ 64 → ((wrap64 (rd s0_0 (ji4))) / 2 ^ (ji7).toNat) = ji9 := shr_small hji9
     simp only [Option.some.injEq, Prod.mk.injEq] at H
     obtain ⟨rfl, rfl⟩ := H
     obtain ⟨ASz10_0, cSz10_0, HGz10, hgz10, HSz10_0⟩ := HI0.out
     have hcz10_0 := cellS229_0 HGz10
     have hcz10_1 := cellS229_1 HGz10
     have hfz10_1 := blk_frozen HGz10 1
     clear HGz10 hgz10
     have p179 : 0 ≤ ((ji4) : Int) := of_decide_eq_true (by first | (with_reducible assumption) | assumption)
     have q179 : (ji4) < (s0_0.length : Int) := of_decide_eq_true (by first | (with_reducible assumption) | assumption)
     obtain ⟨ad179, e179, hx179_0⟩ := Kd.at_int HSz10_0 (ji4) p179 q179
     cases e179
     have hn179_0 : ad179.block ≠ g := Nat.ne_of_lt (Nat.lt_of_lt_of_le (by have := World.block_lt_of_cell? _ _ hx179_0; first | rwa [add_block] at this | exact this) (IsS229.ge HI0.out))
     replace hx179_0 := pw_cell_below HB.out hx179_0
     replace hx179_0 := (cell_far (p := ⟨g, 1, none⟩) (by first | (rw [add_block]; exact hn179_0) | (show (Addr.add _ _).block ≠ _; rw [add_block]; exact hn179_0) | exact hn179_0) (.int .i64 (wrap64 (s0_1 + 1)))).trans hx179_0
     (try have hy179_0 := fun (n_ : Nat) => (show (((w.drewN n_).setCell ⟨g, 1, none⟩ (.int .i64 (wrap64 (s0_1 + 1))))).cell? _ = some _ from hx179_0))
     clear hn179_0
     replace p179 := eq_true p179
     replace q179 := eq_true q179
     go_enter Tryz.func116, Tryz.ntmps116
     go_wp2
     repeat (go_quiet (fail); try go_wp2)
     go_ret
     exact ⟨by first | rfl | (simp <;> rfl) | (simp only [← hji4, ← hji7, ← hji9]; first | rfl | (simp <;> rfl)) | (simp [*] <;> rfl), by repeat (first | (with_reducible first | exact HI0.out | apply IsS229.alloc | apply IsS229.drewN | apply IsS229.drew | apply IsS229.set_1) | exact HI0.out), by repeat (first | (with_reducible first | exact HB.out | apply below_alloc | apply pw_below_drewN | apply below_drew1 | refine below_set ?_ (IsS229.ge HI0.out)) | exact HB.out), by repeat (first | (with_reducible first | exact HK.out | apply KeepBut.set_ | apply keep_drewN | apply keep_drew | apply keep_alloc) | exact HK.out)⟩
    ·
     rw [if_neg c8] at H
     exact absurd H (by simp)
   ·
    rw [if_neg c6] at H
    exact absurd H (by simp)
  ·
   rw [if_neg c5] at H
   exact absurd H (by simp)
def spec_bits_many.l0 : Nat → Int → Int → Int → List Int → Int → Option (Int × Int)
 | 0, _, _, _, _, _ => none
 | k + 1, x5, x7, x8, x1000, x1001 => if x8 < x7 then ((spec_bits_one.f x1000 x1001).bind fun bt180 => (if 0 ≤ x8 then (spec_bits_many.l0 k (Go.bits .or .i64 x5 (shl .i64 bt180.1 x8)) x7 (wrap64 (x8 + 1)) x1000 bt180.2) else (none))) else (some (x5, x1001))
def spec_bits_many.f (k : Nat) (s0_0 : List Int) (s0_1 : Int) (a1 : Int) : Option (Int × Int) := spec_bits_many.l0 k 0 a1 0 s0_0 s0_1
theorem spec_bits_many.mono_l : ∀ k, (∀ y0 y1 y2 y3 y4, LeO (spec_bits_many.l0 k y0 y1 y2 y3 y4) (spec_bits_many.l0 (k + 1) y0 y1 y2 y3 y4))
 | 0 => fun _ _ _ _ _ r h => by simp [spec_bits_many.l0] at h
 | k + 1 => by
  have ih0 := spec_bits_many.mono_l k
  ·
   intro y0 y1 y2 y3 y4
   unfold spec_bits_many.l0
   repeat' first
   | (with_reducible exact ih0 _ _ _ _ _)
   | (with_reducible exact LeO.refl _)
   | (with_reducible exact LeO.none _)
   | (with_reducible refine LeO.ite ?_ ?_)
   | (with_reducible refine LeO.bind ?_ (fun _ => ?_))
   | exact ih0 _ _ _ _ _
   | exact LeO.none _
   | refine LeO.ite ?_ ?_
   | refine LeO.bind ?_ (fun _ => ?_)
theorem spec_bits_many.mono : ∀ a0 a1 a2 k, LeO (spec_bits_many.f k a0 a1 a2) (spec_bits_many.f (k + 1) a0 a1 a2) := by
 intro a0 a1 a2 k
 have ih0 := spec_bits_many.mono_l k
 unfold spec_bits_many.f
 repeat' first
   | (with_reducible exact ih0 _ _ _ _ _)
   | (with_reducible exact LeO.refl _)
   | (with_reducible exact LeO.none _)
   | (with_reducible refine LeO.ite ?_ ?_)
   | (with_reducible refine LeO.bind ?_ (fun _ => ?_))
   | exact ih0 _ _ _ _ _
   | exact LeO.none _
   | refine LeO.ite ?_ ?_
   | refine LeO.bind ?_ (fun _ => ?_)
set_option maxHeartbeats 8000000 in
theorem spec_bits_many.calls (k : Nat) (g : Nat) (s0_0 : List Int) (s0_1 : Int) (a1 : Int) (r1 : Int) (r2 : Int) (w0 w : World) (hI : IsS229 w0 w g s0_0 s0_1) (hB : Below w0.heap.size w0 w) (h : spec_bits_many.f k s0_0 s0_1 a1 = some (r1, r2)) :
  Calls Tryz.prog 117 #[.pointer (some ⟨g, 0, none⟩), .int .i64 a1] w fun e w' => e = .returned (.int .i64 r1) ∧ IsS229 w0 w' g s0_0 r2 ∧ Below w0.heap.size w0 w' ∧ KeepBut w w' g none := by
 have HI0 := Aside0.mk hI
 have HK := Aside0.mk (KeepBut.refl w g none)
 have HL := Aside0.mk hB.size
 clear hI
 have HW0 := Aside0.mk hB.size
 have HB := Aside0.mk hB
 clear hB
 have H : (spec_bits_many.l0 k 0 a1 0 s0_0 s0_1) = some (r1, r2) := h
 clear h
 have H' := Aside0.mk H
 clear H
 go_enter Tryz.func117, Tryz.ntmps117
 go_wp2
 go_loopg [5, 8] k (fun kq v5 v8 w' => ∃ (x5_1 : Int) (x8_1 : Int) (x1001_1 : Int), v5 = .int .i64 x5_1 ∧ v8 = .int .i64 x8_1 ∧ Aside0 (spec_bits_many.l0 kq x5_1 a1 x8_1 s0_0 x1001_1 = some (r1, r2)) ∧ Aside0 (kq ≤ k) ∧ Aside0 (IsS229 w0 w' g s0_0 x1001_1) ∧ Aside0 (KeepBut w w' g none) ∧ Aside0 (Below w0.heap.size w0 w'))
 case atStart => exact ⟨(0), (0), (s0_1), (by first | rfl | (simp; done) | (simp [*]; done)), (by first | rfl | (simp; done) | (simp [*]; done)), H', ⟨Nat.le_refl _⟩, ⟨by repeat (first | (with_reducible first | exact HI0.out | apply IsS229.alloc | apply IsS229.drewN | apply IsS229.drew | apply IsS229.set_1) | exact HI0.out)⟩, ⟨by repeat (first | (with_reducible first | exact HK.out | apply KeepBut.set_ | apply keep_drewN | apply keep_drew | apply keep_alloc) | exact HK.out)⟩, ⟨by repeat (first | (with_reducible first | exact HB.out | apply below_alloc | apply pw_below_drewN | apply below_drew1 | refine below_set ?_ (IsS229.ge HI0.out)) | exact HB.out)⟩⟩
 case round =>
  clear H'
  (try clear c1); (try clear p2)
  obtain ⟨x5_1, x8_1, x1001_1, rfl, rfl, HA, HK1, HI0, HK, HB⟩ := hrel
  cases gk with
  | zero => exact absurd HA.out (by simp [spec_bits_many.l0])
  | succ k1 =>
   have H := HA.out
   clear HA
   simp only [spec_bits_many.l0] at H
   by_cases c3 : x8_1 < a1
   ·
    rw [if_pos c3] at H
    have c3b0 : decide (x8_1 < a1) = true := decide_eq_true c3
    clear c3
    replace H := Option.bind_eq_some_iff.mp H
    obtain ⟨⟨t180, t181⟩, A40, H⟩ := H
    replace H : (if 0 ≤ x8_1 then (spec_bits_many.l0 k1 (Go.bits .or .i64 x5_1 (shl .i64 t180 x8_1)) a1 (wrap64 (x8_1 + 1)) s0_0 t181) else (none)) = some (r1, r2) := H
    have A4 := Aside0.mk A40
    clear A40
    by_cases c5 : 0 ≤ x8_1
    ·
     rw [if_pos c5] at H
     have c5b0 := eq_true c5
     have c5b1 : decide (0 ≤ x8_1) = true := decide_eq_true c5
     clear c5
     obtain ⟨ji6, hji6⟩ : ∃ j_ : Int, (shl .i64 t180 x8_1) = j_ := ⟨_, rfl⟩
     replace H : (spec_bits_many.l0 k1 (Go.bits .or .i64 x5_1 (ji6)) a1 (wrap64 (x8_1 + 1)) s0_0 t181) = some (r1, r2) := by first | (rw [hji6] at H; exact H) | (simp only [hji6] at H ⊢; exact H)
     (try rw [hji6] at A4)
     have hji6_ : (IntKind.i64.wrap (t180 * 2 ^ min x8_1.toNat 64)) = ji6 := hji6
     have hji6z : x8_1 ≤ 64 → (IntKind.i64.wrap (t180 * 2 ^ x8_1.toNat)) = ji6 := shl_small hji6
     have hji6y : (wrap64 (t180 * 2 ^ min x8_1.toNat 64)) = ji6 := (i64_w _).symm.trans hji6_
     have hji6x : x8_1 ≤ 64 → (wrap64 (t180 * 2 ^ x8_1.toNat)) = ji6 := fun h_ => (i64_w _).symm.trans (hji6z h_)
     have H' := Aside0.mk H
     clear H
     go_wp2_with (first | ((with_reducible refine gate_callee (f := 116) rfl ?_); refine goesL_ (some 13) rfl rfl Tryz.func116 (by kernel_rfl) rfl #[.pointer (some ⟨g, 0, none⟩)] rfl (by (try simp only [List.map_toArray, List.map_cons, List.map_nil]); first | done | rfl | (simp only [List.length_drop, List.length_take]; rfl)) ?_; (with_reducible refine (spec_bits_one.calls g s0_0 x1001_1 t180 t181 w0 _ ?side1 ?side2 A4.out).mono ?_); (case side1 => repeat (first | (with_reducible first | exact HI0.out | apply IsS229.alloc | apply IsS229.drewN | apply IsS229.drew | apply IsS229.set_1) | exact HI0.out)); (case side2 => repeat (first | (with_reducible first | exact HB.out | apply below_alloc | apply pw_below_drewN | apply below_drew1 | refine below_set ?_ (IsS229.ge HI0.out)) | exact HB.out)); rintro e w7 ⟨rfl, hi, hb, hk⟩; refine ⟨_, rfl, ?_⟩; have n0_ := Aside0.mk (KeepBut.trans (by repeat (first | (with_reducible first | exact HK.out | apply KeepBut.set_ | apply keep_drewN | apply keep_drew | apply keep_alloc) | exact HK.out)) hk (.inl rfl)); have n1_ := Aside0.mk (hb); have n2_ := Aside0.mk (hi); clear HK; clear HB; clear HI0; have HK := n0_; have HB := n1_; have HI0 := n2_; clear n0_ n1_ n2_; (try clear hb); (try clear hb2); (try clear hk); (try clear hi)))
     go_roundg k1
     case measure => have := HK1.out; omega
     case rel => exact ⟨(Go.bits .or .i64 x5_1 (ji6)), (wrap64 (x8_1 + 1)), (t181), (by first | rfl | (simp; done) | (simp only [← hji6] <;> (first | rfl | simp)) | (simp [*]; done)), (by first | rfl | (simp; done) | (simp [*]; done)), H', ⟨by have := HK1.out; omega⟩, ⟨by repeat (first | (with_reducible first | exact HI0.out | apply IsS229.alloc | apply IsS229.drewN | apply IsS229.drew | apply IsS229.set_1) | exact HI0.out)⟩, ⟨by repeat (first | (with_reducible first | exact HK.out | apply KeepBut.set_ | apply keep_drewN | apply keep_drew | apply keep_alloc) | exact HK.out)⟩, ⟨by repeat (first | (with_reducible first | exact HB.out | apply below_alloc | apply pw_below_drewN | apply below_drew1 | refine below_set ?_ (IsS229.ge HI0.out)) | exact HB.out)⟩⟩
    ·
     rw [if_neg c5] at H
     exact absurd H (by simp)
   ·
    rw [if_neg c3] at H
    have c3b0 : decide (x8_1 < a1) = false := decide_eq_false c3
    clear c3
    simp only [Option.some.injEq, Prod.mk.injEq] at H
    obtain ⟨rfl, rfl⟩ := H
    go_wp2
    go_ret
    exact ⟨by first | rfl | (simp <;> rfl) | (simp [*] <;> rfl), by repeat (first | (with_reducible first | exact HI0.out | apply IsS229.alloc | apply IsS229.drewN | apply IsS229.drew | apply IsS229.set_1) | exact HI0.out), by repeat (first | (with_reducible first | exact HB.out | apply below_alloc | apply pw_below_drewN | apply below_drew1 | refine below_set ?_ (IsS229.ge HI0.out)) | exact HB.out), by repeat (first | (with_reducible first | exact HK.out | apply KeepBut.set_ | apply keep_drewN | apply keep_drew | apply keep_alloc) | exact HK.out)⟩
def spec_bits_short.f (s0_0 : List Int) (s0_1 : Int) : Option (Bool × Int) := some (decide (s0_1 > (wrap64 (8 * (s0_0.length : Int)))), s0_1)
set_option maxHeartbeats 8000000 in
theorem spec_bits_short.calls (g : Nat) (s0_0 : List Int) (s0_1 : Int) (r1 : Bool) (r2 : Int) (w0 w : World) (hI : IsS229 w0 w g s0_0 s0_1) (hB : Below w0.heap.size w0 w) (h : spec_bits_short.f s0_0 s0_1 = some (r1, r2)) :
  Calls Tryz.prog 128 #[.pointer (some ⟨g, 0, none⟩)] w fun e w' => e = .returned (.bool r1) ∧ IsS229 w0 w' g s0_0 r2 ∧ Below w0.heap.size w0 w' ∧ KeepBut w w' g none := by
 have HI0 := Aside0.mk hI
 have HK := Aside0.mk (KeepBut.refl w g none)
 have HL := Aside0.mk hB.size
 clear hI
 have HW0 := Aside0.mk hB.size
 have HB := Aside0.mk hB
 clear hB
 have H : (some (decide (s0_1 > (wrap64 (8 * (s0_0.length : Int)))), s0_1)) = some (r1, r2) := h
 clear h
 simp only [Option.some.injEq, Prod.mk.injEq] at H
 obtain ⟨rfl, rfl⟩ := H
 obtain ⟨ASz2_0, cSz2_0, HGz2, hgz2, HSz2_0⟩ := HI0.out
 have hcz2_0 := cellS229_0 HGz2
 have hcz2_1 := cellS229_1 HGz2
 have hfz2_1 := blk_frozen HGz2 1
 clear HGz2 hgz2
 go_enter Tryz.func128, Tryz.ntmps128
 go_wp2
 repeat (go_quiet (fail); try go_wp2)
 go_ret
 exact ⟨by first | rfl | (simp <;> rfl) | (simp [*] <;> rfl), by repeat (first | (with_reducible first | exact HI0.out | apply IsS229.alloc | apply IsS229.drewN | apply IsS229.drew | apply IsS229.set_1) | exact HI0.out), by repeat (first | (with_reducible first | exact HB.out | apply below_alloc | apply pw_below_drewN | apply below_drew1 | refine below_set ?_ (IsS229.ge HI0.out)) | exact HB.out), by repeat (first | (with_reducible first | exact HK.out | apply KeepBut.set_ | apply keep_drewN | apply keep_drew | apply keep_alloc) | exact HK.out)⟩
end Go.Proofs.YtnpkgmgedgcjmaaGreatDoor.Pr
end
