/- The packed bytes: blocks that stand as they are, and blocks of symbols. -/
import Derived.Test.YtnpkgmgedgcjmaaGreatDoorW6
set_option linter.all false
namespace Go.Proofs.YtnpkgmgedgcjmaaGreatDoor
open Go Go.RowKit Png

/-- What the writer's block holds. -/
theorem WS.bit {w : World} {wb at_ : Nat} {o : Option Nat} {l : List UInt8} (h : WS w wb at_ o l) : w.cell? ⟨wb, 1, none⟩ = some (.int .i64 at_) := by
  obtain ⟨p, cap, h1, _⟩ := h
  have := h1.cell 1
  simpa using this

theorem WS.new (w : World) : WS (w.alloc (.cells #[.slice none 0 0, .int .i64 0] 145)) w.heap.size 0 none [] :=
  ⟨none, 0, Blk.new _ _ _, Ob.none _ _, rfl, rfl⟩

/-- Which lengths are looked for: ten of them. -/
def fars (j : Nat) : Nat := [1, 2, 3, 4, 6, 8, 12, 17, 33, 65].getD j 1
theorem fars_le (j : Nat) : 1 ≤ fars j ∧ fars j ≤ 1000 := by
  unfold fars
  match j with
  | 0 | 1 | 2 | 3 | 4 | 5 | 6 | 7 | 8 | 9 => decide
  | j + 10 => simp

theorem fars_new (w : World) (g : Nat) (hg : g = w.heap.size) : ∀ j, j < 10 → (w.alloc (.cells #[.int .i64 1, .int .i64 2, .int .i64 3, .int .i64 4, .int .i64 6, .int .i64 8, .int .i64 12, .int .i64 17, .int .i64 33, .int .i64 65] 3)).cell? ⟨g, j, none⟩ = some (.int .i64 (fars j : Nat)) := by
  subst hg
  intro j hj
  have := heap_alloc_new w (.cells #[.int .i64 1, .int .i64 2, .int .i64 3, .int .i64 4, .int .i64 6, .int .i64 8, .int .i64 12, .int .i64 17, .int .i64 33, .int .i64 65] 3)
  unfold World.cell?
  simp only [this]
  match j, hj with
  | 0, _ | 1, _ | 2, _ | 3, _ | 4, _ | 5, _ | 6, _ | 7, _ | 8, _ | 9, _ => rfl

theorem Bsl.cell0 {w : World} {b : Nat} {l : List UInt8} (h : Bsl w (some ⟨b, 0, none⟩) l) {k : Nat} (hk : k < l.length) : w.cell? ⟨b, k, none⟩ = some (.int .u8 (nb l k : Int)) := by
  rcases h with rfl | ⟨b', off, he, hs⟩
  · simp at hk
  · injection he with he
    injection he with h1 h2
    subst h1
    subst h2
    have := hs k hk
    rwa [Nat.zero_add] at this

set_option maxHeartbeats 20000000 in
set_option maxRecDepth 100000 in
theorem packed_ok (b n cap s ways : Nat) (d : List UInt8) (w : World) (hd : d.length = n) (hs : Bsl w (some ⟨b, 0, none⟩) d) (hbw : b < w.heap.size) (hn0 : 0 < n) (hn : n ≤ 1000000) (hnc : n ≤ cap) (hcap : cap ≤ 9223372036854775807) (hs1 : 1 ≤ s) (hs2 : s ≤ 60000) :
    Calls Tryz.prog 55 #[.slice (some ⟨b, 0, none⟩) n cap, .int .i64 s, .int .i64 ways] w fun e w' =>
      ∃ p' n' cap' l', e = .returned (.slice p' n' cap') ∧ Ob w' w.heap.size p' n' cap' l' ∧ 6 ≤ n' ∧ n' ≤ 20000000 ∧ Below w.heap.size w w' := by
  obtain ⟨B, hB⟩ : ∃ B, B = w.heap.size := ⟨_, rfl⟩
  have HB := Lib.hid hB
  have hbB : b < B := by omega
  obtain ⟨wb, hwb⟩ : ∃ wb, B = wb := ⟨_, rfl⟩
  have Hwb := Lib.hid hwb
  have Hd := Lib.hid hd
  have hsz : w.heap.size = wb := by omega
  have hW0 : WS (w.alloc (.cells #[.slice none 0 0, .int .i64 0] 145)) wb 0 none [] := by rw [← hsz]; exact WS.new w
  have hs0 : Bsl (w.alloc (.cells #[.slice none 0 0, .int .i64 0] 145)) (some ⟨b, 0, none⟩) d := hs.below ((Below.refl _ _).alloc (Nat.le_refl _) _) (by rintro x ⟨⟩; exact hbw)
  clear hs hd hwb hB
  go_enter Tryz.func55, Tryz.ntmps55
  go_wp2
  generalize hw0 : World.alloc _ _ = w0
  rw [hw0] at hW0 hs0
  have Hw0 := Lib.hid hw0
  have HBw := Lib.hid (show B ≤ w0.heap.size by rw [← hw0, HB.out]; simp)
  have HS0 := Lib.hid hW0
  have Hs := Lib.hid hs0
  have Hsz := Lib.hid hsz
  clear hW0 hs0 hw0 hsz
  go_loopg [8] (n + 60001) (fun g i wr => ∃ a m o l, a + g = n + 60001 ∧ (m ≤ 100 * a ∧ a ≤ n + 60000) ∧ i = .int .i64 (a : Nat) ∧ WS wr wb m o l ∧ WF w0 wr wb none o)
  case atStart => exact ⟨0, 0, none, [], by omega, by omega, rfl, HS0.out, WF.refl _ _ _⟩
  case round =>
    obtain ⟨a, m, o', l', hg, ⟨hm, han⟩, rfl, hS, hW⟩ := hrel
    have HS := Lib.hid hS
    have HW := Lib.hid hW
    have Hg := Lib.hid hg
    clear hS hW hg
    by_cases hlt : a < n
    · have hac : ¬ cap = a := by omega
      obtain ⟨dv, hdv, hdva⟩ : ∃ dv : Nat, (a : Int) / (s : Int) = (dv : Int) ∧ dv ≤ a := ⟨a / s, by simp, Nat.div_le_self _ _⟩
      rcases Bool.eq_false_or_eq_true ((a : Int) == 0) with hz0 | hz0
      all_goals
        obtain ⟨q, hq⟩ : ∃ q : Nat, (a : Int) + (s : Int) = (q : Int) := ⟨a + s, by omega⟩
        have Hqa := Lib.hid (show q = a + s by omega)
        have hqs1 : a < q := by omega
        have hqs2 : q ≤ a + s := by omega
        have hqs3 : a + s ≤ q := by omega
        have hqn : q < n ∨ q = n ∨ n < q := by omega
        rcases hqn with hqn | hqn | hqn
        · -- another block follows
          go_wp2_with fail
          refine (one_ok wb m o' l' _ _ HS.out (by omega)).mono ?_
          rintro e w1 ⟨m1, o1, l1, rfl, hm1, hS1, hF1⟩
          have HS1 := Lib.hid hS1
          have HF1 := Lib.hid (HW.out.trans hF1)
          clear hS1 hF1
          go_wp2_with fail
          · refine (many_ok wb (m + m1) 2 o1 l1 _ _ HS1.out (by omega) (by omega)).mono ?_
            rintro e w2 ⟨m2, o2, l2, rfl, hm2, hS2, hF2⟩
            have HS2 := Lib.hid hS2
            have HF2 := Lib.hid (HF1.out.trans hF2)
            clear hS2 hF2
            go_wp2_with fail
            have hB2 := HF2.out.below (B := B) HBw.out (Nat.le_of_eq Hwb.out) (by simp)
            refine (block_ok wb (m + m1 + m2) a q n cap w2.heap.size B fars (some ⟨b, 0, none⟩) o2 l2 d _ (HS2.out.alloc _) Hd.out ((Hs.out.below hB2 (by rintro x ⟨⟩; exact hbB)).below ((Below.refl B w2).alloc (Nat.le_trans HBw.out hB2.size) _) (by rintro x ⟨⟩; exact hbB)) (by rintro x ⟨⟩; exact hbB)
              (Nat.le_of_eq Hwb.out) (HF2.out.from HBw.out (by simp)) (Nat.le_trans (Nat.le_trans HBw.out hB2.size) (by simp)) (by omega) (by omega) (by omega) (by omega) (fars_new w2 _ rfl) fars_le (Ne.symm (Nat.ne_of_lt HS2.out.lt.1)) (fun e => by have := HS2.out.lt.2 _ e.symm; omega) (by simp)).mono ?_
            rintro e w3 ⟨m3, o3, l3, rfl, hm3, hS3, hF3⟩
            have HS3 := Lib.hid hS3
            have HF3 := Lib.hid ((HF2.out.alloc _).trans hF3)
            clear hS3 hF3
            go_wp2
            go_roundg (gk - (q - a))
            case measure => have := Hg.out; omega
            case rel =>
              have := Hg.out
              exact ⟨q, m + m1 + m2 + m3, o3, l3, by omega, by omega, rfl, HS3.out, HF3.out⟩
          · refine (many_ok wb (m + m1) 2 o1 l1 _ _ HS1.out (by omega) (by omega)).mono ?_
            rintro e w2 ⟨m2, o2, l2, rfl, hm2, hS2, hF2⟩
            have HS2 := Lib.hid hS2
            have HF2 := Lib.hid (HF1.out.trans hF2)
            have hbit := hS2.bit
            clear hS2 hF2
            obtain ⟨x, hx⟩ : ∃ x, x = m + m1 + m2 := ⟨_, rfl⟩
            rw [← hx] at hbit
            have HS2' := HS2.out
            rw [← hx] at HS2'
            have HS2'' := Lib.hid HS2'
            have Hx := Lib.hid hx
            have hxm : x ≤ m + 3 := by omega
            obtain ⟨z, hz, hz7⟩ : ∃ z : Nat, (8 - (x : Int) % 8) % 8 = (z : Int) ∧ z ≤ 7 := ⟨((8 - (x : Int) % 8) % 8).toNat, by omega, by omega⟩
            clear hx HS2'
            go_wp2_with fail
            refine (many_ok wb x z o2 l2 _ _ HS2''.out (by omega) (by omega)).mono ?_
            rintro e w3 ⟨m3, o3, l3, rfl, hm3, hS3, hF3⟩
            have HS3 := Lib.hid hS3
            have HF3 := Lib.hid (HF2.out.trans hF3)
            clear hS3 hF3 hbit
            go_wp2_with fail
            refine (many_ok wb (x + m3) 16 o3 l3 _ _ HS3.out (by omega) (by omega)).mono ?_
            rintro e w4 ⟨m4, o4, l4, rfl, hm4, hS4, hF4⟩
            have HS4 := Lib.hid hS4
            have HF4 := Lib.hid (HF3.out.trans hF4)
            clear hS4 hF4
            go_wp2_with fail
            refine (many_ok wb (x + m3 + m4) 16 o4 l4 _ _ HS4.out (by omega) (by omega)).mono ?_
            rintro e w5 ⟨m5, o5, l5, rfl, hm5, hS5, hF5⟩
            have HS5 := Lib.hid hS5
            have HF5 := Lib.hid (HF4.out.trans hF5)
            clear hS5 hF5
            obtain ⟨go, hgo⟩ : ∃ go, go = gk := ⟨_, rfl⟩
            have Hgo := Lib.hid hgo
            clear hgo
            go_wp2
            go_loopg [85] (q - a) (fun g i wr => ∃ j m6 o6 l6, j + g = q - a ∧ m6 ≤ 8 * j ∧ i = .int .i64 (j : Nat) ∧ WS wr wb (x + m3 + m4 + m5 + m6) o6 l6 ∧ WF w0 wr wb none o6)
            case atStart => exact ⟨0, 0, o5, l5, by omega, by omega, rfl, HS5.out, HF5.out⟩
            case round =>
              obtain ⟨j, m6, o6, l6, hj, hm6, rfl, hS6, hF6⟩ := hrel
              have HS6 := Lib.hid hS6
              have HF6 := Lib.hid hF6
              have Hj := Lib.hid hj
              clear hS6 hF6
              by_cases hjq : j < q - a
              · have hB6 := HF6.out.below (B := B) HBw.out (Nat.le_of_eq Hwb.out) (by simp)
                have c6 := (Hs.out.below hB6 (by rintro x ⟨⟩; exact hbB)).cell0 (k := a + j) (by rw [Hd.out]; omega)
                have hb6 := nb_lt d (a + j)
                clear hB6 hj
                go_wp2_with fail
                refine (many_ok wb (x + m3 + m4 + m5 + m6) 8 o6 l6 _ _ HS6.out (by omega) (by omega)).mono ?_
                rintro e w7 ⟨m7, o7, l7, rfl, hm7, hS7, hF7⟩
                have HS7 := Lib.hid hS7
                have HF7 := Lib.hid (HF6.out.trans hF7)
                clear hS7 hF7
                go_wp2
                go_roundg (gk - 1)
                case measure => have := Hj.out; omega
                case rel =>
                  have := Hj.out
                  exact ⟨j + 1, m6 + m7, o7, l7, by omega, by omega, by go_num, by rw [← Nat.add_assoc]; exact HS7.out, HF7.out⟩
              · clear hj
                go_wp2
                go_roundg (go - (q - a))
                case measure => have := Hg.out; have := Hgo.out; omega
                case rel =>
                  have := Hg.out
                  have := Hgo.out
                  have := Hj.out
                  have := Hx.out
                  exact ⟨q, x + m3 + m4 + m5 + m6, o6, l6, by omega, by omega, rfl, HS6.out, HF6.out⟩
        · have hq1 : q ≤ n := by omega
          have hq2 : n ≤ q := by omega
          have hqe : ((q : Int) == (n : Int)) = true := by simp; omega
          clear hqn
          go_wp2_with fail
          refine (one_ok wb m o' l' _ _ HS.out (by omega)).mono ?_
          rintro e w1 ⟨m1, o1, l1, rfl, hm1, hS1, hF1⟩
          have HS1 := Lib.hid hS1
          have HF1 := Lib.hid (HW.out.trans hF1)
          clear hS1 hF1
          go_wp2_with fail
          · refine (many_ok wb (m + m1) 2 o1 l1 _ _ HS1.out (by omega) (by omega)).mono ?_
            rintro e w2 ⟨m2, o2, l2, rfl, hm2, hS2, hF2⟩
            have HS2 := Lib.hid hS2
            have HF2 := Lib.hid (HF1.out.trans hF2)
            clear hS2 hF2
            go_wp2_with fail
            have hB2 := HF2.out.below (B := B) HBw.out (Nat.le_of_eq Hwb.out) (by simp)
            refine (block_ok wb (m + m1 + m2) a q n cap w2.heap.size B fars (some ⟨b, 0, none⟩) o2 l2 d _ (HS2.out.alloc _) Hd.out ((Hs.out.below hB2 (by rintro x ⟨⟩; exact hbB)).below ((Below.refl B w2).alloc (Nat.le_trans HBw.out hB2.size) _) (by rintro x ⟨⟩; exact hbB)) (by rintro x ⟨⟩; exact hbB)
              (Nat.le_of_eq Hwb.out) (HF2.out.from HBw.out (by simp)) (Nat.le_trans (Nat.le_trans HBw.out hB2.size) (by simp)) (by omega) (by omega) (by omega) (by omega) (fars_new w2 _ rfl) fars_le (Ne.symm (Nat.ne_of_lt HS2.out.lt.1)) (fun e => by have := HS2.out.lt.2 _ e.symm; omega) (by simp)).mono ?_
            rintro e w3 ⟨m3, o3, l3, rfl, hm3, hS3, hF3⟩
            have HS3 := Lib.hid hS3
            have HF3 := Lib.hid ((HF2.out.alloc _).trans hF3)
            clear hS3 hF3
            go_wp2
            go_roundg (gk - (q - a))
            case measure => have := Hg.out; omega
            case rel =>
              have := Hg.out
              exact ⟨q, m + m1 + m2 + m3, o3, l3, by omega, by omega, rfl, HS3.out, HF3.out⟩
          · refine (many_ok wb (m + m1) 2 o1 l1 _ _ HS1.out (by omega) (by omega)).mono ?_
            rintro e w2 ⟨m2, o2, l2, rfl, hm2, hS2, hF2⟩
            have HS2 := Lib.hid hS2
            have HF2 := Lib.hid (HF1.out.trans hF2)
            have hbit := hS2.bit
            clear hS2 hF2
            obtain ⟨x, hx⟩ : ∃ x, x = m + m1 + m2 := ⟨_, rfl⟩
            rw [← hx] at hbit
            have HS2' := HS2.out
            rw [← hx] at HS2'
            have HS2'' := Lib.hid HS2'
            have Hx := Lib.hid hx
            have hxm : x ≤ m + 3 := by omega
            obtain ⟨z, hz, hz7⟩ : ∃ z : Nat, (8 - (x : Int) % 8) % 8 = (z : Int) ∧ z ≤ 7 := ⟨((8 - (x : Int) % 8) % 8).toNat, by omega, by omega⟩
            clear hx HS2'
            go_wp2_with fail
            refine (many_ok wb x z o2 l2 _ _ HS2''.out (by omega) (by omega)).mono ?_
            rintro e w3 ⟨m3, o3, l3, rfl, hm3, hS3, hF3⟩
            have HS3 := Lib.hid hS3
            have HF3 := Lib.hid (HF2.out.trans hF3)
            clear hS3 hF3 hbit
            go_wp2_with fail
            refine (many_ok wb (x + m3) 16 o3 l3 _ _ HS3.out (by omega) (by omega)).mono ?_
            rintro e w4 ⟨m4, o4, l4, rfl, hm4, hS4, hF4⟩
            have HS4 := Lib.hid hS4
            have HF4 := Lib.hid (HF3.out.trans hF4)
            clear hS4 hF4
            go_wp2_with fail
            refine (many_ok wb (x + m3 + m4) 16 o4 l4 _ _ HS4.out (by omega) (by omega)).mono ?_
            rintro e w5 ⟨m5, o5, l5, rfl, hm5, hS5, hF5⟩
            have HS5 := Lib.hid hS5
            have HF5 := Lib.hid (HF4.out.trans hF5)
            clear hS5 hF5
            obtain ⟨go, hgo⟩ : ∃ go, go = gk := ⟨_, rfl⟩
            have Hgo := Lib.hid hgo
            clear hgo
            go_wp2
            go_loopg [85] (q - a) (fun g i wr => ∃ j m6 o6 l6, j + g = q - a ∧ m6 ≤ 8 * j ∧ i = .int .i64 (j : Nat) ∧ WS wr wb (x + m3 + m4 + m5 + m6) o6 l6 ∧ WF w0 wr wb none o6)
            case atStart => exact ⟨0, 0, o5, l5, by omega, by omega, rfl, HS5.out, HF5.out⟩
            case round =>
              obtain ⟨j, m6, o6, l6, hj, hm6, rfl, hS6, hF6⟩ := hrel
              have HS6 := Lib.hid hS6
              have HF6 := Lib.hid hF6
              have Hj := Lib.hid hj
              clear hS6 hF6
              by_cases hjq : j < q - a
              · have hB6 := HF6.out.below (B := B) HBw.out (Nat.le_of_eq Hwb.out) (by simp)
                have c6 := (Hs.out.below hB6 (by rintro x ⟨⟩; exact hbB)).cell0 (k := a + j) (by rw [Hd.out]; omega)
                have hb6 := nb_lt d (a + j)
                clear hB6 hj
                go_wp2_with fail
                refine (many_ok wb (x + m3 + m4 + m5 + m6) 8 o6 l6 _ _ HS6.out (by omega) (by omega)).mono ?_
                rintro e w7 ⟨m7, o7, l7, rfl, hm7, hS7, hF7⟩
                have HS7 := Lib.hid hS7
                have HF7 := Lib.hid (HF6.out.trans hF7)
                clear hS7 hF7
                go_wp2
                go_roundg (gk - 1)
                case measure => have := Hj.out; omega
                case rel =>
                  have := Hj.out
                  exact ⟨j + 1, m6 + m7, o7, l7, by omega, by omega, by go_num, by rw [← Nat.add_assoc]; exact HS7.out, HF7.out⟩
              · clear hj
                go_wp2
                go_roundg (go - (q - a))
                case measure => have := Hg.out; have := Hgo.out; omega
                case rel =>
                  have := Hg.out
                  have := Hgo.out
                  have := Hj.out
                  have := Hx.out
                  exact ⟨q, x + m3 + m4 + m5 + m6, o6, l6, by omega, by omega, rfl, HS6.out, HF6.out⟩
        · -- the last block, cut
          go_wp2_with fail
          refine (one_ok wb m o' l' _ _ HS.out (by omega)).mono ?_
          rintro e w1 ⟨m1, o1, l1, rfl, hm1, hS1, hF1⟩
          have HS1 := Lib.hid hS1
          have HF1 := Lib.hid (HW.out.trans hF1)
          clear hS1 hF1
          go_wp2_with fail
          · refine (many_ok wb (m + m1) 2 o1 l1 _ _ HS1.out (by omega) (by omega)).mono ?_
            rintro e w2 ⟨m2, o2, l2, rfl, hm2, hS2, hF2⟩
            have HS2 := Lib.hid hS2
            have HF2 := Lib.hid (HF1.out.trans hF2)
            clear hS2 hF2
            go_wp2_with fail
            have hB2 := HF2.out.below (B := B) HBw.out (Nat.le_of_eq Hwb.out) (by simp)
            refine (block_ok wb (m + m1 + m2) a n n cap w2.heap.size B fars (some ⟨b, 0, none⟩) o2 l2 d _ (HS2.out.alloc _) Hd.out ((Hs.out.below hB2 (by rintro x ⟨⟩; exact hbB)).below ((Below.refl B w2).alloc (Nat.le_trans HBw.out hB2.size) _) (by rintro x ⟨⟩; exact hbB)) (by rintro x ⟨⟩; exact hbB)
              (Nat.le_of_eq Hwb.out) (HF2.out.from HBw.out (by simp)) (Nat.le_trans (Nat.le_trans HBw.out hB2.size) (by simp)) (by omega) (by omega) (by omega) (by omega) (fars_new w2 _ rfl) fars_le (Ne.symm (Nat.ne_of_lt HS2.out.lt.1)) (fun e => by have := HS2.out.lt.2 _ e.symm; omega) (by simp)).mono ?_
            rintro e w3 ⟨m3, o3, l3, rfl, hm3, hS3, hF3⟩
            have HS3 := Lib.hid hS3
            have HF3 := Lib.hid ((HF2.out.alloc _).trans hF3)
            clear hS3 hF3
            go_wp2
            go_roundg (gk - (q - a))
            case measure => have := Hg.out; omega
            case rel =>
              have := Hg.out
              exact ⟨q, m + m1 + m2 + m3, o3, l3, by omega, by omega, rfl, HS3.out, HF3.out⟩
          · refine (many_ok wb (m + m1) 2 o1 l1 _ _ HS1.out (by omega) (by omega)).mono ?_
            rintro e w2 ⟨m2, o2, l2, rfl, hm2, hS2, hF2⟩
            have HS2 := Lib.hid hS2
            have HF2 := Lib.hid (HF1.out.trans hF2)
            have hbit := hS2.bit
            clear hS2 hF2
            obtain ⟨x, hx⟩ : ∃ x, x = m + m1 + m2 := ⟨_, rfl⟩
            rw [← hx] at hbit
            have HS2' := HS2.out
            rw [← hx] at HS2'
            have HS2'' := Lib.hid HS2'
            have Hx := Lib.hid hx
            have hxm : x ≤ m + 3 := by omega
            obtain ⟨z, hz, hz7⟩ : ∃ z : Nat, (8 - (x : Int) % 8) % 8 = (z : Int) ∧ z ≤ 7 := ⟨((8 - (x : Int) % 8) % 8).toNat, by omega, by omega⟩
            clear hx HS2'
            go_wp2_with fail
            refine (many_ok wb x z o2 l2 _ _ HS2''.out (by omega) (by omega)).mono ?_
            rintro e w3 ⟨m3, o3, l3, rfl, hm3, hS3, hF3⟩
            have HS3 := Lib.hid hS3
            have HF3 := Lib.hid (HF2.out.trans hF3)
            clear hS3 hF3 hbit
            go_wp2_with fail
            refine (many_ok wb (x + m3) 16 o3 l3 _ _ HS3.out (by omega) (by omega)).mono ?_
            rintro e w4 ⟨m4, o4, l4, rfl, hm4, hS4, hF4⟩
            have HS4 := Lib.hid hS4
            have HF4 := Lib.hid (HF3.out.trans hF4)
            clear hS4 hF4
            go_wp2_with fail
            refine (many_ok wb (x + m3 + m4) 16 o4 l4 _ _ HS4.out (by omega) (by omega)).mono ?_
            rintro e w5 ⟨m5, o5, l5, rfl, hm5, hS5, hF5⟩
            have HS5 := Lib.hid hS5
            have HF5 := Lib.hid (HF4.out.trans hF5)
            clear hS5 hF5
            obtain ⟨go, hgo⟩ : ∃ go, go = gk := ⟨_, rfl⟩
            have Hgo := Lib.hid hgo
            clear hgo
            go_wp2
            go_loopg [85] (n - a) (fun g i wr => ∃ j m6 o6 l6, j + g = n - a ∧ m6 ≤ 8 * j ∧ i = .int .i64 (j : Nat) ∧ WS wr wb (x + m3 + m4 + m5 + m6) o6 l6 ∧ WF w0 wr wb none o6)
            case atStart => exact ⟨0, 0, o5, l5, by omega, by omega, rfl, HS5.out, HF5.out⟩
            case round =>
              obtain ⟨j, m6, o6, l6, hj, hm6, rfl, hS6, hF6⟩ := hrel
              have HS6 := Lib.hid hS6
              have HF6 := Lib.hid hF6
              have Hj := Lib.hid hj
              clear hS6 hF6
              by_cases hjq : j < n - a
              · have hB6 := HF6.out.below (B := B) HBw.out (Nat.le_of_eq Hwb.out) (by simp)
                have c6 := (Hs.out.below hB6 (by rintro x ⟨⟩; exact hbB)).cell0 (k := a + j) (by rw [Hd.out]; omega)
                have hb6 := nb_lt d (a + j)
                clear hB6 hj
                go_wp2_with fail
                refine (many_ok wb (x + m3 + m4 + m5 + m6) 8 o6 l6 _ _ HS6.out (by omega) (by omega)).mono ?_
                rintro e w7 ⟨m7, o7, l7, rfl, hm7, hS7, hF7⟩
                have HS7 := Lib.hid hS7
                have HF7 := Lib.hid (HF6.out.trans hF7)
                clear hS7 hF7
                go_wp2
                go_roundg (gk - 1)
                case measure => have := Hj.out; omega
                case rel =>
                  have := Hj.out
                  exact ⟨j + 1, m6 + m7, o7, l7, by omega, by omega, by go_num, by rw [← Nat.add_assoc]; exact HS7.out, HF7.out⟩
              · clear hj
                go_wp2
                go_roundg (go - (q - a))
                case measure => have := Hg.out; have := Hgo.out; omega
                case rel =>
                  have := Hg.out
                  have := Hgo.out
                  have := Hj.out
                  have := Hx.out
                  exact ⟨q, x + m3 + m4 + m5 + m6, o6, l6, by omega, by omega, rfl, HS6.out, HF6.out⟩
    · have ha0 : ((a : Int) == 0) = false := by simp; omega
      obtain ⟨p, cp, h1, h2, h3, h4⟩ := HS.out
      obtain ⟨nl, hnl⟩ : ∃ nl, nl = l'.length := ⟨_, rfl⟩
      rw [← hnl] at h1 h2 h4
      have c0 := h1.cell 0
      simp only [List.getElem?_toArray, List.getElem?_cons_zero] at c0
      have hwbw := h1.lt
      have hnb : nl ≤ 14000000 := by omega
      have hb0 := HW.out.below (B := B) HBw.out (Nat.le_of_eq Hwb.out) (by simp)
      have hBwr : B ≤ wr.heap.size := Nat.le_trans HBw.out hb0.size
      have H2 := Lib.hid h2
      have Hb0 := Lib.hid hb0
      clear h1 h2 h3 h4 hnl hb0
      go_wp2_with (at_builtin; refine wp_app rfl (.tmp 94) (.tmp 98) rfl B 2 2 nl cp (some ⟨wr.heap.size, 0, none⟩) p [120, 1] l' rfl rfl (Ob.made wr B [120, 1] hBwr (by simp [maxLen])) _ (H2.out.keep fun k hk => heap_alloc_old wr _ (H2.out.lt k hk).2).reads (by omega) (by simp; omega) ?_; intro p1 c1 w1 hO1 hG1 hL1; have HO1 := Lib.hid hO1; have Hb1 := Lib.hid ((Hb0.out.alloc hBwr _).grown hG1 (by simp; omega) (by rintro k ⟨⟩; exact hBwr)); clear hO1 hG1 hL1 c0)
      refine (adler_ok (some ⟨b, 0, none⟩) cap n d _ Hd.out (by omega) (Hs.out.below Hb1.out (by rintro x ⟨⟩; exact hbB))).mono ?_
      rintro e w2 ⟨x, hx, rfl, rfl⟩
      go_wp2_with fail
      refine (four_ok x _ hx).mono ?_
      rintro e w3 ⟨rfl, hO3, hb3⟩
      have HO3 := Lib.hid hO3
      have Hb3 := Lib.hid hb3
      have hBw1 : B ≤ w1.heap.size := Nat.le_trans HBw.out Hb1.out.size
      clear hO3 hb3
      go_wp2_with (at_builtin; refine wp_app rfl (.tmp 99) (.tmp 102) rfl B (2 + nl) c1 4 4 p1 (some ⟨w1.heap.size, 0, none⟩) ([120, 1] ++ l') (four x) rfl rfl (HO1.out.kept Hb3.out) _ HO3.out.reads (by omega) (Nat.le_trans hBw1 Hb3.out.size) ?_; intro p2 c2 w4 hO4 hG4 hL4; have HO4 := Lib.hid hO4; have Hb4 := Lib.hid ((Hb1.out.trans (Hb3.out.mono hBw1)).grown hG4 (Nat.le_trans hBw1 Hb3.out.size) (fun k hk => (HO1.out.lt k hk).1)); clear hO4 hG4 hL4)
      go_ret
      refine ⟨p2, 2 + nl + 4, c2, _, rfl, by rw [← HB.out]; exact HO4.out, by omega, by omega, ?_⟩
      rw [← HB.out]
      refine Below.trans ?_ Hb4.out
      rw [← Hw0.out]
      exact (Below.refl _ _).alloc (by rw [HB.out]; exact Nat.le_refl _) _
end Go.Proofs.YtnpkgmgedgcjmaaGreatDoor
