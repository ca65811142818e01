/- A chunk as the reference writes it. -/
import Derived.Test.YtnpkgmgedgcjmaaGreatDoorW6
import Derived.Test.YtnpkgmgedgcjmaaGreatDoorLw
set_option linter.all false
namespace Go.Proofs.YtnpkgmgedgcjmaaGreatDoor
open Go Go.RowKit Png

theorem str_bytes (s : ByteArray) (j : Nat) (hj : j < s.size) : (bvals s.data.toList)[j]? = some (.int .u8 (s.data.toList.getD j 0).toNat) := by
  rw [bvals_get _ _ (by simpa using hj)]
  rfl

theorem below_freeze (w : World) (s : ByteArray) : Below w.heap.size w (Lib.bytesWorld w 5 s) :=
  ⟨rfl, rfl, rfl, by rw [Lib.bytesWorld_size]; omega, fun k hk => Lib.bytesWorld_at_old w 5 s k hk⟩

theorem wp_app_mk {w : World} {ops : Array Oper} {rest : List Oper} {o : Oper} {a : Act} {Q : Exit → Act → World → Prop} (hgd : o.guard = none) (s x : Operand)
    (ho : o.op = .call { callee := .builtin .append, args := #[s, x], argTypes := #[24, 24] })
    (g n cap m c : Nat) (cur : Array Value) (mk : Nat × Nat) (l l2 : List UInt8) (p2 : Option Addr) (B : Nat) (hs : a.eval s = .slice (some ⟨g, 0, none⟩) n cap) (hx : a.eval x = .slice p2 m c)
    (hg : w.heap[g]? = some (.cells cur 5 mk)) (hmk : cur.size ≤ mk.1) (hcs : cur.size = cap) (hn : n ≤ cap) (hl : l.length = n) (hcur : cur.toList.take n = bvals l) (hr : Reads w B 1 p2 m (bvals l2)) (hbd : n + m ≤ 1073741824)
    (h : ∀ p' cap' w', Reads w' w'.heap.size 1 p' (n + m) (bvals (l ++ l2)) → w.grownBy w' (some g) → (∀ a, p' = some a → a.spot = none) → wpList Tryz.prog ops Q rest (a.put o.dst (.slice p' (n + m) cap')) w') :
    wpList Tryz.prog ops Q (o :: rest) a w := by
  refine wpList_plain hgd fun K hK => ?_
  obtain ⟨p', cap', w', hrun, h1, h2, h3⟩ := run_app_mk w o.type g n cap m c cur mk l l2 p2 B hg hmk hcs hn hl hcur hr hbd
  unfold Oper.wp
  simp [execOp, ho, resolve, invoke, builtin, hs, hx, hrun, Result.andThen]
  exact hK _ _ (h p' cap' w' h1 h2 h3)

theorem bytes_take (w : World) (s : ByteArray) : (Lib.bytesCells w 5 s).toList.take s.size = bvals s.data.toList := by
  unfold Lib.bytesCells
  rw [Array.toList_append, List.take_append_of_le_length (by simp)]
  rw [List.take_of_length_le (by simp)]
  simp [bvals]
theorem bytes_size (w : World) (s : ByteArray) : (Lib.bytesCells w 5 s).size = grownCap w s.size 0 5 := by
  have := grownCap_ge w s.size 0 5
  unfold Lib.bytesCells
  simp
  omega

set_option maxHeartbeats 4000000 in
set_option maxRecDepth 100000 in
theorem chunk_ok (nm : ByteArray) (p : Option Addr) (n cap B : Nat) (d : List UInt8) (w : World) (hr : Reads w B 1 p n (bvals d)) (hp : ∀ a, p = some a → a.spot = none) (hpB : ∀ a, p = some a → a.block < w.heap.size) (hn : n ≤ 30000000) (hnm : nm.size = 4) :
    Calls Tryz.prog 18 #[.string nm, .slice p n cap] w fun e w' =>
      ∃ p' n' cap', e = .returned (.slice p' n' cap') ∧ n' ≤ n + 12 ∧ Ob w' w.heap.size p' n' cap' (ck (nm.data.toList, d)) ∧ Below w.heap.size w w' := by
  have Hr := Lib.hid hr
  have Hp := Lib.hid hp
  have HpB := Lib.hid hpB
  have hdl : d.length = n := by have := hr.1; simpa using this
  have Hdl := Lib.hid hdl
  have hnl : nm.data.toList.length = 4 := by simpa using hnm
  have Hnl := Lib.hid hnl
  have Hnm := Lib.hid hnm
  have hcv := fun (W : World) => Lib.run_convert_string_bytes (P := Tryz.prog) W 9 24 5 nm Tryz.underlying9 Tryz.underlying24 Tryz.underlying5
  clear hr hp hdl hnl hpB hnm
  have hge := grownCap_ge w nm.size 0 5
  have hbw := below_freeze w nm
  have hnew := Lib.bytesWorld_at_new w 5 nm
  have Hbw := Lib.hid hbw
  have Hnew := Lib.hid hnew
  have Hge := Lib.hid hge
  clear hbw hnew hge
  go_enter Tryz.func18, Tryz.ntmps18
  go_wp2_with (at_builtin; refine wp_app_mk rfl (.tmp 7) (.tmp 8) rfl w.heap.size nm.size (grownCap w nm.size 0 5) n cap (Lib.bytesCells w 5 nm) _ nm.data.toList d p w.heap.size rfl rfl Hnew.out (Nat.le_refl _) (bytes_size w nm) Hge.out rfl (bytes_take w nm) (Reads.below (B := w.heap.size) ⟨Hr.out.1, fun h0 => by obtain ⟨ad, e, _, hc⟩ := Hr.out.2 h0; exact ⟨ad, e, HpB.out _ e, hc⟩⟩ Hbw.out) (by have := Hnm.out; omega) ?_; intro p1 c1 w1 hR1 hG1 hsp1; have HR1 := Lib.hid hR1; have Hb1 := Lib.hid (Hbw.out.grown hG1 (by rw [Lib.bytesWorld_size]; omega) (by rintro k ⟨⟩; exact Nat.le_refl _)); have Hsp1 := Lib.hid hsp1; clear hR1 hG1 hsp1 hcv)
  refine (four_ok n w1 (by omega)).mono ?_
  rintro e w2 ⟨rfl, hO2, hb2⟩
  have HO2 := Lib.hid hO2
  have Hb2 := Lib.hid hb2
  have HR2 := Lib.hid (HR1.out.below hb2)
  clear hO2 hb2
  have hnm4 : nm.size ≤ 4 := by have := Hnm.out; omega
  go_wp2_with (at_builtin; refine wp_app rfl (.tmp 13) (.tmp 14) rfl w1.heap.size 4 4 (nm.size + n) c1 (some ⟨w1.heap.size, 0, none⟩) p1 (four n) (nm.data.toList ++ d) rfl rfl HO2.out _ HR2.out (by omega) Hb2.out.size ?_; intro p3 c3 w3 hO3 hG3 hL3; have HO3 := Lib.hid hO3; have HG3 := Lib.hid hG3; clear hO3 hG3 hL3)
  have HR3 := Lib.hid (HR2.out.grown HG3.out Hb2.out.size (by rintro k ⟨⟩; exact Nat.le_refl _))
  have Hb3 := Lib.hid (Hb2.out.grown HG3.out Hb2.out.size (by rintro k ⟨⟩; exact Nat.le_refl _))
  have hlen : (nm.data.toList ++ d).length = nm.size + n := by rw [List.length_append, Hdl.out]; simp
  have Hlen := Lib.hid hlen
  clear hlen
  refine (crc_ok p1 c1 (nm.size + n) (nm.data.toList ++ d) w3 Hlen.out (by omega) (HR3.out.bsl Hsp1.out)).mono ?_
  rintro e w4 ⟨rfl, rfl⟩
  go_wp2_with fail
  have hcl := crc_lt (nm.data.toList ++ d)
  refine (four_ok (crc (nm.data.toList ++ d)) w3 hcl).mono ?_
  rintro e w5 ⟨rfl, hO5, hb5⟩
  have HO5 := Lib.hid hO5
  have Hb5 := Lib.hid hb5
  clear hO5 hb5
  go_wp2_with (at_builtin; refine wp_app rfl (.tmp 15) (.tmp 18) rfl w1.heap.size (4 + (nm.size + n)) c3 4 4 p3 (some ⟨w3.heap.size, 0, none⟩) (four n ++ (nm.data.toList ++ d)) (four (crc (nm.data.toList ++ d))) rfl rfl (HO3.out.kept Hb5.out) _ HO5.out.reads (by omega) (Nat.le_trans Hb3.out.size Hb5.out.size) ?_; intro p6 c6 w6 hO6 hG6 hL6; have HO6 := Lib.hid hO6; have HG6 := Lib.hid hG6; clear hO6 hG6 hL6)
  go_ret
  have hlt := HO3.out.lt
  refine ⟨p6, 4 + (nm.size + n) + 4, c6, rfl, by omega, ?_, ?_⟩
  · have := (HO6.out.lower Hb1.out.size)
    unfold ck
    rw [Hdl.out]
    simpa [List.append_assoc] using this
  · exact Hb1.out.trans (((Hb3.out.mono Hb1.out.size).trans (Hb5.out.mono (Nat.le_trans Hb1.out.size Hb3.out.size))).grown HG6.out (Nat.le_trans (Nat.le_trans Hb1.out.size Hb3.out.size) Hb5.out.size) (fun k hk => Nat.le_trans Hb1.out.size (hlt k hk).1))
end Go.Proofs.YtnpkgmgedgcjmaaGreatDoor
