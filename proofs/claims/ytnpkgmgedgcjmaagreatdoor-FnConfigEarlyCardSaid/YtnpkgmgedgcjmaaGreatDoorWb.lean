/- The writer's side: bytes that are owned, ints that are owned, and what is put behind them. -/
import Derived.Test.YtnpkgmgedgcjmaaGreatDoorMem
import Derived.Test.YtnpkgmgedgcjmaaGreatDoorCrc
import Derived.OwnWalk
import Derived.Deep.LoopGhost
import Derived.Below
import Derived.Laws.OwnMore
import Derived.Deep.AppendLies
import Derived.Deep.Draws
import Derived.Laws.Rows
import Derived.Maps.AppendAt
import Derived.RegionTactic
set_option linter.all false

/- The writer's side: bytes that come in, bytes that are owned, the sums. -/
namespace Go.Proofs.YtnpkgmgedgcjmaaGreatDoor
open Go Go.RowKit Png

/-- Bytes behind a slice's pointer (nil where there are none). -/
def Bsl (w : World) (p : Option Addr) (l : List UInt8) : Prop :=
  l = [] ∨ ∃ b off, p = some ⟨b, off, none⟩ ∧ Seg w b off l

theorem Bsl.at {w : World} {p : Option Addr} {l : List UInt8} (h : Bsl w p l) {k : Nat} (hk : k < l.length) :
    ∃ b off, p = some ⟨b, off, none⟩ ∧ w.cell? ⟨b, off + k, none⟩ = some (.int .u8 (nb l k : Int)) := by
  rcases h with rfl | ⟨b, off, rfl, hs⟩
  · simp at hk
  · exact ⟨b, off, rfl, hs k hk⟩

theorem crcRun_take' (c : Nat) (l : List UInt8) (k : Nat) (hk : k < l.length) : crcRun c (l.take (k + 1)) = crc8 (crcRun c (l.take k) ^^^ nb l k) := by
  rw [List.take_succ_eq_append_getElem hk, crcRun_append]
  show crcByte _ _ = _
  unfold crcByte nb
  simp [List.getD_eq_getElem?_getD, List.getElem?_eq_getElem hk]

def crcN : Nat → Nat → Nat
  | 0, x => x
  | k + 1, x => crc1 (crcN k x)
theorem crcN_lt (k x : Nat) (h : x < 4294967296) : crcN k x < 4294967296 := by
  induction k with
  | zero => exact h
  | succ k ih => exact crc1_lt ih

theorem and_one (x : Nat) (h : x < 4294967296) : bits .and .u32 (x : Int) 1 = ((x % 2 : Nat) : Int) := by
  have := u32_and_nat x 1 h (by decide)
  rw [Nat.and_one_is_mod] at this
  exact this

set_option maxHeartbeats 1000000 in
set_option maxRecDepth 100000 in
theorem crc_ok (p : Option Addr) (cap n : Nat) (l : List UInt8) (w : World) (hl : l.length = n) (hn : n ≤ 9223372036854775807) (hs : Bsl w p l) :
    Calls Tryz.prog 39 #[.slice p n cap] w fun e w' => e = .returned (.int .u32 (crc l : Nat)) ∧ w = w' := by
  have Hs := Lib.hid hs
  have Hl := Lib.hid hl
  clear hs hl
  go_enter Tryz.func39, Tryz.ntmps39
  go_wp2
  go_loop [3, 5, 8] (fun c v i => ∃ k x : Nat, k ≤ n ∧ x < 4294967296 ∧ Hid (x = crcRun 4294967295 (l.take k)) ∧ i = .int .i64 k ∧ c = .int .u32 (x : Nat)) (fun _ _ i => n - (intOf i).toNat)
  case atStart => exact ⟨0, 4294967295, Nat.zero_le _, by omega, Lib.hid (by simp [crcRun]), rfl, rfl⟩
  case round =>
    obtain ⟨k, x, hk, hx, Hx, rfl, rfl⟩ := hrel
    by_cases hlt : k < n
    · obtain ⟨b, off, rfl, hc⟩ := Hs.out.at (k := k) (by rw [Hl.out]; exact hlt)
      have hb := nb_lt l k
      have e1 := u32_xor_nat x (nb l k) hx (by omega)
      have hx1 : x ^^^ nb l k < 4294967296 := Nat.xor_lt_two_pow (n := 32) (by omega) (by omega)
      obtain ⟨x1, hx1e⟩ : ∃ x1, x1 = x ^^^ nb l k := ⟨_, rfl⟩
      rw [← hx1e] at e1 hx1
      have Hx1 := Lib.hid hx1e
      clear hx1e
      go_wp2
      go_loop [3, 16] (fun c i => ∃ j y : Nat, j ≤ 8 ∧ y < 4294967296 ∧ Hid (y = crcN j x1) ∧ i = .int .i64 j ∧ c = .int .u32 (y : Nat)) (fun _ i => 8 - (intOf i).toNat)
      case atStart => exact ⟨0, x1, by omega, hx1, Lib.hid rfl, rfl, rfl⟩
      case round =>
        obtain ⟨j, y, hj, hy, Hy, rfl, rfl⟩ := hrel
        by_cases hj8 : j < 8
        · have e2 := and_one y hy
          have e3 := u32_xor_nat (y / 2) 3988292384 (by omega) (by omega)
          have e4 : (y : Int) / 2 = ((y / 2 : Nat) : Int) := by omega
          by_cases ho : y % 2 = 1
          · have ho' : ((y % 2 : Nat) : Int) = 1 := by omega
            rw [ho'] at e2
            have hlt2 : (y / 2) ^^^ 3988292384 < 4294967296 := Nat.xor_lt_two_pow (n := 32) (by omega) (by omega)
            have He4 := Lib.hid e4
            clear e4 ho'
            go_wp2
            go_round
            case rel =>
              refine ⟨j + 1, (y / 2) ^^^ 3988292384, by omega, hlt2, Lib.hid ?_, by go_num, ?_⟩
              · unfold crcN; rw [← Hy.out]; unfold crc1; rw [if_pos ho]
              · rw [He4.out, ← e3]; rfl
            case measure => simp [intOf]; omega
          · have ho' : ((y % 2 : Nat) : Int) = 0 := by omega
            rw [ho'] at e2
            have He4 := Lib.hid e4
            clear e4 ho' e3
            go_wp2
            go_round
            case rel =>
              refine ⟨j + 1, y / 2, by omega, by omega, Lib.hid ?_, by go_num, ?_⟩
              · unfold crcN; rw [← Hy.out]; unfold crc1; rw [if_neg ho]
              · rw [← He4.out]
            case measure => simp [intOf]; omega
        · have hj' : j = 8 := by omega
          subst hj'
          clear e1
          go_wp2
          go_round
          case rel =>
            refine ⟨k + 1, y, by omega, hy, Lib.hid ?_, by go_num, rfl⟩
            rw [crcRun_take' _ _ _ (by rw [Hl.out]; exact hlt), ← Hx.out, ← Hx1.out]; exact Hy.out
          case measure => simp [intOf]; omega
    · have hk' : k = n := by omega
      have hn2 := not32 x hx
      go_wp2
      go_ret
      refine ⟨?_, rfl⟩
      rw [Hx.out, hk', ← Hl.out, List.take_length]; rfl
end Go.Proofs.YtnpkgmgedgcjmaaGreatDoor

/- Words for memory (the plain theorems that the kit's page of words gives to be copied): a slice that reads as a list, a block that is known whole, an append onto a row of the call's own. -/
namespace Go.Proofs.YtnpkgmgedgcjmaaGreatDoor
open Go Go.RowKit

theorem block_of_add (a : Addr) (n : Nat) : (a.add n).block = a.block := by unfold Addr.add; split <;> rfl
theorem add_of_add (a : Addr) (i j : Nat) : (a.add i).add j = a.add (i + j) := by
  unfold Addr.add
  by_cases hi : i = 0 <;> by_cases hj : j = 0 <;> simp [hi, hj, Nat.add_assoc]

def Reads (w : World) (B size : Nat) (A : Option Addr) (n : Nat) (xs : List Value) : Prop :=
  xs.length = n * size ∧ (0 < n → ∃ ad, A = some ad ∧ ad.block < B ∧ ∀ j u, xs[j]? = some u → w.cell? (ad.add j) = some u)

section
variable {w w' : World} {B B' size n : Nat} {A : Option Addr} {xs : List Value}
theorem Reads.none_ : Reads w B size A 0 [] := ⟨by simp, fun h => absurd h (by omega)⟩
theorem Reads.at_ {k : Nat} (h : Reads w B 1 A n xs) (hk : k < n) : ∃ ad u, A = some ad ∧ ad.block < B ∧ xs[k]? = some u ∧ w.cell? (ad.add k) = some u := by
  obtain ⟨ad, e, hb, hc⟩ := h.2 (by omega)
  have hl : k < xs.length := by have := h.1; omega
  exact ⟨ad, xs[k], e, hb, List.getElem?_eq_getElem hl, hc k _ (List.getElem?_eq_getElem hl)⟩
theorem Reads.keep (h : Reads w B size A n xs) (hk : ∀ p : Addr, p.block < B → w'.cell? p = w.cell? p) : Reads w' B size A n xs :=
  ⟨h.1, fun hn => by
    obtain ⟨ad, e, hb, hc⟩ := h.2 hn
    exact ⟨ad, e, hb, fun j u hu => (hk _ (by rw [block_of_add]; exact hb)).trans (hc j u hu)⟩⟩
theorem Reads.more (h : Reads w B size A n xs) (hB : B ≤ B') : Reads w B' size A n xs :=
  ⟨h.1, fun hn => by
    obtain ⟨ad, e, hb, hc⟩ := h.2 hn
    exact ⟨ad, e, by omega, hc⟩⟩
theorem Reads.below (h : Reads w B size A n xs) (hb : Below B w w') : Reads w' B size A n xs := h.keep fun _ hp => hb.cell hp
theorem Reads.drew (h : Reads w B size A n xs) : Reads w.drew B size A n xs := h
theorem Reads.drewN (h : Reads w B size A n xs) (k : Nat) : Reads (w.drewN k) B size A n xs := h
theorem Reads.alloc (h : Reads w B size A n xs) (hB : B ≤ w.heap.size) (o : Obj) : Reads (w.alloc o) B size A n xs := h.keep fun p hp => World.cell?_alloc_lt w o p (by omega)
theorem Reads.setCell (h : Reads w B size A n xs) {p : Addr} (hB : B ≤ p.block) (u : Value) : Reads (w.setCell p u) B size A n xs :=
  h.keep fun q hq => World.cell?_setCell_other w p q u (fun e => by subst e; omega)
theorem Reads.grown (h : Reads w B size A n xs) {row : Option Nat} (hg : w.grownBy w' row) (hB : B ≤ w.heap.size) (hr : ∀ g, row = some g → B ≤ g) : Reads w' B size A n xs :=
  h.keep fun p hp => World.cell?_of_block (hg.block p.block (by omega) (fun e => by have := hr _ e.symm; omega))
theorem Reads.cut (h : Reads w B size A n xs) {k cap : Nat} (hk : k ≤ n) (hc : n ≤ cap) :
    Reads w B size (if cap = k then A else A.map (·.add (k * size))) (n - k) (xs.drop (k * size)) := by
  refine ⟨by rw [List.length_drop, h.1, Nat.sub_mul], fun hn => ?_⟩
  obtain ⟨ad, rfl, hb, hcell⟩ := h.2 (by omega)
  rw [if_neg (by omega)]
  refine ⟨ad.add (k * size), rfl, by rw [block_of_add]; exact hb, fun j u hu => ?_⟩
  rw [add_of_add]
  exact hcell _ u (by rw [← hu, List.getElem?_drop])
theorem Reads.of_own {base : Nat} {e : TypeId} {c : Nat} (h : w.ownsRow base e size (.slice A n c) n xs) : Reads w w.heap.size size A n xs := by
  refine ⟨h.1, fun hn => ?_⟩
  obtain ⟨g, cap, hv, _, hlt⟩ := h.form hn
  have hA : A = some ⟨g, 0, none⟩ := by injection hv
  subst hA
  exact ⟨_, rfl, hlt, h.cells (g := g) rfl⟩
end

def Blk (w : World) (g : Nat) (t : TypeId) (cs : Array Value) : Prop := w.heap[g]? = some (.cells cs t (0, 0))

section
variable {w w' : World} {g : Nat} {t : TypeId} {cs : Array Value}
theorem Blk.lt (h : Blk w g t cs) : g < w.heap.size := by
  rcases Nat.lt_or_ge g w.heap.size with hlt | hge
  · exact hlt
  · unfold Blk at h; rw [Array.getElem?_eq_none hge] at h; cases h
theorem Blk.cell (h : Blk w g t cs) (i : Nat) : w.cell? ⟨g, i, none⟩ = cs[i]? := cell_of_row w g i cs t (0, 0) h
theorem Blk.frozen (h : Blk w g t cs) (i : Nat) : w.frozen? ⟨g, i, none⟩ = false := by
  unfold Blk at h
  simp [World.frozen?, h]
theorem Blk.new (w : World) (t : TypeId) (cs : Array Value) : Blk (w.alloc (.cells cs t)) w.heap.size t cs := heap_alloc_new w _
theorem Blk.drew (h : Blk w g t cs) : Blk w.drew g t cs := h
theorem Blk.drewN (h : Blk w g t cs) (n : Nat) : Blk (w.drewN n) g t cs := h
theorem Blk.alloc (h : Blk w g t cs) (o : Obj) : Blk (w.alloc o) g t cs := (Below.heap_alloc w o g h.lt).trans h
theorem Blk.set_ (h : Blk w g t cs) (i : Nat) (u : Value) : Blk (w.setCell ⟨g, i, none⟩ u) g t (cs.setIfInBounds i u) := by
  unfold Blk at h ⊢
  simp [World.setCell, Array.getElem?_modify, h]
theorem Blk.far (h : Blk w g t cs) {p : Addr} (hp : g ≠ p.block) (u : Value) : Blk (w.setCell p u) g t cs := (Below.heap_setCell w p u g hp).trans h
theorem Blk.below {B : Nat} (h : Blk w g t cs) (hb : Below B w w') (hg : g < B) : Blk w' g t cs := (hb.block g hg).trans h
theorem Blk.grown {row : Option Nat} (h : Blk w g t cs) (hb : w.grownBy w' row) (hg : some g ≠ row) : Blk w' g t cs := (hb.block g h.lt hg).trans h
theorem Blk.ne_ {g' : Nat} {t' : TypeId} {cs' : Array Value} (h : Blk w g t cs) (h' : Blk w g' t' cs') (hne : t ≠ t') : g ≠ g' := by
  rintro rfl
  unfold Blk at h h'
  rw [h] at h'
  injection h' with h'
  injection h' with _ ht
  exact hne ht
theorem own_blk_ne {base : Nat} {e : TypeId} {size n : Nat} {v : Value} {xs : List Value} (h : w.ownsRow base e size v n xs) (hg : Blk w g t cs) (hne : e ≠ t) : v.ownBlock ≠ some g := by
  rcases h.2 with ⟨rfl, _⟩ | ⟨g', cap, cur, rfl, _, hh, _⟩
  · simp [Value.ownBlock]
  · intro he
    have : g' = g := by simpa [Value.ownBlock] using he
    subst this
    exact Blk.ne_ (t := e) hh hg hne rfl
end

section
variable {P : Program} (w : World)

theorem run_append_of_nil (base : Nat) (t ty e : TypeId) (i : TypeInfo) (size : Nat) (ht : P.underlying t = some (.slice e)) (hi : P.info? e = some i)
    (v : Value) (n : Nat) (xs : List Value) (hown : w.ownsRow base e size v n xs) (c : Nat) : (Builtin.append_ #[t, t] ty #[v, .slice none 0 c]).run P w = .ok v w := by
  rcases hown.2 with ⟨rfl, rfl⟩ | ⟨g, cap, cur, rfl, _, _, hnc, _⟩
  · simp [Builtin.append_, run_underlying ht, sizeOf, typeInfo, hi, Builtin.lenOf, Builtin.firstCells]
  · simp [Builtin.append_, run_underlying ht, sizeOf, typeInfo, hi, Builtin.lenOf, Builtin.firstCells, hnc, storeCells]

theorem run_append_any (base : Nat) (t ty e : TypeId) (i : TypeInfo) (z : Value) (size bytes : Nat) (ht : P.underlying t = some (.slice e)) (hi : P.info? e = some i) (hz : i.zero = some z)
    (hsize : i.size = size) (hby : i.bytes = bytes) (hzs : z.cells.size = size) (hsz : 0 < size)
    (v : Value) (n : Nat) (xs : List Value) (hown : w.ownsRow base e size v n xs)
    (B : Nat) (A : Option Addr) (m c : Nat) (news : List Value) (hr : Reads w B size A m news) (h1 : ∀ u ∈ news, u.oneCell' = true)
    (h63 : n + m ≤ maxLen) (hbytes : (n + m) * bytes ≤ 140737488355328) (hbase : base ≤ w.heap.size) :
    ∃ v' w', (Builtin.append_ #[t, t] ty #[v, .slice A m c]).run P w = .ok v' w' ∧ w'.ownsRow base e size v' (n + m) (xs ++ news) ∧ w.grownBy w' v.ownBlock ∧
      (v'.ownBlock = v.ownBlock ∨ v'.ownBlock = some w.heap.size) := by
  rcases A with _ | ad
  · have hm : m = 0 := by
      rcases Nat.eq_zero_or_pos m with h0 | h0
      · exact h0
      · obtain ⟨ad, h, _⟩ := hr.2 h0
        cases h
    subst hm
    have hn : news = [] := List.eq_nil_of_length_eq_zero (by simpa using hr.1)
    subst hn
    exact ⟨v, w, run_append_of_nil w base t ty e i size ht hi v n xs hown c, by simpa using hown, World.grownBy.refl w _, .inl rfl⟩
  · have hcells : ∀ j u, news[j]? = some u → w.cell? (ad.add j) = some u := by
      intro j u hu
      rcases Nat.eq_zero_or_pos m with h0 | h0
      · subst h0
        have hn : news = [] := List.eq_nil_of_length_eq_zero (by simpa using hr.1)
        subst hn
        simp at hu
      · obtain ⟨ad', h, _, hc⟩ := hr.2 h0
        injection h with h
        subst h
        exact hc j u hu
    obtain ⟨v', w', hrun, h2, h3, _, h5⟩ := run_append_own_at (P := P) w base t ty e i z size bytes ht hi hz hsize hby hzs hsz v n xs hown ad m c news hr.1 hcells h1 h63 hbytes hbase
    exact ⟨v', w', hrun, h2, h3, h5⟩

theorem wp_append_any {o : Oper} {a : Act} {K : Act → World → Prop} {Q : Exit → Act → World → Prop} (s x : Operand) (t : TypeId)
    (ho : o.op = .call { callee := .builtin .append, args := #[s, x], argTypes := #[t, t] })
    (base : Nat) (e : TypeId) (i : TypeInfo) (z : Value) (size bytes : Nat) (ht : P.underlying t = some (.slice e)) (hi : P.info? e = some i) (hz : i.zero = some z)
    (hsize : i.size = size) (hby : i.bytes = bytes) (hzs : z.cells.size = size) (hsz : 0 < size)
    (v : Value) (n : Nat) (xs : List Value) (hs : a.eval s = v) (hown : w.ownsRow base e size v n xs)
    (B : Nat) (A : Option Addr) (m c : Nat) (news : List Value) (hx : a.eval x = .slice A m c) (hr : Reads w B size A m news) (h1 : ∀ u ∈ news, u.oneCell' = true)
    (h63 : n + m ≤ maxLen) (hbytes : (n + m) * bytes ≤ 140737488355328) (hbase : base ≤ w.heap.size)
    (h : ∀ v' w', w'.ownsRow base e size v' (n + m) (xs ++ news) → w.grownBy w' v.ownBlock → (v'.ownBlock = v.ownBlock ∨ v'.ownBlock = some w.heap.size) → K (a.put o.dst v') w') : o.wp P a w K Q := by
  obtain ⟨v', w', hrun, h2, h3, h4⟩ := run_append_any (P := P) w base t o.type e i z size bytes ht hi hz hsize hby hzs hsz v n xs hown B A m c news hr h1 h63 hbytes hbase
  unfold Oper.wp execOp
  simp only [ho, resolve, invoke, builtin, Sem.run_bind, Sem.run_pure, Result.andThen_ok, List.map_toArray, List.map_cons, List.map_nil, hs, hx, hrun]
  exact h v' w' h2 h3 h4

theorem wpList_append_any {ops : Array Oper} {rest : List Oper} {o : Oper} {a : Act} {Q : Exit → Act → World → Prop} (hgd : o.guard = none) (s x : Operand) (t : TypeId)
    (ho : o.op = .call { callee := .builtin .append, args := #[s, x], argTypes := #[t, t] })
    (base : Nat) (e : TypeId) (i : TypeInfo) (z : Value) (size bytes : Nat) (ht : P.underlying t = some (.slice e)) (hi : P.info? e = some i) (hz : i.zero = some z)
    (hsize : i.size = size) (hby : i.bytes = bytes) (hzs : z.cells.size = size) (hsz : 0 < size)
    (v : Value) (n : Nat) (xs : List Value) (hs : a.eval s = v) (hown : w.ownsRow base e size v n xs)
    (B : Nat) (A : Option Addr) (m c : Nat) (news : List Value) (hx : a.eval x = .slice A m c) (hr : Reads w B size A m news) (h1 : ∀ u ∈ news, u.oneCell' = true)
    (h63 : n + m ≤ maxLen) (hbytes : (n + m) * bytes ≤ 140737488355328) (hbase : base ≤ w.heap.size)
    (h : ∀ v' w', w'.ownsRow base e size v' (n + m) (xs ++ news) → w.grownBy w' v.ownBlock → (v'.ownBlock = v.ownBlock ∨ v'.ownBlock = some w.heap.size) → wpList P ops Q rest (a.put o.dst v') w') : wpList P ops Q (o :: rest) a w :=
  wpList_plain hgd fun _ hK => wp_append_any w s x t ho base e i z size bytes ht hi hz hsize hby hzs hsz v n xs hs hown B A m c news hx hr h1 h63 hbytes hbase fun v' w' h2 h3 h4 => hK _ _ (h v' w' h2 h3 h4)

theorem step_append_any {ops : Array Oper} {o : Oper} {a : Act} {K : Act → World → Prop} {Q : Exit → Act → World → Prop} {E : Prop} (hgd : o.guard = none) (s x : Operand) (t : TypeId)
    (ho : o.op = .call { callee := .builtin .append, args := #[s, x], argTypes := #[t, t] })
    (base : Nat) (e : TypeId) (i : TypeInfo) (z : Value) (size bytes : Nat) (ht : P.underlying t = some (.slice e)) (hi : P.info? e = some i) (hz : i.zero = some z)
    (hsize : i.size = size) (hby : i.bytes = bytes) (hzs : z.cells.size = size) (hsz : 0 < size)
    (v : Value) (n : Nat) (xs : List Value) (hs : a.eval s = v) (hown : w.ownsRow base e size v n xs)
    (B : Nat) (A : Option Addr) (m c : Nat) (news : List Value) (hx : a.eval x = .slice A m c) (hr : Reads w B size A m news) (h1 : ∀ u ∈ news, u.oneCell' = true)
    (h63 : n + m ≤ maxLen) (hbytes : (n + m) * bytes ≤ 140737488355328) (hbase : base ≤ w.heap.size)
    (h : ∀ v' w', w'.ownsRow base e size v' (n + m) (xs ++ news) → w.grownBy w' v.ownBlock → (v'.ownBlock = v.ownBlock ∨ v'.ownBlock = some w.heap.size) → K (a.put o.dst v') w') :
    if Region.wanted o (yielded ops a.tmps) = true then Oper.wp P o a w K Q else E := by
  have hw : Region.wanted o (yielded ops a.tmps) = true := by simp [Region.wanted, hgd]
  rw [if_pos hw]
  exact wp_append_any w s x t ho base e i z size bytes ht hi hz hsize hby hzs hsz v n xs hs hown B A m c news hx hr h1 h63 hbytes hbase h
end
end Go.Proofs.YtnpkgmgedgcjmaaGreatDoor

namespace Go.Proofs.YtnpkgmgedgcjmaaGreatDoor
open Go Go.RowKit Png

/-- Bytes of its own: a row from block base on (or nil), of just these bytes. -/
def Ob (w : World) (base : Nat) (p : Option Addr) (n cap : Nat) (l : List UInt8) : Prop :=
  l.length = n ∧ w.ownsRow base 5 1 (.slice p n cap) n (bvals l)

theorem own_reads {w : World} {base e size n cap : Nat} {p : Option Addr} {xs : List Value} (h : w.ownsRow base e size (.slice p n cap) n xs) : Reads w w.heap.size size p n xs := Reads.of_own h

theorem Ob.reads {w : World} {base n cap : Nat} {p : Option Addr} {l : List UInt8} (h : Ob w base p n cap l) : Reads w w.heap.size 1 p n (bvals l) := Reads.of_own h.2

/-- Bytes that are read, in the words of bytes. -/
theorem Reads.bsl {w : World} {B n : Nat} {p : Option Addr} {l : List UInt8} (h : Reads w B 1 p n (bvals l)) (hp : ∀ a, p = some a → a.spot = none) : Bsl w p l := by
  by_cases h0 : 0 < n
  · obtain ⟨ad, rfl, _, hc⟩ := h.2 h0
    obtain ⟨b, off, sp⟩ := ad
    have : sp = none := hp _ rfl
    subst this
    refine .inr ⟨b, off, rfl, fun k hk => ?_⟩
    have := hc k _ (bvals_get l k hk)
    rwa [add_addr] at this
  · left
    have := h.1
    simp at this
    exact List.eq_nil_of_length_eq_zero (by omega)

theorem Ob.spot {w : World} {base n cap : Nat} {p : Option Addr} {l : List UInt8} (h : Ob w base p n cap l) : ∀ a, p = some a → a.spot = none := by
  rintro a rfl
  rcases h.2.2 with ⟨hv, _⟩ | ⟨g, c, cur, hv, _⟩
  · cases hv
  · injection hv with hv
    injection hv with hv
    rw [hv]

theorem Ob.bsl {w : World} {base n cap : Nat} {p : Option Addr} {l : List UInt8} (h : Ob w base p n cap l) : Bsl w p l := h.reads.bsl h.spot

theorem owns_kept {w w' : World} {base e size n cap : Nat} {p : Option Addr} {xs : List Value} (h : w.ownsRow base e size (.slice p n cap) n xs) (hb : ∀ k, p.map (·.block) = some k → w'.heap[k]? = w.heap[k]?) : w'.ownsRow base e size (.slice p n cap) n xs := by
  refine ⟨h.1, ?_⟩
  rcases h.2 with h0 | ⟨g, c, cur, hv, hb', hg, rest⟩
  · exact .inl h0
  · refine .inr ⟨g, c, cur, hv, hb', ?_, rest⟩
    injection hv with hp
    rw [hb g (by rw [hp]; rfl)]; exact hg

theorem owns_lower {w : World} {base base' e size n cap : Nat} {p : Option Addr} {xs : List Value} (h : w.ownsRow base e size (.slice p n cap) n xs) (hb : base' ≤ base) : w.ownsRow base' e size (.slice p n cap) n xs := by
  refine ⟨h.1, ?_⟩
  rcases h.2 with h0 | ⟨g, c, cur, hv, hb', rest⟩
  · exact .inl h0
  · exact .inr ⟨g, c, cur, hv, by omega, rest⟩

theorem owns_lt {w : World} {base e size n cap : Nat} {p : Option Addr} {xs : List Value} (h : w.ownsRow base e size (.slice p n cap) n xs) : ∀ k, p.map (·.block) = some k → base ≤ k ∧ k < w.heap.size := by
  intro k hk
  refine h.lt k ?_
  cases p with
  | none => simp at hk
  | some a => simpa [Value.ownBlock] using hk

theorem ownBlock_slice (p : Option Addr) (n c : Nat) : Value.ownBlock (.slice p n c) = p.map (·.block) := by cases p <;> rfl

theorem Ob.kept {w w' : World} {base n cap : Nat} {p : Option Addr} {l : List UInt8} (h : Ob w base p n cap l) (hb : Below w.heap.size w w') : Ob w' base p n cap l :=
  ⟨h.1, owns_kept h.2 fun k hk => hb.block k (owns_lt h.2 k hk).2⟩
theorem Ob.keep {w w' : World} {base n cap : Nat} {p : Option Addr} {l : List UInt8} (h : Ob w base p n cap l) (hb : ∀ k, p.map (·.block) = some k → w'.heap[k]? = w.heap[k]?) : Ob w' base p n cap l :=
  ⟨h.1, owns_kept h.2 hb⟩
theorem Ob.lower {w : World} {base base' n cap : Nat} {p : Option Addr} {l : List UInt8} (h : Ob w base p n cap l) (hb : base' ≤ base) : Ob w base' p n cap l := ⟨h.1, owns_lower h.2 hb⟩
theorem Ob.drew {w : World} {base n cap : Nat} {p : Option Addr} {l : List UInt8} (h : Ob w base p n cap l) : Ob w.drew base p n cap l := h
theorem Ob.none (w : World) (base : Nat) : Ob w base none 0 0 [] := ⟨rfl, World.ownsRow_nil w base 5 1⟩
theorem Ob.made (w : World) (base : Nat) (l : List UInt8) (hb : base ≤ w.heap.size) (hm : l.length ≤ maxLen) : Ob (w.alloc (.cells (bvals l).toArray 5)) base (some ⟨w.heap.size, 0, Option.none⟩) l.length l.length l :=
  ⟨rfl, by simp, .inr ⟨w.heap.size, l.length, _, rfl, hb, heap_alloc_new w _, Nat.le_refl _, hm, by simp, by simp [List.take_of_length_le]⟩⟩
theorem Ob.lt {w : World} {base n cap : Nat} {p : Option Addr} {l : List UInt8} (h : Ob w base p n cap l) : ∀ k, p.map (·.block) = some k → base ≤ k ∧ k < w.heap.size := owns_lt h.2

theorem owns_slice {w : World} {base e size n : Nat} {v : Value} {xs : List Value} (h : w.ownsRow base e size v n xs) : ∃ p cap, v = .slice p n cap := by
  rcases h.2 with ⟨rfl, rfl⟩ | ⟨g, c, cur, rfl, _⟩
  · exact ⟨_, _, rfl⟩
  · exact ⟨_, _, rfl⟩

/-- The builtin append of bytes (or of none) to bytes of its own. -/
theorem wp_app {w : World} {ops : Array Oper} {rest : List Oper} {o : Oper} {a : Act} {Q : Exit → Act → World → Prop} (hgd : o.guard = none) (s x : Operand)
    (ho : o.op = .call { callee := .builtin .append, args := #[s, x], argTypes := #[24, 24] })
    (base n cap m c : Nat) (p p2 : Option Addr) (l l2 : List UInt8) (hs : a.eval s = .slice p n cap) (hx : a.eval x = .slice p2 m c) (hown : Ob w base p n cap l)
    (B : Nat) (hr : Reads w B 1 p2 m (bvals l2)) (hbd : n + m ≤ 140737488355328) (hbase : base ≤ w.heap.size)
    (h : ∀ p' cap' w', Ob w' base p' (n + m) cap' (l ++ l2) → w.grownBy w' (p.map (·.block)) → (p'.map (·.block) = p.map (·.block) ∨ p'.map (·.block) = some w.heap.size) → wpList Tryz.prog ops Q rest (a.put o.dst (.slice p' (n + m) cap')) w') :
    wpList Tryz.prog ops Q (o :: rest) a w := by
  refine wpList_append_any w hgd s x 24 ho base 5 Tryz.t5 (.int .u8 0) 1 1 Tryz.underlying24 (by kernel_rfl) (by kernel_rfl) (by kernel_rfl) (by kernel_rfl) rfl (by decide)
    (.slice p n cap) n (bvals l) hs hown.2 B p2 m c (bvals l2) hx hr (bvals_one l2) (by simp only [maxLen]; omega) (by omega) hbase ?_
  intro v' w' h1 h2 h3
  obtain ⟨p', cap', rfl⟩ := owns_slice h1
  rw [ownBlock_slice] at h2 h3
  rw [ownBlock_slice] at h3
  have hl : l2.length = m := by have := hr.1; simpa using this
  exact h p' cap' w' ⟨by simp [hown.1, hl], by simpa [bvals] using h1⟩ h2 h3
end Go.Proofs.YtnpkgmgedgcjmaaGreatDoor
