import Derived.Test.Qxb6606008aPlain
import Derived.WalkSpells
import Derived.WalkLawsBesides
import Derived.Deep.RegionLaw
import Derived.Deep.DeepCutAuto
import Derived.Lib.SliceRun
import Derived.ArgAppend
namespace Go.Proofs.Qxb6606008a
open Go.RowKit
set_option linter.unusedVariables false
set_option linter.unusedSimpArgs false

theorem info5 : (Try.prog.info? 5).map (fun i => (i.zero, i.size, i.bytes)) = some (some (.int .u8 0), 1, 1) := by kernel_rfl

theorem nums_at (s : ByteArray) (j : Nat) (h : j < s.size) : (nums s).getD j 0 = (s[j].toNat : Int) := by
  have h' : j < (nums s).length := by rw [nums_len]; exact h
  rw [List.getD_eq_getElem?_getD, List.getElem?_eq_getElem h']
  simp only [Option.getD_some, nums, List.getElem_map, Array.getElem_toList]
  rfl
/-- A new row's cells. -/
theorem cells_new (w : World) (cs : List Value) (t : TypeId) : ∀ j u, cs[j]? = some u → (w.alloc (.cells cs.toArray t)).cell? ((⟨w.heap.size, 0, none⟩ : Addr).add j) = some u := by
  intro j u hj
  rw [Addr.add_lit, cell_of_row _ w.heap.size _ cs.toArray t (0, 0) (heap_alloc_new w _), Nat.zero_add]
  simpa using hj
theorem own_next {w : World} {B : Nat} {v : Value} {bs l : List Int} {j : Nat} (hj : j < l.length) {Y : List Int} (hY : Y = upto bs l j) {x : Int} (hx : l.getD j 0 = x) (ys : List Int) (he : enc x = ys) {n : Nat} (hn : n = Y.length + ys.length) (h : w.ownsRow B 5 1 v n (cells Y ++ cells ys)) : w.ownsRow B 5 1 v (upto bs l (j + 1)).length (cells (upto bs l (j + 1))) := by
  rw [upto_succ bs l j hj, hx, he, ← hY, cells_append, List.length_append, ← hn]
  exact h
theorem extract_size (s : ByteArray) (p j : Nat) (hj : j ≤ s.size) (hp : p ≤ j) : (s.extract p j).size = j - p := by
  rw [← nums_len, nums_extract, List.length_drop, List.length_take, nums_len]; omega
theorem own_seg {w : World} {B : Nat} {v : Value} {bs X : List Int} {s : ByteArray} {p j : Nat} (hj : j ≤ s.size) (hp : p ≤ j) (hX : X ++ ((nums s).take j).drop p = upto bs (nums s) j) (h : w.ownsRow B 5 1 v (X.length + (j - p)) (cells X ++ Lib.strCells (s.extract p j))) : w.ownsRow B 5 1 v (upto bs (nums s) j).length (cells (upto bs (nums s) j)) := by
  rw [strCells_eq, nums_extract, ← cells_append, hX, ← extract_size s p j hj hp, ← nums_len, nums_extract, ← List.length_append, hX] at h
  exact h
section
variable {P : Program} (w : World)
theorem step_append_own1 {ops : Array Oper} {o : Oper} {a : Act} {K : Act → World → Prop} {Q : Exit → Act → World → Prop} {E : Prop} (hgd : o.guard = none) (s x : Operand) (t : TypeId)
    (ho : o.op = .call { callee := .builtin .append, args := #[s, x], argTypes := #[t, t] })
    (base : Nat) (e : TypeId) (i : TypeInfo) (z : Value) (size bytes : Nat) (ht : P.underlying t = some (.slice e)) (hi : P.info? e = some i) (hz : i.zero = some z)
    (hsize : i.size = size) (hby : i.bytes = bytes) (hzs : z.cells.size = size) (hsz : 0 < size)
    (v : Value) (n : Nat) (xs : List Value) (hs : a.eval s = v) (hown : w.ownsRow base e size v n xs)
    (ad : Addr) (m c : Nat) (news : List Value) (hx : a.eval x = .slice (some ad) m c) (hl : news.length = m * size) (hnews : ∀ j u, news[j]? = some u → w.cell? (ad.add j) = some u) (h1 : ∀ u ∈ news, u.oneCell' = true)
    (h63 : n + m ≤ maxLen) (hbytes : (n + m) * bytes ≤ 140737488355328) (hbase : base ≤ w.heap.size)
    (h : ∀ v' w', w'.ownsRow base e size v' (n + m) (xs ++ news) → w.grownBy w' v.ownBlock → K (a.put o.dst v') w') :
    if Region.wanted o (yielded ops a.tmps) = true then Oper.wp P o a w K Q else E := by
  have hw : Region.wanted o (yielded ops a.tmps) = true := by simp [Region.wanted, hgd]
  rw [if_pos hw]
  obtain ⟨v', w', hr, h2, h3, h4⟩ := run_append_own (P := P) w base t o.type e i z size bytes ht hi hz hsize hby hzs hsz v n xs hown ad m c news hl hnews h1 h63 hbytes hbase
  unfold Oper.wp execOp
  simp only [ho, resolve, invoke, builtin, Sem.run_bind, Sem.run_pure, Result.andThen_ok, List.map_toArray, List.map_cons, List.map_nil, hs, hx, hr]
  exact h v' w' h2 h3
end

theorem and_fifteen (x : Int) (h0 : 0 ≤ x) (h1 : x < 32) : bits .and .u8 x 15 = x % 16 := by
  have h : ∀ n : Fin 32, bits .and .u8 (n.val : Int) 15 = (n.val : Int) % 16 := by decide
  have h2 := h ⟨x.toNat, by omega⟩
  have e : ((x.toNat : Nat) : Int) = x := by omega
  simp only [e] at h2
  exact h2
def hexs : ByteArray := ⟨#[48, 49, 50, 51, 52, 53, 54, 55, 56, 57, 97, 98, 99, 100, 101, 102]⟩
theorem hexs_at (q : Nat) (h : q < 16) : (((hexs[q]'h).toNat : Nat) : Int) = hexd (q : Int) := by
  have h1 : ∀ n : Fin 16, (((hexs[n.val]'n.isLt).toNat : Nat) : Int) = hexd (n.val : Int) := by decide
  exact h1 ⟨q, h⟩

set_option maxRecDepth 100000 in
set_option maxHeartbeats 1000000 in
theorem json_any (v : Value) (bs : List Int) (s : ByteArray) (w : World) (h : Full w v bs) (hl : bs.length + s.size ≤ 1048576) :
    Calls Try.prog 14 #[v, .string s] w fun e w' => ∃ v', e = .returned v' ∧ w'.ownsRow w.heap.size 5 1 v' (bs ++ 34 :: encs (nums s) ++ [34]).length (cells (bs ++ 34 :: encs (nums s) ++ [34])) ∧ Below w.heap.size w w' := by
  obtain ⟨i0, hi, hz0, hz1, hz2⟩ := info_parts info5
  obtain ⟨ao, cap, rfl, hn1, hn2, hn3⟩ : ∃ ao cap, v = .slice ao bs.length cap ∧ (ao = none → bs.length = 0 ∧ cap = 0) ∧ (∀ b, ao = some b → ∀ j u, (cells bs)[j]? = some u → w.cell? (b.add j) = some u) ∧ cap = bs.length := by
    rcases h with ⟨hm, ⟨rfl, h0⟩ | ⟨b, rfl, hb, hc⟩⟩
    · exact ⟨none, 0, by rw [h0], fun _ => ⟨h0, rfl⟩, (fun b hb => by cases hb), h0.symm⟩
    · refine ⟨_, bs.length, rfl, (fun h => by cases h), (fun b' hb' j u hu => ?_), rfl⟩
      obtain rfl := Option.some.inj hb'
      rw [Addr.add_lit, Nat.zero_add]
      have hj : j < bs.length := by
        have := (List.getElem?_eq_some_iff.1 hu).1
        rwa [cells_len] at this
      rw [hc j hj]
      simp only [cells, List.getElem?_map, List.getElem?_eq_getElem hj, Option.map_some, Option.some.injEq] at hu
      rw [List.getD_eq_getElem?_getD, List.getElem?_eq_getElem hj]
      simpa using hu
  clear h
  have hbl : bs.length ≤ 1048576 := by omega
  go_enter Try.func14, Try.ntmps14
  go_wp2_with (at_builtin; refine wpList_append_grows _ rfl _ _ 31 rfl 5 i0 (.int .u8 0) 1 1 Try.underlying31 hi hz0 hz1 hz2 rfl (by decide) ao bs.length cap (cells bs) rfl hn1 (by rw [cells_len, Nat.mul_one]) ?c1 ⟨w.heap.size, 0, none⟩ 1 1 [.int .u8 34] rfl rfl (cell_one_new _ _ _) (fun u hu => by simp at hu; subst hu; rfl) (by omega) (by unfold maxLen; omega) (by omega) ?_)
  case c1 =>
    intro b hb j u hu
    have h1 := hn2 b hb j u hu
    exact (((Below.refl w.heap.size w).alloc (Nat.le_refl _) _).cell (p := b.add j) (World.block_lt_of_cell? _ _ h1)).trans h1
  intro v1 w1 hown0 hg
  have hown : w1.ownsRow w.heap.size 5 1 v1 (upto bs (nums s) 0).length (cells (upto bs (nums s) 0)) := by
    rw [upto_zero, cells_append, List.length_append]
    exact hown0.mono (by simp)
  have hb1 : Below w.heap.size w w1 := ((Below.refl w.heap.size w).alloc (Nat.le_refl _) _).grown hg (by simp) (fun k hk => by cases hk)
  clear hown0 hg hn1 hn2 hn3
  have hS := nums_len s
  have hsz : s.size ≤ 1048576 := by omega
  go_wp2
  go_loopg [0, 5, 6] s.size (fun k d a i wx => ∃ (j p : Nat) (X : List Int), j ≤ s.size ∧ p ≤ j ∧ s.size - j ≤ k ∧ a = .int .i64 p ∧ i = .int .i64 j ∧ wx.ownsRow w.heap.size 5 1 d X.length (cells X) ∧ Hid (X ++ ((nums s).take j).drop p = upto bs (nums s) j) ∧ Below w.heap.size w wx)
  case atStart => exact ⟨0, 0, _, by omega, by omega, by omega, by go_num, by go_num, hown, by simp [Hid], hb1⟩
  case round =>
    obtain ⟨j, p, X, hj, hpj, hjk, rfl, rfl, own, HX, bx⟩ := hrel
    by_cases hlt : j < s.size
    · have hXl : X.length ≤ 8388608 := by have h1 := congrArg List.length HX.out; have := upto_len bs (nums s) j; rw [List.length_append] at h1; omega
      have hroom1 : ∀ n, n ≤ 8388608 → n + (s.extract p j).size ≤ maxLen ∧ n + (s.extract p j).size ≤ 140737488355328 := fun n hn => by
        have h1 := extract_size s p j hj hpj
        unfold maxLen
        omega
      obtain ⟨x, hx⟩ : ∃ x : Int, (s[j].toNat : Int) = x := ⟨_, rfl⟩
      have HXJ : Hid ((nums s).getD j 0 = x) := (nums_at s j hlt).trans hx
      have hx0 : 0 ≤ x := by omega
      have hx1 : x ≤ 255 := by have := s[j].toNat_lt; omega
      rcases (by omega : (32 ≤ x ∧ x ≠ 34 ∧ x ≠ 92) ∨ x = 34 ∨ x = 92 ∨ x = 10 ∨ x = 13 ∨ x = 9 ∨ (x < 32 ∧ x ≠ 10 ∧ x ≠ 13 ∧ x ≠ 9)) with hpl | rfl | rfl | rfl | rfl | rfl | hsm
      · have HE : Hid (enc x = [x]) := by show enc x = [x]; unfold enc; rw [if_pos hpl]
        obtain ⟨h1, h2, h3⟩ := hpl
        have d2 : (x != 34) = true := by simp; omega
        have d3 : (x != 92) = true := by simp; omega
        go_wp2
        go_roundg (s.size - (j + 1))
        case measure => omega
        case rel => exact ⟨j + 1, p, X, by omega, by omega, by omega, by go_num, by go_num, own, by show _ = _; rw [upto_succ _ _ _ (by omega), ← HX.out, HXJ.out, HE.out, seg_succ _ _ _ hpj (by omega), HXJ.out, List.append_assoc], bx⟩
      · have HE : Hid (enc 34 = [92, 34]) := by show enc 34 = [92, 34]; decide
        go_wp2_with (at_builtin; refine Lib.wpList_append_own_string _ rfl _ _ 31 9 rfl w.heap.size 5 i0 Try.underlying31 Try.underlying9 hi hz0 hz1 hz2 _ _ _ rfl own (s.extract p j) rfl (hroom1 _ hXl).1 (hroom1 _ hXl).2 bx.size ?_)
        intro v2 w2 own2 hg2 hnil2
        have ownY := own_seg hj hpj HX.out own2
        have b2 : Below w.heap.size w w2 := bx.grown hg2 bx.size (fun k hk => (own.lt k hk).1)
        have HYl : (upto bs (nums s) j).length ≤ 8388608 := by have := upto_len bs (nums s) j; omega
        obtain ⟨Y, hY⟩ : ∃ Y, upto bs (nums s) j = Y := ⟨_, rfl⟩
        rw [hY] at ownY HYl
        have HY : Hid (Y = upto bs (nums s) j) := hY.symm
        clear hY HX own bx own2 hg2 hnil2 hXl hroom1
        go_wp2_with (at_builtin; refine wpList_append_own _ rfl _ _ 31 rfl w.heap.size 5 i0 (.int .u8 0) 1 1 Try.underlying31 hi hz0 hz1 hz2 rfl (by decide) _ _ _ rfl (ownY.alloc _) ⟨w2.heap.size, 0, none⟩ 2 2 [.int .u8 92, .int .u8 34] rfl rfl (cells_new _ [.int .u8 92, .int .u8 34] _) (ints_oneCell .u8 [92, 34]) (by unfold maxLen; omega) (by omega) (by have := b2.size; simp; omega) ?_)
        intro v3 w3 own3 hg3 hnil3
        have own4 := own_next (by omega) HY.out HXJ.out [92, 34] HE.out rfl own3
        have b3 : Below w.heap.size w w3 := (b2.alloc b2.size _).grown hg3 (by have := b2.size; simp; omega) (fun k hk => (ownY.lt k hk).1)
        clear own3 hg3 hnil3 ownY b2
        go_wp2
        go_roundg (s.size - (j + 1))
        case measure => omega
        case rel => exact ⟨j + 1, j + 1, _, by omega, by omega, by omega, by go_num, by go_num, own4, by simp [Hid], b3⟩
      · have HE : Hid (enc 92 = [92, 92]) := by show enc 92 = [92, 92]; decide
        go_wp2_with (at_builtin; refine Lib.wpList_append_own_string _ rfl _ _ 31 9 rfl w.heap.size 5 i0 Try.underlying31 Try.underlying9 hi hz0 hz1 hz2 _ _ _ rfl own (s.extract p j) rfl (hroom1 _ hXl).1 (hroom1 _ hXl).2 bx.size ?_)
        intro v2 w2 own2 hg2 hnil2
        have ownY := own_seg hj hpj HX.out own2
        have b2 : Below w.heap.size w w2 := bx.grown hg2 bx.size (fun k hk => (own.lt k hk).1)
        have HYl : (upto bs (nums s) j).length ≤ 8388608 := by have := upto_len bs (nums s) j; omega
        obtain ⟨Y, hY⟩ : ∃ Y, upto bs (nums s) j = Y := ⟨_, rfl⟩
        rw [hY] at ownY HYl
        have HY : Hid (Y = upto bs (nums s) j) := hY.symm
        clear hY HX own bx own2 hg2 hnil2 hXl hroom1
        go_wp2_with (at_builtin; refine wpList_append_own _ rfl _ _ 31 rfl w.heap.size 5 i0 (.int .u8 0) 1 1 Try.underlying31 hi hz0 hz1 hz2 rfl (by decide) _ _ _ rfl (ownY.alloc _) ⟨w2.heap.size, 0, none⟩ 2 2 [.int .u8 92, .int .u8 92] rfl rfl (cells_new _ [.int .u8 92, .int .u8 92] _) (ints_oneCell .u8 [92, 92]) (by unfold maxLen; omega) (by omega) (by have := b2.size; simp; omega) ?_)
        intro v3 w3 own3 hg3 hnil3
        have own4 := own_next (by omega) HY.out HXJ.out [92, 92] HE.out rfl own3
        have b3 : Below w.heap.size w w3 := (b2.alloc b2.size _).grown hg3 (by have := b2.size; simp; omega) (fun k hk => (ownY.lt k hk).1)
        clear own3 hg3 hnil3 ownY b2
        go_wp2
        go_roundg (s.size - (j + 1))
        case measure => omega
        case rel => exact ⟨j + 1, j + 1, _, by omega, by omega, by omega, by go_num, by go_num, own4, by simp [Hid], b3⟩
      · have HE : Hid (enc 10 = [92, 110]) := by show enc 10 = [92, 110]; decide
        go_wp2_with (at_builtin; refine Lib.wpList_append_own_string _ rfl _ _ 31 9 rfl w.heap.size 5 i0 Try.underlying31 Try.underlying9 hi hz0 hz1 hz2 _ _ _ rfl own (s.extract p j) rfl (hroom1 _ hXl).1 (hroom1 _ hXl).2 bx.size ?_)
        intro v2 w2 own2 hg2 hnil2
        have ownY := own_seg hj hpj HX.out own2
        have b2 : Below w.heap.size w w2 := bx.grown hg2 bx.size (fun k hk => (own.lt k hk).1)
        have HYl : (upto bs (nums s) j).length ≤ 8388608 := by have := upto_len bs (nums s) j; omega
        obtain ⟨Y, hY⟩ : ∃ Y, upto bs (nums s) j = Y := ⟨_, rfl⟩
        rw [hY] at ownY HYl
        have HY : Hid (Y = upto bs (nums s) j) := hY.symm
        clear hY HX own bx own2 hg2 hnil2 hXl hroom1
        go_wp2_with (at_builtin; refine wpList_append_own _ rfl _ _ 31 rfl w.heap.size 5 i0 (.int .u8 0) 1 1 Try.underlying31 hi hz0 hz1 hz2 rfl (by decide) _ _ _ rfl (ownY.alloc _) ⟨w2.heap.size, 0, none⟩ 2 2 [.int .u8 92, .int .u8 110] rfl rfl (cells_new _ [.int .u8 92, .int .u8 110] _) (ints_oneCell .u8 [92, 110]) (by unfold maxLen; omega) (by omega) (by have := b2.size; simp; omega) ?_)
        intro v3 w3 own3 hg3 hnil3
        have own4 := own_next (by omega) HY.out HXJ.out [92, 110] HE.out rfl own3
        have b3 : Below w.heap.size w w3 := (b2.alloc b2.size _).grown hg3 (by have := b2.size; simp; omega) (fun k hk => (ownY.lt k hk).1)
        clear own3 hg3 hnil3 ownY b2
        go_wp2
        go_roundg (s.size - (j + 1))
        case measure => omega
        case rel => exact ⟨j + 1, j + 1, _, by omega, by omega, by omega, by go_num, by go_num, own4, by simp [Hid], b3⟩
      · have HE : Hid (enc 13 = [92, 114]) := by show enc 13 = [92, 114]; decide
        go_wp2_with (at_builtin; refine Lib.wpList_append_own_string _ rfl _ _ 31 9 rfl w.heap.size 5 i0 Try.underlying31 Try.underlying9 hi hz0 hz1 hz2 _ _ _ rfl own (s.extract p j) rfl (hroom1 _ hXl).1 (hroom1 _ hXl).2 bx.size ?_)
        intro v2 w2 own2 hg2 hnil2
        have ownY := own_seg hj hpj HX.out own2
        have b2 : Below w.heap.size w w2 := bx.grown hg2 bx.size (fun k hk => (own.lt k hk).1)
        have HYl : (upto bs (nums s) j).length ≤ 8388608 := by have := upto_len bs (nums s) j; omega
        obtain ⟨Y, hY⟩ : ∃ Y, upto bs (nums s) j = Y := ⟨_, rfl⟩
        rw [hY] at ownY HYl
        have HY : Hid (Y = upto bs (nums s) j) := hY.symm
        clear hY HX own bx own2 hg2 hnil2 hXl hroom1
        go_wp2_with (at_builtin; refine wpList_append_own _ rfl _ _ 31 rfl w.heap.size 5 i0 (.int .u8 0) 1 1 Try.underlying31 hi hz0 hz1 hz2 rfl (by decide) _ _ _ rfl (ownY.alloc _) ⟨w2.heap.size, 0, none⟩ 2 2 [.int .u8 92, .int .u8 114] rfl rfl (cells_new _ [.int .u8 92, .int .u8 114] _) (ints_oneCell .u8 [92, 114]) (by unfold maxLen; omega) (by omega) (by have := b2.size; simp; omega) ?_)
        intro v3 w3 own3 hg3 hnil3
        have own4 := own_next (by omega) HY.out HXJ.out [92, 114] HE.out rfl own3
        have b3 : Below w.heap.size w w3 := (b2.alloc b2.size _).grown hg3 (by have := b2.size; simp; omega) (fun k hk => (ownY.lt k hk).1)
        clear own3 hg3 hnil3 ownY b2
        go_wp2
        go_roundg (s.size - (j + 1))
        case measure => omega
        case rel => exact ⟨j + 1, j + 1, _, by omega, by omega, by omega, by go_num, by go_num, own4, by simp [Hid], b3⟩
      · have HE : Hid (enc 9 = [92, 116]) := by show enc 9 = [92, 116]; decide
        go_wp2_with (at_builtin; refine Lib.wpList_append_own_string _ rfl _ _ 31 9 rfl w.heap.size 5 i0 Try.underlying31 Try.underlying9 hi hz0 hz1 hz2 _ _ _ rfl own (s.extract p j) rfl (hroom1 _ hXl).1 (hroom1 _ hXl).2 bx.size ?_)
        intro v2 w2 own2 hg2 hnil2
        have ownY := own_seg hj hpj HX.out own2
        have b2 : Below w.heap.size w w2 := bx.grown hg2 bx.size (fun k hk => (own.lt k hk).1)
        have HYl : (upto bs (nums s) j).length ≤ 8388608 := by have := upto_len bs (nums s) j; omega
        obtain ⟨Y, hY⟩ : ∃ Y, upto bs (nums s) j = Y := ⟨_, rfl⟩
        rw [hY] at ownY HYl
        have HY : Hid (Y = upto bs (nums s) j) := hY.symm
        clear hY HX own bx own2 hg2 hnil2 hXl hroom1
        go_wp2_with (at_builtin; refine wpList_append_own _ rfl _ _ 31 rfl w.heap.size 5 i0 (.int .u8 0) 1 1 Try.underlying31 hi hz0 hz1 hz2 rfl (by decide) _ _ _ rfl (ownY.alloc _) ⟨w2.heap.size, 0, none⟩ 2 2 [.int .u8 92, .int .u8 116] rfl rfl (cells_new _ [.int .u8 92, .int .u8 116] _) (ints_oneCell .u8 [92, 116]) (by unfold maxLen; omega) (by omega) (by have := b2.size; simp; omega) ?_)
        intro v3 w3 own3 hg3 hnil3
        have own4 := own_next (by omega) HY.out HXJ.out [92, 116] HE.out rfl own3
        have b3 : Below w.heap.size w w3 := (b2.alloc b2.size _).grown hg3 (by have := b2.size; simp; omega) (fun k hk => (ownY.lt k hk).1)
        clear own3 hg3 hnil3 ownY b2
        go_wp2
        go_roundg (s.size - (j + 1))
        case measure => omega
        case rel => exact ⟨j + 1, j + 1, _, by omega, by omega, by omega, by go_num, by go_num, own4, by simp [Hid], b3⟩
      · obtain ⟨h1, h2, h3, h4⟩ := hsm
        have HE : Hid (enc x = [92, 117, 48, 48, hexd (x / 16), hexd (x % 16)]) := by show enc x = _; unfold enc; rw [if_neg (by omega), if_neg (by omega), if_neg (by omega), if_neg (by omega), if_neg (by omega)]
        have d1 : decide (32 ≤ x) = false := by simp; omega
        have e1 : (x == 34) = false := by simp; omega
        have e2 : (x == 92) = false := by simp; omega
        have e3 : (x == 10) = false := by simp; omega
        have e4 : (x == 13) = false := by simp; omega
        have e5 : (x == 9) = false := by simp; omega
        go_wp2_with (at_builtin; refine Lib.wpList_append_own_string _ rfl _ _ 31 9 rfl w.heap.size 5 i0 Try.underlying31 Try.underlying9 hi hz0 hz1 hz2 _ _ _ rfl own (s.extract p j) rfl (hroom1 _ hXl).1 (hroom1 _ hXl).2 bx.size ?_)
        intro v2 w2 own2 hg2 hnil2
        have ownY := own_seg hj hpj HX.out own2
        have b2 : Below w.heap.size w w2 := bx.grown hg2 bx.size (fun k hk => (own.lt k hk).1)
        have HYl : (upto bs (nums s) j).length ≤ 8388608 := by have := upto_len bs (nums s) j; omega
        obtain ⟨Y, hY⟩ : ∃ Y, upto bs (nums s) j = Y := ⟨_, rfl⟩
        rw [hY] at ownY HYl
        have HY : Hid (Y = upto bs (nums s) j) := hY.symm
        clear hY HX own bx own2 hg2 hnil2 hXl hroom1
        obtain ⟨q, hq⟩ : ∃ q : Nat, x / 16 = (q : Int) := ⟨(x / 16).toNat, by omega⟩
        obtain ⟨r, hr⟩ : ∃ r : Nat, x % 16 = (r : Int) := ⟨(x % 16).toNat, by omega⟩
        have hb := and_fifteen x hx0 h1
        rw [hr] at hb
        rw [hq, hr] at HE
        have hq16 : q < 16 := by omega
        have hr16 : r < 16 := by omega
        obtain ⟨a, ha⟩ : ∃ a : Nat, (hexs[q]'hq16).toNat = a := ⟨_, rfl⟩
        obtain ⟨b, hb'⟩ : ∃ b : Nat, (hexs[r]'hr16).toNat = b := ⟨_, rfl⟩
        have hqi : (q : Int) < 16 := by omega
        have hri : (r : Int) < 16 := by omega
        have hA : (a : Int) = hexd (q : Int) := by rw [← ha]; exact hexs_at q hq16
        have hB : (b : Int) = hexd (r : Int) := by rw [← hb']; exact hexs_at r hr16
        rw [← hA, ← hB] at HE
        unfold hexs at ha hb'
        clear hA hB hr
        go_wp2
        go_region_law (first
          | (refine step_append_own1 _ rfl (.tmp 37) (.tmp 44) 31 rfl w.heap.size 5 i0 (.int .u8 0) 1 1 Try.underlying31 hi hz0 hz1 hz2 rfl (by decide) v2 Y.length (cells Y) rfl (ownY.drew.alloc _) ⟨w2.heap.size, 0, none⟩ 6 6 [.int .u8 92, .int .u8 117, .int .u8 48, .int .u8 48, .int .u8 (a : Int), .int .u8 (b : Int)] rfl rfl (cells_new w2.drew [.int .u8 92, .int .u8 117, .int .u8 48, .int .u8 48, .int .u8 (a : Int), .int .u8 (b : Int)] 5) (ints_oneCell .u8 [92, 117, 48, 48, (a : Int), (b : Int)]) ?_ ?_ ?_ ?_
             · unfold maxLen; omega
             · omega
             · have := b2.size; simp; omega
             intro v3 w3 own3 hg3))
        all_goals
          have own4 := own_next (by omega) HY.out HXJ.out [92, 117, 48, 48, (a : Int), (b : Int)] HE.out rfl own3
          have b3 : Below w.heap.size w w3 := (b2.drew.alloc b2.size _).grown hg3 (by have := b2.size; simp; omega) (fun k hk => (ownY.lt k hk).1)
          clear own3 hg3 ownY b2
          go_wp2
          go_roundg (s.size - (j + 1))
          case measure => omega
          case rel => exact ⟨j + 1, j + 1, _, by omega, by omega, by omega, by go_num, by go_num, own4, by simp [Hid], b3⟩
    · have hjs : j = s.size := by omega
      subst hjs
      have hXl : X.length ≤ 8388608 := by have h1 := congrArg List.length HX.out; have := upto_len bs (nums s) s.size; rw [List.length_append] at h1; omega
      have hex := extract_size s p s.size (Nat.le_refl _) hpj
      have hex1 : X.length + (s.extract p s.size).size ≤ maxLen := by unfold maxLen; omega
      have hex2 : X.length + (s.extract p s.size).size ≤ 140737488355328 := by omega
      clear hlt hex
      go_wp2_with (at_builtin; refine Lib.wpList_append_own_string _ rfl _ _ 31 9 rfl w.heap.size 5 i0 Try.underlying31 Try.underlying9 hi hz0 hz1 hz2 _ _ _ rfl own (s.extract p s.size) rfl hex1 hex2 bx.size ?_)
      intro v2 w2 own2 hg2 hnil2
      have ownY := own_seg (Nat.le_refl _) hpj HX.out own2
      have b2 : Below w.heap.size w w2 := bx.grown hg2 bx.size (fun k hk => (own.lt k hk).1)
      have HYl : (upto bs (nums s) s.size).length ≤ 8388608 := by have := upto_len bs (nums s) s.size; omega
      rw [← nums_len, upto_all] at ownY HYl
      obtain ⟨Y, hY⟩ : ∃ Y, bs ++ 34 :: encs (nums s) = Y := ⟨_, rfl⟩
      rw [hY] at ownY HYl
      have HY : Hid (bs ++ 34 :: encs (nums s) = Y) := hY
      clear hY HX own bx own2 hg2 hnil2 hXl
      go_wp2_with (at_builtin; refine wpList_append_own _ rfl _ _ 31 rfl w.heap.size 5 i0 (.int .u8 0) 1 1 Try.underlying31 hi hz0 hz1 hz2 rfl (by decide) _ _ _ rfl (ownY.alloc _) ⟨w2.heap.size, 0, none⟩ 1 1 [.int .u8 34] rfl rfl (cell_one_new _ _ _) (ints_oneCell .u8 [34]) (by unfold maxLen; omega) (by omega) (by have := b2.size; simp; omega) ?_)
      intro v3 w3 own3 hg3 hnil3
      have b3 : Below w.heap.size w w3 := (b2.alloc b2.size _).grown hg3 (by have := b2.size; simp; omega) (fun k hk => (ownY.lt k hk).1)
      go_wp2
      go_ret
      refine ⟨v3, rfl, ?_, b3⟩
      rw [HY.out, cells_append, List.length_append]
      exact own3
end Go.Proofs.Qxb6606008a
