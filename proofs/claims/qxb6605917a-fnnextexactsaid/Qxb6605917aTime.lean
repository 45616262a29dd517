import Derived.Test.Qxb6605917aProg
import Derived.WalkKit
import Derived.WalkSpells
import Derived.WalkLawsBesides
import Derived.Deep.RegionWith
import Derived.BigQuiet
namespace Go.Proofs.Qxb6605917a
open Go.RowKit
set_option linter.unusedVariables false
set_option linter.unusedSimpArgs false

theorem and_mask (x : Int) (h0 : 0 ≤ x) (h1 : x < 1000000000) : bits .and .u64 x 1073741823 = x := by
  rw [u64_and x 1073741823 h0 (by omega) (by omega) (by omega)]
  have : (1073741823 : Int).toNat = 2 ^ 30 - 1 := by decide
  rw [this, Nat.and_two_pow_sub_one_eq_mod, Nat.mod_eq_of_lt (by omega)]
  omega
theorem and_top (x : Int) (h0 : 0 ≤ x) (h1 : x < 1000000000) : bits .and .u64 x 9223372036854775808 = 0 := by
  rw [u64_and x 9223372036854775808 h0 (by omega) (by omega) (by omega)]
  have : (9223372036854775808 : Int).toNat = 2 ^ 63 := by decide
  rw [this, nat_bit, Nat.div_eq_of_lt (by omega)]
  rfl
theorem and_le (x y : Int) (h0 : 0 ≤ x) (h1 : x < 1000000000) (g0 : 0 ≤ y) (g1 : y < 1000000000) : 0 ≤ bits .and .u64 x y ∧ bits .and .u64 x y < 1000000000 := by
  rw [u64_and x y h0 (by omega) g0 (by omega)]
  have := Nat.and_le_left (n := x.toNat) (m := y.toNat)
  omega
theorem andNot_zero : bits .andNot .u64 0 1073741823 = 0 := by decide +kernel
theorem or_zero (x : Int) (h0 : 0 ≤ x) (h1 : x < 1000000000) : bits .or .u64 0 x = x := by
  rw [u64_or 0 x (by omega) (by omega) h0 (by omega)]
  simp; omega
theorem wrap32_id (x : Int) (h0 : -1000000000 ≤ x) (h1 : x < 1000000000) : wrap32 x = x := by unfold wrap32; omega

set_option maxHeartbeats 400000 in
theorem nsec_any (b o : Nat) (x : Int) (w : World) (h0 : 0 ≤ x) (h1 : x < 1000000000)
    (hc : w.cell? ⟨b, o, none⟩ = some (.int .u64 x)) :
    Calls Try.prog 31 #[.pointer (some ⟨b, o, none⟩)] w fun e w' => e = .returned (.int .i32 x) ∧ w' = w := by
  have e1 := and_mask x h0 h1
  have e2 := wrap32_id x (by omega) h1
  go_enter Try.func31, Try.ntmps31
  go_wp2
  go_ret
  exact ⟨rfl, rfl⟩

set_option maxHeartbeats 400000 in
theorem sec_any (b o : Nat) (x s : Int) (w : World) (h0 : 0 ≤ x) (h1 : x < 1000000000)
    (hc : w.cell? ⟨b, o, none⟩ = some (.int .u64 x)) (hd : w.cell? ⟨b, o + 1, none⟩ = some (.int .i64 s)) :
    Calls Try.prog 38 #[.pointer (some ⟨b, o, none⟩)] w fun e w' => e = .returned (.int .i64 s) ∧ w' = w := by
  have e1 := and_top x h0 h1
  go_enter Try.func38, Try.ntmps38
  go_wp2
  go_ret
  exact ⟨rfl, rfl⟩

set_option maxHeartbeats 400000 in
theorem addSec_any (b o : Nat) (x d : Int) (w : World) (h0 : 0 ≤ x) (h1 : x < 1000000000) (d0 : -9223372036854775808 ≤ d) (d1 : d ≤ 9223372036854775807)
    (hc : w.cell? ⟨b, o, none⟩ = some (.int .u64 x)) (hd : w.cell? ⟨b, o + 1, none⟩ = some (.int .i64 0)) (hf : w.frozen? ⟨b, o + 1, none⟩ = false) :
    Calls Try.prog 32 #[.pointer (some ⟨b, o, none⟩), .int .i64 d] w fun e w' => e = .returned (.tuple #[]) ∧ w' = w.setCell ⟨b, o + 1, none⟩ (.int .i64 d) := by
  have e1 := and_top x h0 h1
  go_enter Try.func32, Try.ntmps32
  go_wp2
  go_end0
  exact ⟨rfl, rfl⟩

theorem agg_eq {a a' s s' : Int} (h1 : a = a') (h2 : s = s') : Value.agg #[.int .u64 a, .int .i64 s, .pointer none] = .agg #[.int .u64 a', .int .i64 s', .pointer none] := by rw [h1, h2]

set_option maxHeartbeats 800000 in
theorem add_pos (n q r : Int) (w : World) (hq : n.tdiv 1000000000 = q) (hr : n.tmod 1000000000 = r) (q0 : -9223372037 ≤ q) (q1 : q ≤ 9223372037) (r0 : 0 ≤ r) (r1 : r < 1000000000) :
    Calls Try.prog 25 #[.agg #[.int .u64 0, .int .i64 0, .pointer none], .int .i64 n] w fun e w' => e = .returned (.agg #[.int .u64 r, .int .i64 q, .pointer none]) ∧ Below w.heap.size w w' := by
  have e1 := andNot_zero
  have e2 := wrap32_id r (by omega) r1
  have e3 := or_zero r r0 r1
  have e4 := and_top r r0 r1
  go_enter Try.func25, Try.ntmps25
  go_wp2_with (first | (go_at_call 31; refine (nsec_any _ _ 0 _ (by omega) (by omega) (by simp)).mono ?_; rintro e w' ⟨rfl, rfl⟩) | (go_at_call 32; refine (addSec_any _ _ r _ _ r0 r1 (by omega) (by omega) (by simp) (by simp) (by simp)).mono ?_; rintro e w' ⟨rfl, rfl⟩))
  refine bodyPost_ret (v := .agg #[.int .u64 r, .int .i64 q, .pointer none]) (by simp [results, Try.results25, go_sem]) rfl ⟨rfl, ?_⟩
  exact ((Below.refl _ _).alloc (Nat.le_refl _) _).alloc (by simp) _

set_option maxHeartbeats 800000 in
theorem add_neg (n q r : Int) (w : World) (hq : n.tdiv 1000000000 = q) (hr : n.tmod 1000000000 = r) (q0 : -9223372037 ≤ q) (q1 : q ≤ 9223372037) (r0 : r < 0) (r1 : -1000000000 < r) :
    Calls Try.prog 25 #[.agg #[.int .u64 0, .int .i64 0, .pointer none], .int .i64 n] w fun e w' => e = .returned (.agg #[.int .u64 (r + 1000000000), .int .i64 (q - 1), .pointer none]) ∧ Below w.heap.size w w' := by
  have e1 := andNot_zero
  have e2 := wrap32_id r (by omega) (by omega)
  have e5 := wrap32_id (r + 1000000000) (by omega) (by omega)
  have e3 := or_zero (r + 1000000000) (by omega) (by omega)
  have e4 := and_top (r + 1000000000) (by omega) (by omega)
  go_enter Try.func25, Try.ntmps25
  go_wp2_with (first | (go_at_call 31; refine (nsec_any _ _ 0 _ (by omega) (by omega) (by simp)).mono ?_; rintro e w' ⟨rfl, rfl⟩) | (go_at_call 32; refine (addSec_any _ _ (r + 1000000000) _ _ (by omega) (by omega) (by omega) (by omega) (by simp) (by simp) (by simp)).mono ?_; rintro e w' ⟨rfl, rfl⟩))
  refine bodyPost_ret (v := .agg #[.int .u64 (r + 1000000000), .int .i64 (q - 1), .pointer none]) (by simp [results, Try.results25, go_sem]) rfl ⟨rfl, ?_⟩
  exact ((Below.refl _ _).alloc (Nat.le_refl _) _).alloc (by simp) _

theorem add_any (n : Int) (w : World) (d0 : -9223372036854775808 ≤ n) (d1 : n ≤ 9223372036854775807) :
    Calls Try.prog 25 #[.agg #[.int .u64 0, .int .i64 0, .pointer none], .int .i64 n] w fun e w' => e = .returned (.agg #[.int .u64 (n % 1000000000), .int .i64 (n / 1000000000), .pointer none]) ∧ Below w.heap.size w w' := by
  have h1 := Int.mul_tdiv_add_tmod n 1000000000
  have h2 : -1000000000 < n.tmod 1000000000 ∧ n.tmod 1000000000 < 1000000000 := ⟨Int.lt_tmod_of_pos n (by omega), Int.tmod_lt_of_pos n (by omega)⟩
  by_cases h : 0 ≤ n.tmod 1000000000
  · refine (add_pos n _ _ w rfl rfl (by omega) (by omega) h h2.2).mono ?_
    rintro e w' ⟨rfl, hb⟩
    exact ⟨by rw [agg_eq (a' := n % 1000000000) (s' := n / 1000000000) (by omega) (by omega)], hb⟩
  · refine (add_neg n _ _ w rfl rfl (by omega) (by omega) (by omega) h2.1).mono ?_
    rintro e w' ⟨rfl, hb⟩
    exact ⟨by rw [agg_eq (a' := n % 1000000000) (s' := n / 1000000000) (by omega) (by omega)], hb⟩

theorem ret_bool {a b : Bool} (h : a = b) : Ending.returned (.bool a) = .returned (.bool b) := by rw [h]
theorem ret_int {k : IntKind} {a b : Int} (h : a = b) : Ending.returned (.int k a) = .returned (.int k b) := by rw [h]

def afterB (x s x' s' : Int) : Bool := decide (s' < s ∨ s = s' ∧ x' < x)
set_option maxHeartbeats 800000 in
theorem after_any (x s x' s' : Int) (w : World) (h0 : 0 ≤ x) (h1 : x < 1000000000) (g0 : 0 ≤ x') (g1 : x' < 1000000000) :
    Calls Try.prog 36 #[.agg #[.int .u64 x, .int .i64 s, .pointer none], .agg #[.int .u64 x', .int .i64 s', .pointer none]] w fun e w' => e = .returned (.bool (afterB x s x' s')) ∧ Below w.heap.size w w' := by
  have k := and_le x x' h0 h1 g0 g1
  have e1 := and_top _ k.1 k.2
  go_enter Try.func36, Try.ntmps36
  go_wp2_with (first | (go_at_call_of 38 (some (Addr.mk w.heap.size 0 none)); refine (sec_any _ _ x s _ h0 h1 (by simp) (by simp)).mono ?_; rintro e w' ⟨rfl, rfl⟩) | (go_at_call 38; refine (sec_any _ _ x' s' _ g0 g1 (by simp) (by simp)).mono ?_; rintro e w' ⟨rfl, rfl⟩) | (go_at_call_of 31 (some (Addr.mk w.heap.size 0 none)); refine (nsec_any _ _ x _ h0 h1 (by simp)).mono ?_; rintro e w' ⟨rfl, rfl⟩) | (go_at_call 31; refine (nsec_any _ _ x' _ g0 g1 (by simp)).mono ?_; rintro e w' ⟨rfl, rfl⟩))
  all_goals
    go_ret
    exact ⟨ret_bool (by unfold afterB; first | (rw [decide_eq_decide]; omega) | (symm; rw [decide_eq_true_iff]; omega)), ((Below.refl _ _).alloc (Nat.le_refl _) _).alloc (by simp) _⟩

theorem afterB_eq (a b : Int) : afterB (a % 1000000000) (a / 1000000000) (b % 1000000000) (b / 1000000000) = decide (b < a) := by
  unfold afterB
  rw [decide_eq_decide]
  omega

set_option maxHeartbeats 800000 in
theorem equal_same (x s : Int) (w : World) (h0 : 0 ≤ x) (h1 : x < 1000000000) :
    Calls Try.prog 39 #[.agg #[.int .u64 x, .int .i64 s, .pointer none], .agg #[.int .u64 x, .int .i64 s, .pointer none]] w fun e w' => e = .returned (.bool true) ∧ Below w.heap.size w w' := by
  have k := and_le x x h0 h1 h0 h1
  have e1 := and_top _ k.1 k.2
  go_enter Try.func39, Try.ntmps39
  go_wp2_with (first | (go_at_call 38; refine (sec_any _ _ x s _ h0 h1 (by simp) (by simp)).mono ?_; rintro e w' ⟨rfl, rfl⟩) | (go_at_call 31; refine (nsec_any _ _ x _ h0 h1 (by simp)).mono ?_; rintro e w' ⟨rfl, rfl⟩))
  go_ret
  exact ⟨rfl, ((Below.refl _ _).alloc (Nat.le_refl _) _).alloc (by simp) _⟩

theorem bcell {W w1 : World} (hb : Below W.heap.size W w1) : (∀ b o, b < W.heap.size → w1.cell? ⟨b, o, none⟩ = W.cell? ⟨b, o, none⟩) ∧ (∀ b o, b < W.heap.size → w1.frozen? ⟨b, o, none⟩ = W.frozen? ⟨b, o, none⟩) :=
  ⟨fun b o h => hb.cell (p := ⟨b, o, none⟩) h, fun b o h => hb.frozen (p := ⟨b, o, none⟩) h⟩

theorem since_num (n : Int) (d0 : -9223372036854775808 ≤ n) (d1 : n ≤ 9223372036854775807) : wrap64 (wrap64 (n / 1000000000 * 1000000000) + n % 1000000000) = n := by
  unfold wrap64; omega

/-- A region that draws its order, whose own operations only read and whose callees leave a world of one sort: that sort told as a family of worlds. -/
theorem wp_region_family {P : Program} {ι : Type} (F : ι → World) {id : Nat} {Q : Exit → Act → World → Prop} {a : Act} {w : World} {l : List Oper} (hm : P.follows .mixedOrders = true) (hB : Region.lexB .any l.toArray = true)
    (h0 : ∃ x, w.drew = F x)
    (h : wpQuiet P l.toArray (fun w' => ∃ x, w' = F x) (fun a' => ∀ w', (∃ x, w' = F x) → Q .normal a' w') l a) : (Code.region id l.toArray true).wp P Q a w :=
  wp_region_quiet (C := fun w' => ∃ x, w' = F x) hm hB h0 (by simpa using h)

theorem fam (B : Nat) (W : World) : ∃ (ι : Type) (_ : Nonempty ι) (F : ι → World), (∀ x, Below B W (F x)) ∧ Hid (∀ w', Below B W w' → ∃ x, w' = F x) :=
  ⟨{w' // Below B W w'}, ⟨⟨W, Below.refl _ _⟩⟩, Subtype.val, fun x => x.2, fun w' h => ⟨⟨w', h⟩, rfl⟩⟩

theorem Calls.family {P : Program} {ι : Type} {F : ι → World} {B : Nat} {W : World} {f : FuncId} {args : Array Value} {x : ι} {v : Value} (hF : ∀ x, Below B W (F x)) (hF' : Hid (∀ w', Below B W w' → ∃ x, w' = F x)) (hB : B ≤ W.heap.size)
    (h : Calls P f args (F x) fun e w' => e = .returned v ∧ Below (F x).heap.size (F x) w') : Calls P f args (F x) fun e w'' => e = .returned v ∧ ∃ y, w'' = F y :=
  h.mono fun _ w' ⟨he, hb⟩ => ⟨he, hF'.out w' ((hF x).trans (hb.mono (Nat.le_trans hB (hF x).size)))⟩

set_option maxHeartbeats 800000 in
theorem sub_core (x s n : Int) (w : World) (h0 : 0 ≤ x) (h1 : x < 1000000000) (s0 : -9223372037 ≤ s) (s1 : s ≤ 9223372037) (hn : wrap64 (wrap64 (s * 1000000000) + x) = n) (d0 : -9223372036854775808 ≤ n) (d1 : n ≤ 9223372036854775807) (hx : Hid (n % 1000000000 = x)) (hs : Hid (n / 1000000000 = s)) :
    Calls Try.prog 29 #[.agg #[.int .u64 x, .int .i64 s, .pointer none], .agg #[.int .u64 0, .int .i64 0, .pointer none]] w fun e w' => e = .returned (.int .i64 n) ∧ Below w.heap.size w w' := by
  have k := and_le x 0 h0 h1 (by omega) (by omega)
  have e1 := and_top _ k.1 k.2
  have e2 := wrap32_id x (by omega) h1
  go_enter Try.func29, Try.ntmps29
  go_wp2_with (first | (go_at_call_of 38 (some (Addr.mk w.heap.size 0 none)); refine (sec_any _ _ x s _ h0 h1 (by simp) (by simp)).mono ?_; rintro e w' ⟨rfl, rfl⟩) | (go_at_call 38; refine (sec_any _ _ 0 0 _ (by omega) (by omega) (by simp) (by simp)).mono ?_; rintro e w' ⟨rfl, rfl⟩) | (go_at_call_of 31 (some (Addr.mk w.heap.size 0 none)); refine (nsec_any _ _ x _ h0 h1 (by simp)).mono ?_; rintro e w' ⟨rfl, rfl⟩) | (go_at_call 31; refine (nsec_any _ _ 0 _ (by omega) (by omega) (by simp)).mono ?_; rintro e w' ⟨rfl, rfl⟩))
  rw [hn]
  generalize hW : ((w.alloc (Obj.cells #[Value.int IntKind.u64 x, Value.int IntKind.i64 s, Value.pointer none] 60)).alloc (Obj.cells #[Value.int IntKind.u64 0, Value.int IntKind.i64 0, Value.pointer none] 60)) = W
  have hWs : W.heap.size = w.heap.size + 2 := by rw [← hW]; simp
  have c0 : W.cell? ⟨w.heap.size, 0, none⟩ = some (.int .u64 x) := by rw [← hW]; simp
  have c1 : W.cell? ⟨w.heap.size, 1, none⟩ = some (.int .i64 s) := by rw [← hW]; simp
  have c2 : W.cell? ⟨w.heap.size, 2, none⟩ = some (.pointer none) := by rw [← hW]; simp
  have c3 : W.cell? ⟨w.heap.size + 1, 0, none⟩ = some (.int .u64 0) := by rw [← hW]; simp
  have c4 : W.cell? ⟨w.heap.size + 1, 1, none⟩ = some (.int .i64 0) := by rw [← hW]; simp
  have c5 : W.cell? ⟨w.heap.size + 1, 2, none⟩ = some (.pointer none) := by rw [← hW]; simp
  have hWb : Below w.heap.size w W := by rw [← hW]; exact ((Below.refl _ _).alloc (Nat.le_refl _) _).alloc (by simp) _
  clear hW
  obtain ⟨ι, hι, F, hF, hF'⟩ := fam W.heap.size W
  have g0 : ∀ x, (F x).cell? ⟨w.heap.size, 0, none⟩ = _ := fun x => ((hF x).cell (p := ⟨w.heap.size, 0, none⟩) (by show w.heap.size < _; omega)).trans c0
  have g1 : ∀ x, (F x).cell? ⟨w.heap.size, 1, none⟩ = _ := fun x => ((hF x).cell (p := ⟨w.heap.size, 1, none⟩) (by show w.heap.size < _; omega)).trans c1
  have g2 : ∀ x, (F x).cell? ⟨w.heap.size, 2, none⟩ = _ := fun x => ((hF x).cell (p := ⟨w.heap.size, 2, none⟩) (by show w.heap.size < _; omega)).trans c2
  have g3 : ∀ x, (F x).cell? ⟨w.heap.size + 1, 0, none⟩ = _ := fun x => ((hF x).cell (p := ⟨w.heap.size + 1, 0, none⟩) (by show w.heap.size + 1 < _; omega)).trans c3
  have g4 : ∀ x, (F x).cell? ⟨w.heap.size + 1, 1, none⟩ = _ := fun x => ((hF x).cell (p := ⟨w.heap.size + 1, 1, none⟩) (by show w.heap.size + 1 < _; omega)).trans c4
  have g5 : ∀ x, (F x).cell? ⟨w.heap.size + 1, 2, none⟩ = _ := fun x => ((hF x).cell (p := ⟨w.heap.size + 1, 2, none⟩) (by show w.heap.size + 1 < _; omega)).trans c5
  refine wp_region_family F (by kernel_rfl) (by kernel_rfl) (hF'.out _ (Below.refl _ _).drew) ?_
  repeat (go_big_quiet_step ((first | (go_at_call 25; exact Calls.family hF hF' (Nat.le_refl _) (add_any n _ d0 d1)) | (go_at_call 39; rw [hx.out, hs.out]; exact Calls.family hF hF' (Nat.le_refl _) (equal_same x s _ h0 h1)))))
  refine wpQuiet_nil ?_
  rintro _ ⟨y, rfl⟩
  have hy := hF y
  clear g0 g1 g2 g3 g4 g5 hF hF'
  go_wp2
  go_ret
  exact ⟨rfl, hWb.trans (hy.mono (by omega))⟩

theorem sub_any (n : Int) (w : World) (d0 : -9223372036854775808 ≤ n) (d1 : n ≤ 9223372036854775807) :
    Calls Try.prog 29 #[.agg #[.int .u64 (n % 1000000000), .int .i64 (n / 1000000000), .pointer none], .agg #[.int .u64 0, .int .i64 0, .pointer none]] w fun e w' => e = .returned (.int .i64 n) ∧ Below w.heap.size w w' :=
  sub_core _ _ n w (by omega) (by omega) (by omega) (by omega) (since_num n d0 d1) d0 d1 rfl rfl

set_option maxHeartbeats 400000 in
theorem at_any (n : Int) (w : World) (d0 : -9223372036854775808 ≤ n) (d1 : n ≤ 9223372036854775807) :
    Calls Try.prog 22 #[.int .i64 n] w fun e w' => e = .returned (.agg #[.int .u64 (n % 1000000000), .int .i64 (n / 1000000000), .pointer none]) ∧ Below w.heap.size w w' := by
  have hx : ∃ x, n % 1000000000 = x := ⟨_, rfl⟩
  have hs : ∃ s, n / 1000000000 = s := ⟨_, rfl⟩
  obtain ⟨x, hx⟩ := hx
  obtain ⟨s, hs⟩ := hs
  go_enter Try.func22, Try.ntmps22
  go_wp2_with fail
  refine (add_any n _ d0 d1).mono ?_
  rintro e w1 ⟨rfl, hb⟩
  obtain ⟨hc, hf⟩ := bcell hb
  have hz : w.heap.size < w1.heap.size := by have := hb.size; simp at this; omega
  go_wp2
  refine bodyPost_ret (v := .agg #[.int .u64 x, .int .i64 s, .pointer none]) (by simp [results, Try.results22, go_sem, hc]) rfl ⟨by rw [hx, hs], ?_⟩
  exact (((((Below.refl _ _).alloc (Nat.le_refl _) _).trans (hb.mono (by simp))).setCell (Nat.le_refl _) _).setCell (Nat.le_refl _) _).setCell (Nat.le_refl _) _

set_option maxHeartbeats 400000 in
theorem since_any (n : Int) (w : World) (d0 : -9223372036854775808 ≤ n) (d1 : n ≤ 9223372036854775807) :
    Calls Try.prog 24 #[.agg #[.int .u64 (n % 1000000000), .int .i64 (n / 1000000000), .pointer none]] w fun e w' => e = .returned (.int .i64 n) ∧ Below w.heap.size w w' := by
  go_enter Try.func24, Try.ntmps24
  go_wp2_with fail
  refine (sub_any n _ d0 d1).mono ?_
  rintro e w1 ⟨rfl, hb⟩
  go_wp2
  go_ret
  exact ⟨rfl, ((Below.refl _ _).alloc (Nat.le_refl _) _).trans (hb.mono (by simp))⟩
end Go.Proofs.Qxb6605917a
