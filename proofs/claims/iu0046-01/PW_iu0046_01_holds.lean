import PyProof.Rows.All
import Wide.All
import OpenK.AllK
import Wide.FinOn
import Lean
import PySem.Challenge.RW_iu0046_01
open PySem PySem.W PyProof.Rows PySem.Spec PySem.Calls
set_option Elab.async false
namespace Mine
set_option maxRecDepth 100000 in
set_option maxHeartbeats 8000000 in
open_top hd for PySem.Challenge.rw_iu0046_01
set_option genInjectivity false
set_option genSizeOf false
section
noncomputable def tbl : List Int := (List.range 256).map fun k => (54 * ((1033 : Int) ^ k - 1000 ^ k) + 1000 ^ k).fdiv (2 * 1000 ^ k)
theorem tbl_len : tbl.length = 256 := List.length_map _ |>.trans List.length_range
theorem tbl_eq {k : Nat} (h : k < 256) : tbl.getD k 0 = (54 * ((1033 : Int) ^ k - 1000 ^ k) + 1000 ^ k).fdiv (2 * 1000 ^ k) := by
  unfold tbl
  rw [List.getD_eq_getElem?_getD, List.getElem?_map, List.getElem?_range h]
  rfl
theorem tbl_step : ∀ i, i < 255 → tbl.getD i 0 ≤ tbl.getD (i + 1) 0 := by decide +kernel
theorem tbl_mono {j : Nat} : ∀ i, i ≤ j → j < 256 → tbl.getD i 0 ≤ tbl.getD j 0 := by
  induction j with
  | zero => intro i h _; rw [Nat.le_zero.mp h]; exact Int.le_refl _
  | succ j ih =>
    intro i h hj
    rcases Nat.lt_or_eq_of_le h with h | h
    · exact Int.le_trans (ih i (Nat.le_of_lt_succ h) (Nat.lt_of_succ_lt hj)) (tbl_step j (Nat.lt_of_succ_lt_succ hj))
    · rw [h]; exact Int.le_refl _
theorem toNat_lt {a b : Int} (h : a < b) (h0 : 0 < b) : a.toNat < b.toNat := (Int.toNat_lt_toNat h0).mpr h
noncomputable def DInv (x d : Int) : Prop := 0 ≤ d ∧ d ≤ 255 ∧ (d < 255 → x ≤ tbl.getD d.toNat 0)
noncomputable def IsByte (x d : Int) : Prop := DInv x d ∧ (0 < d → tbl.getD (d - 1).toNat 0 < x)
theorem byte_one {x r q : Int} (h : IsByte x r) (k : IsByte x q) (lt : r < q) : False := by
  obtain ⟨⟨r0, _, r1⟩, _⟩ := h
  obtain ⟨⟨_, q1, _⟩, q2⟩ := k
  refine absurd (q2 (Int.lt_of_le_of_lt r0 lt)) (Int.not_lt.mpr (Int.le_trans (r1 (Int.lt_of_lt_of_le lt q1)) (tbl_mono _ (Int.toNat_le_toNat (Int.le_sub_one_of_lt lt)) ?_)))
  exact toNat_lt (b := 256) (Int.lt_of_lt_of_le (Int.sub_lt_self _ (by decide)) (Int.le_trans q1 (by decide))) (by decide)
theorem IsByte.unique {x r q : Int} (h : IsByte x r) (k : IsByte x q) : r = q := by
  rcases Int.lt_trichotomy r q with e | e | e
  · exact (byte_one h k e).elim
  · exact e
  · exact (byte_one k h e).elim
theorem dinv_start (x : Int) : DInv x 255 := ⟨by decide, by decide, fun h => absurd h (by decide)⟩
theorem dinv_step {x d : Int} (h : DInv x d) (h0 : 0 < d) (hx : x ≤ tbl.getD (d - 1).toNat 0) : DInv x (d - 1) := ⟨Int.le_sub_one_of_lt h0, Int.le_trans (Int.sub_le_self _ (by decide)) h.2.1, fun _ => hx⟩
theorem dinv_zero {x d : Int} (h : DInv x d) (h0 : ¬ 0 < d) : IsByte x d := ⟨h, fun q => absurd q h0⟩
theorem dinv_end {x d : Int} (h : DInv x d) (hx : ¬ x ≤ tbl.getD (d - 1).toNat 0) : IsByte x d := ⟨h, fun _ => Int.not_le.mp hx⟩
noncomputable def BInv (x l u : Int) : Prop := 0 ≤ l ∧ l ≤ u ∧ u ≤ 256 ∧ (0 < l → tbl.getD (l - 1).toNat 0 < x) ∧ (u < 256 → x ≤ tbl.getD u.toNat 0)
theorem binv_start (x : Int) : BInv x 0 256 := ⟨by decide, by decide, by decide, fun h => absurd h (by decide), fun h => absurd h (by decide)⟩
section
variable {x l u : Int} (h : BInv x l u) (lt : l < u)
include lt
theorem mid_lo : l ≤ (l + u).fdiv 2 := by
  rw [Int.fdiv_eq_ediv_of_nonneg _ (by decide)]
  exact (Int.le_ediv_iff_mul_le (by decide)).mpr (by omega)
theorem mid_hi : (l + u).fdiv 2 < u := by
  rw [Int.fdiv_eq_ediv_of_nonneg _ (by decide)]
  exact Int.ediv_lt_of_lt_mul (by decide) (by omega)
theorem bmeas_up : (u - ((l + u).fdiv 2 + 1)).toNat < (u - l).toNat := toNat_lt (Int.sub_lt_sub_left (Int.lt_add_one_of_le (mid_lo lt)) _) (Int.sub_pos_of_lt lt)
theorem bmeas_dn : ((l + u).fdiv 2 - l).toNat < (u - l).toNat := toNat_lt (Int.sub_lt_sub_right (mid_hi lt) _) (Int.sub_pos_of_lt lt)
include h
theorem bmid_lo : 0 ≤ (l + u).fdiv 2 := Int.le_trans h.1 (mid_lo lt)
theorem bmid_hi : (l + u).fdiv 2 < 256 := Int.lt_of_lt_of_le (mid_hi lt) h.2.2.1
theorem binv_up (hx : tbl.getD ((l + u).fdiv 2).toNat 0 < x) : BInv x ((l + u).fdiv 2 + 1) u := ⟨Int.le_trans (bmid_lo h lt) (Int.le_add_one (Int.le_refl _)), mid_hi lt, h.2.2.1, fun _ => by rw [Int.add_sub_cancel]; exact hx, h.2.2.2.2⟩
theorem binv_dn (hx : ¬ tbl.getD ((l + u).fdiv 2).toNat 0 < x) : BInv x l ((l + u).fdiv 2) := ⟨h.1, mid_lo lt, Int.le_of_lt (bmid_hi h lt), h.2.2.2.1, fun _ => Int.not_lt.mp hx⟩
end
theorem binv_end {x l u : Int} (h : BInv x l u) (lt : ¬ l < u) : BInv x l l := by
  have e := Int.le_antisymm h.2.1 (Int.not_lt.mp lt)
  rw [← e] at h
  exact h
theorem binv_byte {x r : Int} (h : BInv x r r) (hx : x < 106374) : IsByte x r := by
  refine ⟨⟨h.1, Int.not_lt.mp fun q => ?_, fun q => h.2.2.2.2 (Int.lt_trans q (by decide))⟩, h.2.2.2.1⟩
  have e := Int.le_antisymm h.2.2.1 q
  have k := h.2.2.2.1 (by rw [e]; decide)
  rw [e, show tbl.getD ((256 : Int) - 1).toNat 0 = 106374 by decide +kernel] at k
  exact absurd hx (Int.lt_asymm k)
theorem big_byte {x : Int} (hx : 106374 ≤ x) : IsByte x 255 := by
  refine ⟨dinv_start x, fun _ => ?_⟩
  rw [show tbl.getD ((255 : Int) - 1).toNat 0 = 102975 by decide +kernel]
  exact Int.lt_of_lt_of_le (by decide) hx
noncomputable def b85 : List Nat := [33, 36, 37, 38, 42, 43, 44, 45, 46, 47, 48, 49, 50, 51, 52, 53, 54, 55, 56, 57, 58, 59, 60, 61, 62, 63, 64, 65, 66, 67, 68, 69, 70, 71, 72, 73, 74, 75, 76, 77, 78, 79, 80, 81, 82, 83, 84, 85, 86, 87, 88, 89, 90, 94, 95, 97, 98, 99, 100, 101, 102, 103, 104, 105, 106, 107, 108, 109, 110, 111, 112, 113, 114, 115, 116, 117, 118, 119, 120, 121, 122, 123, 124, 125, 126]
noncomputable def chr (d : Int) : Nat := b85.getD d.toNat 0
theorem chr_all : ∀ j, j < 85 → ∀ i, i < j → b85.getD i 0 < b85.getD j 0 := by decide +kernel
theorem chr_lt {a b : Int} (hb : 0 ≤ b) (hb' : b < 85) (h : a < b) (ha : 0 ≤ a) : chr a < chr b := chr_all _ (toNat_lt (b := 85) hb' (by decide)) _ (toNat_lt h (Int.lt_of_le_of_lt ha h))
noncomputable def low : Nat → Int → List Nat
  | 0, _ => []
  | k + 1, x => chr (x / 85 ^ k % 85) :: low k x
theorem low_len (k : Nat) (x : Int) : (low k x).length = k := by
  induction k with
  | zero => rfl
  | succ k ih => exact congrArg (· + 1) ih
theorem dig_lo (x : Int) : 0 ≤ x % 85 := Int.emod_nonneg _ (by decide)
theorem dig_hi (x : Int) : x % 85 < 85 := Int.emod_lt_of_pos _ (by decide)
theorem pow_pos (k : Nat) : (0 : Int) < 85 ^ k := Int.pow_pos (by decide)
theorem div_next (x : Int) (k : Nat) : x / 85 ^ k / 85 = x / 85 ^ (k + 1) := by rw [Int.pow_succ, Int.ediv_ediv_of_nonneg (Int.le_of_lt (pow_pos k))]
theorem acc_next (x : Int) (k : Nat) : x / 85 ^ (k + 1) * 85 + x / 85 ^ k % 85 = x / 85 ^ k := by rw [← div_next, Int.ediv_mul_add_emod]
theorem low_get (x : Int) : ∀ (k i : Nat), i < k → (low k x)[i]? = some (chr (x / 85 ^ (k - (i + 1)) % 85))
  | k + 1, 0, _ => rfl
  | k + 1, i + 1, h => by
    rw [Nat.add_sub_add_right]
    exact low_get x k i (Nat.lt_of_succ_lt_succ h)
theorem low_snoc {v d : Int} (h0 : 0 ≤ d) (h1 : d < 85) : ∀ k, low (k + 1) (85 * v + d) = low k v ++ [chr d]
  | 0 => by
    show [chr ((85 * v + d) / 1 % 85)] = [chr d]
    rw [Int.ediv_one, Int.add_comm, Int.add_mul_emod_self_left, Int.emod_eq_of_lt h0 h1]
  | k + 1 => by
    show chr ((85 * v + d) / 85 ^ (k + 1) % 85) :: low (k + 1) (85 * v + d) = chr (v / 85 ^ k % 85) :: (low k v ++ [chr d])
    rw [low_snoc h0 h1 k, Int.pow_succ, Int.mul_comm (85 ^ k), ← Int.ediv_ediv_of_nonneg (by decide), Int.add_comm, Int.add_mul_ediv_left _ _ (by decide), Int.ediv_eq_zero_of_lt h0 h1, Int.zero_add]
theorem emod_top (x : Int) (k : Nat) : x % 85 ^ (k + 1) = x / 85 ^ k % 85 * 85 ^ k + x % 85 ^ k := by
  rw [Int.emod_def (x / 85 ^ k), Int.emod_def x (85 ^ k), Int.sub_mul, Int.emod_def, ← div_next, Int.pow_succ, Int.mul_assoc (85 ^ k), Int.mul_comm (85 ^ k) (85 * _), Int.mul_comm (85 ^ k) (x / 85 ^ k)]
  omega
theorem low_mono (x y : Int) : ∀ k, x % 85 ^ k < y % 85 ^ k → low k x < low k y
  | 0, h => by
    rw [Int.pow_zero, Int.emod_one, Int.emod_one] at h
    exact absurd h (by decide)
  | k + 1, h => by
    refine List.cons_lt_cons_iff.mpr ?_
    rw [emod_top, emod_top] at h
    have p := pow_pos k
    rcases Int.lt_trichotomy (x / 85 ^ k % 85) (y / 85 ^ k % 85) with q | q | q
    · exact .inl (chr_lt (dig_lo _) (dig_hi _) q (dig_lo _))
    · rw [q] at h
      exact .inr ⟨by rw [q], low_mono x y k (Int.lt_of_add_lt_add_left h)⟩
    · refine absurd (Int.lt_of_le_of_lt (Int.le_trans ?_ (Int.le_add_of_nonneg_right (Int.emod_nonneg x (Int.ne_of_gt p)))) h) (Int.not_lt.mpr (Int.le_of_lt (Int.add_lt_add_left (Int.emod_lt_of_pos y p) _)))
      have m := Int.mul_le_mul_of_nonneg_right (show y / 85 ^ k % 85 + 1 ≤ _ from q) (Int.le_of_lt p)
      rw [Int.add_mul, Int.one_mul] at m
      exact m
theorem low_lt {k : Nat} {x y : Int} (hx : 0 ≤ x) (hy' : y < 85 ^ k) (h : x < y) : low k x < low k y := low_mono x y k (by rw [Int.emod_eq_of_lt hx (Int.lt_trans h hy'), Int.emod_eq_of_lt (Int.le_of_lt (Int.lt_of_le_of_lt hx h)) hy']; exact h)
noncomputable abbrev LL : List PySem.Str := looseW hd.view_39 [Str.ofString "typecode_max", Str.ofString "_length_byte_cache_00", Str.ofString "_length_byte_cache_01", Str.ofString "_length_byte_cache", Str.ofString "b85dec", Str.ofString "to_base85"]
noncomputable def Fn (k : Nat) (w : World) (f : Addr) (vs : List Value) (R : Value → Prop) : Prop :=
  ∀ (mean : ExcName → Option Value) (mg mb : PySem.Str → Option Value) (dp un : Nat) (gd : Option (List Code)) (cn : PySem.Str) (cs : Scope) (a : Addr) (ccd : Value) (cl : List (PySem.Str × Addr)) (outer : List Env) (A₀ : Around) (base h₀ : Heap) (L : Addr) (m : PySem.Str → Option Value) (news : List (Addr × Obj)) (s : Shared) (Q E : Value → Shared → Prop),
    Below A₀ base outer h₀ → Fr h₀ L s.heap m → (hd.heap_39 w.params).In h₀ → News h₀ L s.heap news → Top hd.view_39 LL mean mg mb h₀ → cs.kind = .function → dp + k < recursionLimit → un + 8 * k < cLine →
    (∀ v h' tk', R v → Fr h₀ L h' m → News h₀ L h' news → Q v { s with heap := h', toks := tk' }) →
    wpAny (model Challenge.rw_iu0046_01.row.prog w) (ktrTop dp un gd cn cs L a ccd cl outer) (PySem.call (.ref f) vs) Q E s
noncomputable def tcode (n : Int) : PySem.Str := if n < 256 then Str.ofString "B" else if n < 65536 then Str.ofString "H" else if n < 2147483647 then Str.ofString "i" else if n < 4294967296 then Str.ofString "I" else if n < 9223372036854775807 then Str.ofString "q" else Str.ofString "Q"
theorem bitNot_shift (n : Nat) : Builtin.bitNot (Builtin.bitNot 0 * 2 ^ n) = 2 ^ n - 1 := by
  show -(( -0 - 1) * 2 ^ n) - 1 = (2 : Int) ^ n - 1
  omega
noncomputable def oct (n : Int) : Int := if n < 256 then 1 else if n < 65536 then 2 else if n < 4294967296 then 4 else 8
noncomputable def norm : Value → Value
  | .int i _ => .int i 0
  | .str x _ => .str x 0
  | v => v
@[reducible] noncomputable def isInt (v : Value) (K : Int → Prop) : Prop := match v with | .int i _ => K i | _ => False
@[reducible] noncomputable def isStr (v : Value) (K : PySem.Str → Prop) : Prop := match v with | .str i _ => K i | _ => False
@[reducible] noncomputable def tru (v : Value) (K : Bool → Prop) : Prop := match v with | .bool b => K b | _ => False
theorem isInt_inv {v : Value} {K : Int → Prop} (h : isInt (norm v) K) : ∃ i t, v = .int i t ∧ K i := by
  cases v <;> first | exact ⟨_, _, rfl, h⟩ | exact h.elim
theorem isStr_inv {v : Value} {K : PySem.Str → Prop} (h : isStr (norm v) K) : ∃ i t, v = .str i t ∧ K i := by
  cases v <;> first | exact ⟨_, _, rfl, h⟩ | exact h.elim
theorem tru_inv {v : Value} {K : Bool → Prop} (h : tru (norm v) K) : ∃ b, v = .bool b ∧ K b := by
  cases v <;> first | exact ⟨_, rfl, h⟩ | exact h.elim
theorem ints_back : ∀ {vs : List Value} {ns : List Int}, vs.map norm = ns.map (fun x => .int x 0) → IntsAre vs ns
  | [], [], _ => .nil
  | v :: vs, x :: ns, h => by
    obtain ⟨h1, h2⟩ := List.cons.inj h
    obtain ⟨y, t, rfl, e⟩ := isInt_inv (v := v) (K := (· = x)) (by rw [h1])
    subst e
    exact .cons _ _ (ints_back h2)
noncomputable def seqAt (o : Option Obj) : List Value := match o with
  | some ⟨_, _, .seq xs _, _⟩ => xs.toList
  | _ => []
noncomputable def dictAt (o : Option Obj) : List DictEntry := match o with
  | some ⟨_, _, .dict es _, _⟩ => es.toList
  | _ => []
noncomputable def numAt (o : Option Obj) : Nat := match o with
  | some ⟨_, _, .seq _ n, _⟩ => n
  | some ⟨_, _, .dict _ n, _⟩ => n
  | _ => 0
theorem tab_list {w : World} {h : Heap} (X : (hd.heap_39 w.params).In h) : ∃ l : List Value, h.IsList 39 l.toArray ∧ IntsAre l tbl :=
  ⟨seqAt ((hd.heap_39 w.params).lookup 39), lstK (dd := none) (sl := #[]) (n := numAt ((hd.heap_39 w.params).lookup 39)) X (by kernel_rfl), ints_back (by kernel_rfl)⟩
section
variable {w : World} {A : Around} {E : Value → Shared → Prop} {s : Shared} {h₀ : Heap} {L : Addr} {m : PySem.Str → Option Value}
theorem tab_item {value slice : PySem.Expr} {k : Int} {u : Tok} {Q : Value → Shared → Prop} (F : Fr h₀ L s.heap m) (X : (hd.heap_39 w.params).In h₀) (h0 : 0 ≤ k) (h1 : k < 256) (h : ∀ t, Q (.int (tbl.getD k.toNat 0) t) s)
    (hs : subscripted slice false (.ref 39) (.int k u) = operate [.ref 39, .int k u] (getItem (.ref 39) (.int k u)) := by with_unfolding_all rfl) :
    wpAny (model Challenge.rw_iu0046_01.row.prog w) A (subscriptTail value slice (.ref 39) (.int k u)) Q E s := by
  obtain ⟨l, hl, hi⟩ := tab_list (X.keeps F.keep)
  exact item_anyK hl hi h0 (by rw [tbl_len]; exact h1) (Int.lt_trans h1 (by decide)) h hs
theorem tab_len {Q : Value → Shared → Prop} (F : Fr h₀ L s.heap m) (X : (hd.heap_39 w.params).In h₀) (h : Q (.int 256 (s.toks + 1)) { s with toks := s.toks + 1 + 1 }) :
    wpAny (model Challenge.rw_iu0046_01.row.prog w) A (PySem.call (.builtin "len") [.ref 39]) Q E s := by
  obtain ⟨l, hl, hi⟩ := tab_list (X.keeps F.keep)
  have e : l.toArray.size = 256 := by rw [List.size_toArray, hi.length, tbl_len]
  refine len_list hl (by rw [e]; decide) ?_
  rw [e]
  exact h
end
noncomputable def FnL (w : World) (f : Addr) : Prop :=
  ∀ (mean : ExcName → Option Value) (mg mb : PySem.Str → Option Value) (dp un : Nat) (gd : Option (List Code)) (cn : PySem.Str) (cs : Scope) (a : Addr) (ccd : Value) (cl : List (PySem.Str × Addr)) (outer : List Env) (A₀ : Around) (base h₀ : Heap) (L : Addr) (m : PySem.Str → Option Value) (news : List (Addr × Obj)) (s : Shared) (Q E : Value → Shared → Prop),
    Below A₀ base outer h₀ → Fr h₀ L s.heap m → (hd.heap_39 w.params).In h₀ → News h₀ L s.heap news → Top hd.view_39 LL mean mg mb h₀ → cs.kind = .function → dp + 2 < recursionLimit → un + 16 < cLine →
    (∀ l vs n h' tk', IntsAre vs tbl → Fr h₀ L h' m → News h₀ L h' ((l, listOf vs.toArray n) :: news) → (∀ p ∈ news, p.1 < l) → Q (.ref l) { s with heap := h', toks := tk' }) →
    wpAny (model Challenge.rw_iu0046_01.row.prog w) (ktrTop dp un gd cn cs L a ccd cl outer) (PySem.call (.ref f) []) Q E s
theorem log_big : ((2 : Nat) * 1000 ^ 256).log2 < 9000 := by decide +kernel
theorem two_log {b : Int} {n m : Nat} (e : b.natAbs = n) (p : n ≠ 0) (le : n ≤ m) (q : m ≠ 0) (h : m.log2 < 9000) (x : Int) : Builtin.divisionGoesByPylong x b = false := by
  refine PyProof.noPylong_of_log2 ?_
  rw [e]
  exact (Nat.log2_lt p).mpr (Nat.lt_of_le_of_lt le ((Nat.log2_lt q).mp h))
theorem low_log {k : Nat} (hk : k < 256) (x : Int) : Builtin.divisionGoesByPylong x (2 * 1000 ^ k) = false :=
  two_log (n := 2 * 1000 ^ k) (m := 2 * 1000 ^ 256) (by rw [Int.natAbs_mul, Int.natAbs_pow]; rfl) (Nat.mul_ne_zero (by decide) (Nat.ne_of_gt (Nat.pow_pos (by decide)))) (Nat.mul_le_mul_left _ (Nat.pow_le_pow_right (by decide) (Nat.le_of_lt hk))) (Nat.mul_ne_zero (by decide) (Nat.ne_of_gt (Nat.pow_pos (by decide)))) log_big x
inductive Stopped (P : Prop) : Prop where
  | mk : P → Stopped P
theorem Stopped.out {P : Prop} : Stopped P → P | .mk h => h
noncomputable def b85S : PySem.Str := Str.ofString "!$%&*+,-./0123456789:;<=>?@ABCDEFGHIJKLMNOPQRSTUVWXYZ^_abcdefghijklmnopqrstuvwxyz{|}~"
theorem b85S_cps : b85S.cps = b85.toArray := by decide +kernel
theorem b85_len : b85.length = 85 := by decide +kernel
noncomputable def sg (d : Int) : PySem.Str := ⟨#[chr d]⟩
theorem sg_item {d : Int} (h0 : 0 ≤ d) (h1 : d < 85) : Txt.item b85S d = sg d := by
  refine item_meets h0 ?_
  rw [b85S_cps]
  unfold chr
  rw [List.getElem?_toArray, List.getD_eq_getElem?_getD, List.getElem?_eq_getElem (by rw [b85_len]; exact toNat_lt (b := 85) h1 (by decide))]
  rfl
theorem fm_lo (x : Int) {k : Int} (h : 0 < k) : 0 ≤ x.fmod k := Int.fmod_nonneg_of_pos _ h
theorem fm_hi (x : Int) {k : Int} (h : 0 < k) : x.fmod k < k := Int.fmod_lt_of_pos _ h
noncomputable def t85 (k : Nat) (x : Int) : PySem.Str := ⟨(low k x).toArray⟩
theorem t85_len (k : Nat) (x : Int) : (t85 k x).length = k := by show (low k x).toArray.size = k; rw [List.size_toArray, low_len]
theorem fmod85 (x : Int) : x.fmod 85 = x % 85 := Int.fmod_eq_emod_of_nonneg _ (by decide)
theorem div_step (x : Int) (k : Nat) : (x / 85 ^ k).fdiv 85 = x / 85 ^ (k + 1) := by rw [Int.fdiv_eq_ediv_of_nonneg _ (by decide), div_next]
theorem str_cons {a b : List Nat} : (⟨(a).toArray⟩ ++ ⟨b.toArray⟩ : PySem.Str) = ⟨(a ++ b).toArray⟩ := by
  refine PySem.Str.ext' (Array.toList_inj.mp ?_)
  rw [PySem.Str.cps_append, Array.toList_append]
theorem t85_step (x : Int) (k : Nat) : sg ((x / 85 ^ k).fmod 85) ++ t85 k x = t85 (k + 1) x := by
  rw [fmod85]
  exact str_cons (a := [_])
theorem t85_snoc {v d : Int} (h0 : 0 ≤ d) (h1 : d < 85) (k : Nat) : t85 k v ++ sg d = t85 (k + 1) (85 * v + d) := by
  unfold t85
  rw [low_snoc h0 h1]
  exact str_cons
theorem t85_lt {k : Nat} {x y : Int} (hx : 0 ≤ x) (hx' : x < 85 ^ k) (hy : 0 ≤ y) (hy' : y < 85 ^ k) : decide ((t85 k x).cps.toList < (t85 k y).cps.toList) = decide (x < y) := by
  by_cases h : x < y
  · exact (decide_eq_true (low_lt hx hy' h)).trans (decide_eq_true h).symm
  · refine (decide_eq_false ?_).trans (decide_eq_false h).symm
    rcases Int.le_iff_lt_or_eq.mp (Int.not_lt.mp h) with q | q
    · exact List.lt_asymm (low_lt hy hx' q)
    · rw [q]; exact List.lt_irrefl _
theorem t85_ne {k : Nat} {x y : Int} (hx : 0 ≤ x) (hy' : y < 85 ^ k) (h : x < y) : t85 k x ≠ t85 k y := fun e => List.lt_irrefl (low k x) (by
  have := low_lt hx hy' h
  rw [show low k y = low k x from congrArg (fun z : PySem.Str => z.cps.toList) e.symm] at this
  exact this)
theorem t85_eq {k : Nat} {x y : Int} (hx : 0 ≤ x) (hx' : x < 85 ^ k) (hy : 0 ≤ y) (hy' : y < 85 ^ k) : (t85 k x == t85 k y) = (x == y) := by
  rcases Int.lt_trichotomy x y with q | q | q
  · rw [beq_eq_false_iff_ne.mpr (t85_ne hx hy' q), beq_eq_false_iff_ne.mpr (Int.ne_of_lt q)]
  · rw [q, beq_self_eq_true, beq_self_eq_true]
  · rw [beq_eq_false_iff_ne.mpr (t85_ne hy hx' q).symm, beq_eq_false_iff_ne.mpr (Int.ne_of_gt q)]
noncomputable def mval (o : Option (Option Value)) : Value := match o with
  | some (some v) => norm v
  | _ => .none
theorem mval_some {o : Option (Option Value)} {p : Value} (h : mval o = p) (hp : p ≠ .none) : ∃ v, o = some (some v) ∧ norm v = p := by
  rcases o with _ | _ | v
  · exact absurd h.symm hp
  · exact absurd h.symm hp
  · exact ⟨v, rfl, h⟩
noncomputable def keyAt (e : DictEntry) : PySem.Str × Tok := match e.key with
  | .str x t => (x, t)
  | _ => (Str.empty, 0)
theorem keys_lit {P : Params} : ∀ {l : List DictEntry}, l.map (fun e => (e.key, e.hash)) = l.map (fun e => (Value.str (keyAt e).1 (keyAt e).2, PyData.keyHash P (keyAt e).1)) → KeysLit P l
  | [], _ => trivial
  | _ :: _, h => ⟨⟨_, _, congrArg Prod.fst (List.cons.inj h).1, congrArg Prod.snd (List.cons.inj h).1⟩, keys_lit (List.cons.inj h).2⟩
noncomputable def TopD (P : Params) (a : Addr) : Prop := (hd.heap_39 P).lookup a = some ⟨.type "dict", none, .dict (dictAt ((hd.heap_39 P).lookup a)).toArray (numAt ((hd.heap_39 P).lookup a)), #[]⟩ ∧ KeysLit P (dictAt ((hd.heap_39 P).lookup a))
theorem top22 (P : Params) : TopD P 22 := ⟨by kernel_rfl, keys_lit (by kernel_rfl)⟩
theorem top56 (P : Params) : TopD P 56 := ⟨by kernel_rfl, keys_lit (by kernel_rfl)⟩
theorem dec_all (P : Params) : (List.range 85).map (fun (j : Nat) => mval (nsIn (hd.heap_39 P) 56 (sg (j : Int)))) = (List.range 85).map (fun (j : Nat) => Value.int (j : Int) 0) := by kernel_rfl
theorem dec_at {P : Params} {d : Int} (h0 : 0 ≤ d) (h1 : d < 85) : ∃ v, nsIn (hd.heap_39 P) 56 (sg d) = some (some v) ∧ norm v = .int d 0 := by
  have e := List.map_inj_left.mp (dec_all P) d.toNat (List.mem_range.mpr (toNat_lt (b := 85) h1 (by decide)))
  rw [Int.toNat_of_nonneg h0] at e
  exact mval_some e fun q => nomatch q
theorem fnl_use {w : World} {f : Addr} {mean : ExcName → Option Value} {mg mb : PySem.Str → Option Value} {dp un : Nat} {gd : Option (List Code)} {cn : PySem.Str} {cs : Scope} {a : Addr} {ccd : Value} {cl : List (PySem.Str × Addr)} {outer : List Env} {A₀ : Around} {base h₀ : Heap} {L : Addr} {m : PySem.Str → Option Value} {news : List (Addr × Obj)} {s : Shared} {Q E : Value → Shared → Prop}
    (B : Below A₀ base outer h₀) (F : Fr h₀ L s.heap m) (X : (hd.heap_39 w.params).In h₀) (N : News h₀ L s.heap news) (T : Top hd.view_39 LL mean mg mb h₀) (hk : cs.kind = .function) (C : FnL w f) (hdp : dp + 2 < recursionLimit) (hu : un + 16 < cLine)
    (ret : ∀ l vs n h' tk', IntsAre vs tbl → Fr h₀ L h' m → News h₀ L h' ((l, listOf vs.toArray n) :: news) → (∀ p ∈ news, p.1 < l) → Q (.ref l) { s with heap := h', toks := tk' }) :
    wpAny (model Challenge.rw_iu0046_01.row.prog w) (ktrTop dp un gd cn cs L a ccd cl outer) (PySem.call (.ref f) []) Q E s := C _ _ _ _ _ _ _ _ _ _ _ _ _ _ _ _ _ _ _ _ _ B F X N T hk hdp hu ret
section
variable {prog : Program} {w : World} {A : Around} {E : Value → Shared → Prop} {s : Shared} {h₀ : Heap} {L : Addr} {news : List (Addr × Obj)}
theorem tbl_item {value slice : PySem.Expr} {l : Addr} {vs : List Value} {n : Nat} {k : Int} {u : Tok} {Q : Value → Shared → Prop} (N : News h₀ L s.heap news) (hm : (l, listOf vs.toArray n) ∈ news) (hV : IntsAre vs tbl)
    (h0 : 0 ≤ k) (h1 : k < 256) (h : ∀ t, Q (.int (tbl.getD k.toNat 0) t) s)
    (hs : subscripted slice false (.ref l) (.int k u) = operate [.ref l, .int k u] (getItem (.ref l) (.int k u)) := by with_unfolding_all rfl) :
    wpAny (model prog w) A (subscriptTail value slice (.ref l) (.int k u)) Q E s :=
  item_anyK ⟨_, (N _ hm).1, rfl, n, rfl⟩ hV h0 (by rw [tbl_len]; exact h1) (Int.lt_trans h1 (by decide)) h hs
end
theorem updF_head {d : Addr} {o : Obj} {r : List (Addr × Obj)} (l : ∀ p ∈ r, p.1 < d) : UpdF d o ((d, o) :: r) (fun o' => (d, o') :: r) := .head fun p hp => Nat.ne_of_lt (l p hp)
theorem pow85_ne (k : Int) : (85 : Int) ^ k.toNat ≠ 0 := Int.ne_of_gt (pow_pos _)
theorem log85 : ((85 : Nat) ^ 12).log2 < 9000 := by decide +kernel
theorem no85 {x k : Int} (h : k < 12) : Builtin.divisionGoesByPylong x (85 ^ k.toNat) = false :=
  two_log (n := 85 ^ k.toNat) (m := 85 ^ 12) (by rw [Int.natAbs_pow]; rfl) (Nat.ne_of_gt (Nat.pow_pos (by decide))) (Nat.pow_le_pow_right (by decide) (Nat.le_of_lt (toNat_lt (b := 12) h (by decide)))) (Nat.ne_of_gt (Nat.pow_pos (by decide))) log85 x
end
section
noncomputable abbrev MM (w : World) : Model := model Challenge.rw_iu0046_01.row.prog w
noncomputable abbrev Led := List (Addr × Obj)
noncomputable abbrev G := PySem.Str → Option Value
@[reducible] noncomputable def vals (a b : Value) (I : Int → Int → Prop) (T : PySem.Str → PySem.Str → Prop) (B : Bool → Bool → Prop) : Prop := match a with
  | .int x _ => isInt b (I x)
  | .str x _ => isStr b (T x)
  | .bool x => tru b (B x)
  | _ => False
theorem vals_inv {a b : Value} {I : Int → Int → Prop} {T : PySem.Str → PySem.Str → Prop} {B : Bool → Bool → Prop} (h : vals (norm a) (norm b) I T B) :
    (∃ x t y u, a = .int x t ∧ b = .int y u ∧ I x y) ∨ (∃ x t y u, a = .str x t ∧ b = .str y u ∧ T x y) ∨ ∃ x y, a = .bool x ∧ b = .bool y ∧ B x y := by
  cases a <;> try exact h.elim
  · obtain ⟨y, e, h⟩ := tru_inv h
    exact .inr (.inr ⟨_, y, rfl, e, h⟩)
  · obtain ⟨y, u, e, h⟩ := isInt_inv h
    exact .inl ⟨_, _, y, u, rfl, e, h⟩
  · obtain ⟨y, u, e, h⟩ := isStr_inv h
    exact .inr (.inl ⟨_, _, y, u, rfl, e, h⟩)
@[reducible] noncomputable def iop (op : Operator) (x y : Int) (K : Value → Prop) : Prop := match op with
  | .Add => K (.int (x + y) 0)
  | .Sub => K (.int (x - y) 0)
  | .Mult => IntMulOk x y ∧ K (.int (x * y) 0)
  | .FloorDiv => y ≠ 0 ∧ Builtin.divisionGoesByPylong x y = false ∧ K (.int (x.fdiv y) 0)
  | .Mod => y ≠ 0 ∧ K (.int (x.fmod y) 0)
  | .Pow => 0 ≤ y ∧ y ≤ 1000000 ∧ x.natAbs < 2 ^ 64 ∧ K (.int (x ^ y.toNat) 0)
  | .LShift => 0 ≤ y ∧ y ≤ 1000000 ∧ x.natAbs < 2 ^ 64 ∧ K (.int (x * 2 ^ y.toNat) 0)
  | _ => False
@[reducible] noncomputable def bop (op : Operator) (a b : Value) (K : Value → Prop) : Prop := vals a b (fun x y => iop op x y K) (fun x y => op = .Add ∧ x.length + y.length ≤ sizeLine ∧ K (.str (x ++ y) 0)) fun _ _ => False
@[reducible] noncomputable def icop (op : CmpOp) (x y : Int) (K : Bool → Prop) : Prop := match op with
  | .Lt => K (decide (x < y))
  | .Gt => K (decide (y < x))
  | .GtE => K (decide (y ≤ x))
  | .Eq => K (x == y)
  | .NotEq => K (x != y)
  | _ => False
@[reducible] noncomputable def cop (op : CmpOp) (a b : Value) (K : Bool → Prop) : Prop := vals a b (fun x y => icop op x y K) (fun x y => (op = .Lt ∧ K (decide (x.cps.toList < y.cps.toList))) ∨ (op = .Eq ∧ K (x == y))) fun x y => op = .NotEq ∧ K (x != y)
section
variable {w : World} {A : Around} {E : Value → Shared → Prop} {s : Shared} {a b : Value} {K : Value → Prop} {J : Bool → Prop} {Q : Value → Shared → Prop}
theorem bop_snd {op : Operator} (h : bop op (norm a) (norm b) K) (hq : ∀ v tk, K (norm v) → Q v { s with toks := tk }) : wpAny (MM w) A (binaryOp op a b) Q E s := by
  rcases vals_inv h with ⟨x, t, y, u, rfl, rfl, h⟩ | ⟨x, t, y, u, rfl, rfl, rfl, h1, h⟩ | ⟨_, _, _, _, h⟩
  · cases op <;> try exact h.elim
    · exact add_int (hq _ _ h)
    · exact sub_int (hq _ _ h)
    · exact mul_int (hq _ _ h.2) h.1
    · exact mod_int' h.1 (hq _ _ h.2)
    · exact pow_int_small h.1 h.2.1 h.2.2.1 (hq _ _ h.2.2.2)
    · exact lshift_int_small h.1 h.2.1 h.2.2.1 (hq _ _ h.2.2.2)
    · exact floordiv_int h.1 (hq _ _ h.2.2) (.inl h.2.1)
  · exact add_str (fun t' tk => hq _ _ h) h1
  · exact h.elim
theorem cop_snd {op : CmpOp} (h : cop op (norm a) (norm b) J) (hq : ∀ c, J c → Q (.bool c) s) : wpAny (MM w) A (compareOp op a b) Q E s := by
  rcases vals_inv h with ⟨x, t, y, u, rfl, rfl, h⟩ | ⟨x, t, y, u, rfl, rfl, h⟩ | ⟨x, y, rfl, rfl, rfl, h1⟩
  · cases op <;> try exact h.elim
    · exact eq_int (hq _ h)
    · exact ne_int (hq _ h)
    · exact lt_int (hq _ h)
    · exact gt_int (hq _ h)
    · exact ge_int (hq _ h)
  · rcases h with ⟨rfl, h1⟩ | ⟨rfl, h1⟩
    · exact lt_str (hq _ h1)
    · exact eq_str (hq _ h1)
  · exact ne_bool (hq _ h1)
end
structure Fm where
  w : World
  dp : Nat
  un : Nat
  gd : Option (List Code)
  cn : PySem.Str
  cs : Scope
  L : Addr
  a : Addr
  ccd : Value
  cl : List (PySem.Str × Addr)
  outer : List Env
  h₀ : Heap
  led₀ : Led
noncomputable abbrev Fm.A (D : Fm) : Around := ktrTop D.dp D.un D.gd D.cn D.cs D.L D.a D.ccd D.cl D.outer
noncomputable abbrev Fm.env (D : Fm) : Env := envX D.cn D.cs D.L D.a D.ccd D.cl
noncomputable def Sees (g : G) (m : PySem.Str → Option Value) : Prop := ∀ x p, g x = some p → ∃ v, m x = some v ∧ norm v = p
noncomputable def Fm.S (D : Fm) (led : Led) (g : G) (h : Heap) : Prop := ∃ m, Fr D.h₀ D.L h m ∧ News D.h₀ D.L h led ∧ Sees g m ∧ ∀ p ∈ D.led₀, p ∈ led
@[reducible] noncomputable def upS (s : Shared) (h : Heap) (tk : Nat) : Shared := { s with heap := h, toks := tk }
noncomputable def Tr (D : Fm) {α : Type} (t : Sem α) (g : G) (K : α → Prop) : Prop := ∀ (led : Led) (s : Shared) (Q : α → Shared → Prop) (E : Value → Shared → Prop),
  D.S led g s.heap → (∀ v h tk, K v → D.S led g h → Q v (upS s h tk)) → wpAny (MM D.w) D.A t Q E s
noncomputable def Ev (D : Fm) (e : PySem.Expr) (g : G) (K : Value → Prop) : Prop := Tr D (eval e D.env) g fun v => K (norm v)
noncomputable def Ts (D : Fm) (e : PySem.Expr) (g : G) (K : Bool → Prop) : Prop := Tr D (isTrue e D.env (eval e D.env)) g K
structure Ok (D : Fm) (sc : Scope) (n : Nat) : Prop where
  X : (hd.heap_39 D.w.params).In D.h₀
  T : ∃ mean mg mb, Top hd.view_39 LL mean mg mb D.h₀
  B : ∃ A₀ base, Below A₀ base D.outer D.h₀
  e : D.cs = sc
  k : D.cs.kind = .function
  d : D.cs.names.lookup (Str.ofString "__debug__") = none
  dp : D.dp + n < recursionLimit
  un : D.un + 8 * n < cLine
variable {D : Fm} {sc : Scope} {n : Nat} {g : G} {K : Value → Prop} {J : Bool → Prop} {pos : Pos}
theorem ev_int {x : Int} {k : Nat} (h : K (.int x 0)) : Ev D (.Constant (.int x) k pos) g K := fun _ s _ _ S hq => wpAny_Constant_int (hq _ s.heap _ h S)
theorem ev_str {x : PySem.Str} {k : Nat} (h : K (.str x 0)) : Ev D (.Constant (.str x) k pos) g K := fun _ s _ _ S hq => Calls.Constant_str (hq _ s.heap _ h S)
theorem ev_true {b : Bool} {k : Nat} (h : K (.bool b)) : Ev D (.Constant (.bool b) k pos) g K := fun _ s _ _ S hq => Constant_bool (hq _ s.heap s.toks h S)
theorem ev_none {k : Nat} (h : K .none) : Ev D (.Constant .none k pos) g K := fun _ s _ _ S hq => Constant_none (hq _ s.heap s.toks h S)
theorem ev_bin {l r : PySem.Expr} {op : Operator} (h : Ev D l g fun a => Ev D r g fun b => bop op a b K) : Ev D (.BinOp l op r pos) g K := fun led s _ E S hq =>
  wpAny_BinOp (h led s _ E S fun _ _ _ h S => h led _ _ E S fun _ h2 _ h S => bop_snd h fun v tk h => hq v h2 tk h S)
theorem ev_inv {e : PySem.Expr} (h : Ev D e g fun a => isInt a fun i => K (.int (Builtin.bitNot i) 0)) : Ev D (.UnaryOp .Invert e pos) g K := fun led s _ E S hq =>
  UnaryOp_ (h led s _ E S fun _ h1 _ h S => by
    obtain ⟨i, t, rfl, h⟩ := isInt_inv h
    exact invert_int (hq _ h1 _ h S))
theorem ev_cmp {l r : PySem.Expr} {op : CmpOp} (h0 : behindInMarks op r = false) (h : Ev D l g fun a => Ev D r g fun b => cop op a b fun c => K (.bool c)) : Ev D (.Compare l [op] [r] pos) g K := fun led s _ E S hq =>
  wpAny_Compare1 (h led s _ E S fun _ _ _ h S => h led _ _ E S fun _ h2 t2 h S => cop_snd h fun c h => hq (.bool c) h2 t2 h S) h0
theorem ts_cmp {l r : PySem.Expr} {op : CmpOp} (h0 : behindInMarks op r = false) (h : Ev D l g fun a => Ev D r g fun b => cop op a b J) : Ts D (.Compare l [op] [r] pos) g J := fun led s _ E S hq =>
  wpAny_isTrue_Compare1 (h led s _ E S fun _ _ _ h S => h led _ _ E S fun _ h2 t2 h S => cop_snd h fun c h => wpAny_truthy_bool (hq c h2 t2 h S)) h0
theorem ts_none {l : PySem.Expr} {k : Nat} {p : Pos} (h : Ev D l g fun a => (a = .none ∧ J true) ∨ isInt a fun _ => J false) : Ts D (.Compare l [.Is] [.Constant .none k p] pos) g J := fun led s _ E S hq =>
  wpAny_isTrue_Compare1 (h led s _ E S fun v h1 t1 h S => Constant_none (by
    rcases h with ⟨e, h⟩ | h
    · have : v = .none := by cases v <;> first | rfl | exact (nomatch e)
      subst this
      exact wpAny_is_self rfl (wpAny_truthy_bool (hq true h1 t1 h S))
    · obtain ⟨i, t, rfl, h⟩ := isInt_inv h
      exact wpAny_is_other rfl (fun e => nomatch e) (wpAny_truthy_bool (hq false h1 t1 h S)))) rfl
theorem ts_ev {e : PySem.Expr} (he : ∀ env, isTrue e env (eval e env) = (do let v ← eval e env; standAt e.pos; holding [v] (truthy v))) (h : Ev D e g fun v => tru v J) : Ts D e g J := fun led s _ E S hq =>
  isTrue_plain (h led s _ E S fun _ h1 t1 h S => by
    obtain ⟨b, rfl, h⟩ := tru_inv h
    exact wpAny_truthy_bool (hq b h1 t1 h S)) (he _)
theorem ts_not {e : PySem.Expr} (h : Ts D e g fun c => J !c) : Ts D (.UnaryOp .Not e pos) g J := fun led s _ E S hq => isTrue_not (h led s _ E S fun _ h1 t1 h S => hq _ h1 t1 h S)
noncomputable def Tb (D : Fm) (op : BoolOp) (es : List PySem.Expr) (pos : Pos) (g : G) (J : Bool → Prop) : Prop := ∀ whole, Tr D (isTrue (.BoolOp op es pos) D.env whole) g J
theorem tb_nil (h : J false) : Tb D .Or [] pos g J := fun _ _ s _ _ S hq => isTrue_or_nil (hq _ s.heap s.toks h S)
theorem tb_or {e : PySem.Expr} {r : List PySem.Expr} (h : Ts D e g fun c => c = false ∧ Tb D .Or r pos g J) : Tb D .Or (e :: r) pos g J := fun whole led s _ E S hq =>
  isTrue_or (h led s _ E S fun _ _ _ h S => by
    obtain ⟨rfl, h⟩ := h
    exact h whole led _ _ E S hq)
theorem ts_bool {op : BoolOp} {es : List PySem.Expr} (h : Tb D op es pos g J) : Ts D (.BoolOp op es pos) g J := h _
theorem ts_and {e f : PySem.Expr} (h : Ts D e g fun c => (c = true → Ts D f g J) ∧ (c = false → J false)) : Ts D (.BoolOp .And [e, f] pos) g J := fun led s _ E S hq =>
  isTrue_and (h led s _ E S fun c h1 t1 h S => match c, h with
    | true, h => isTrue_and (h.1 rfl led _ _ E S fun c h2 t2 hc S => match c, hc with
      | true, hc => isTrue_and_nil (hq _ h2 t2 hc S)
      | false, hc => hq _ h2 t2 hc S)
    | false, h => hq _ h1 t1 (h.2 rfl) S)
theorem ev_and {e f : PySem.Expr} (h : Ev D e g fun v => v = .bool true ∧ Ev D f g K) : Ev D (.BoolOp .And [e, f] pos) g K := fun led s _ E S hq =>
  BoolOp_and (h led s _ E S fun v _ _ h S => by
    obtain ⟨e, h⟩ := h
    have : v = .bool true := by cases v <;> first | exact e | exact (nomatch e)
    subst this
    exact wpAny_truthy_bool (BoolOp_one (h led _ _ E S hq)))
theorem ev_or {e f : PySem.Expr} (h : Ev D e g fun v => tru v fun c => (c = true → K (.bool true)) ∧ (c = false → Ev D f g K)) : Ev D (.BoolOp .Or [e, f] pos) g K := fun led s _ E S hq =>
  BoolOp_or (h led s _ E S fun v h1 t1 h S => by
    obtain ⟨b, rfl, h⟩ := tru_inv h
    refine wpAny_truthy_bool ?_
    cases b with
    | true => exact hq _ h1 _ (h.1 rfl) S
    | false => exact BoolOp_one (h.2 rfl led _ _ E S hq))
theorem ev_ife {t b o : PySem.Expr} (h : Ts D t g fun c => (c = true → Ev D b g K) ∧ (c = false → Ev D o g K)) : Ev D (.IfExp t b o pos) g K := fun led s _ E S hq =>
  IfExp_ (h led s _ E S fun c _ _ h S => match c, h with
    | true, h => h.1 rfl led _ _ E S hq
    | false, h => h.2 rfl led _ _ E S hq)
theorem not_dbg (O : Ok D sc n) {x : PySem.Str} {y : NameKind} (h : sc.names.lookup x = some y) : (x == ("__debug__" : PySem.Str)) = false := by
  rw [beq_eq_false_iff_ne]
  rintro rfl
  rw [← O.e] at h
  exact nomatch (O.d.symm.trans h)
theorem Ok.loc (O : Ok D sc n) {x : PySem.Str} (h1 : sc.names.lookup x = some .local) : D.env.kindOf x = some .local := by
  rw [← O.e] at h1
  exact h1
theorem ev_local (O : Ok D sc n) {x : PySem.Str} {p : Value} (h1 : sc.names.lookup x = some .local) (h2 : g x = some p) (h : K p) : Ev D (.Name x pos) g K := fun _ s _ _ S hq => by
  have S0 := S
  obtain ⟨m, F, N, H, _⟩ := S
  obtain ⟨v, e1, e2⟩ := H _ _ h2
  subst e2
  exact nameX_L F e1 (hq v s.heap s.toks h S0) O.k (O.e ▸ h1) (not_dbg O h1)
noncomputable def glT : List (PySem.Str × Value) := [(Str.ofString "bisect_left", .ref 21), (Str.ofString "typecode_max", .ref 22), (Str.ofString "typecode_required", .ref 29), (Str.ofString "max_value", .ref 36), (Str.ofString "_length_byte_cache", .ref 39), (Str.ofString "length_to_byte", .ref 46),
  (Str.ofString "byte_to_length", .ref 53), (Str.ofString "b85chars", .str b85S 0), (Str.ofString "b85dec", .ref 56), (Str.ofString "to_base85", .ref 67), (Str.ofString "from_base85", .ref 74), (Str.ofString "_law_octets", .ref 88), (Str.ofString "_law_ordered", .ref 95)]
theorem lookup_mem {x : PySem.Str} {p : Value} : ∀ {l : List (PySem.Str × Value)}, l.lookup x = some p → (x, p) ∈ l
  | (y, q) :: r, h => by
    rw [List.lookup_cons] at h
    split at h
    · rename_i e
      rw [beq_iff_eq] at e
      cases h; subst e
      exact .head _
    · exact .tail _ (lookup_mem h)
theorem gl_all (P : Params) : glT.map (fun q => mval (nsIn (hd.heap_39 P) mainGlobals q.1)) = glT.map (·.2) := by kernel_rfl
theorem ev_glob (O : Ok D sc n) {x : PySem.Str} {p : Value} (h1 : sc.names.lookup x = some .globalImplicit) (h2 : glT.lookup x = some p) (hp : p ≠ .none) (h : K p) : Ev D (.Name x pos) g K := fun _ s _ _ S hq => by
  have S0 := S
  obtain ⟨m, F, _⟩ := S
  obtain ⟨mean, mg, mb, T⟩ := O.T
  obtain ⟨v, e1, e2⟩ := mval_some (List.map_inj_left.mp (gl_all D.w.params) _ (lookup_mem h2)) hp
  have e3 : norm v = p := e2
  subst e3
  exact nameX_K F O.X (topRead_of T) e1 (hq v s.heap s.toks h S0) O.k (O.e ▸ h1) (not_dbg O h1)
noncomputable def Blt (x : PySem.Str) (p : Value) : Prop := (∀ P, nsIn (hd.heap_39 P) mainGlobals x = some none) ∧ bootBuiltins x = some p ∧ x ≠ "__name__"
theorem blt_snd (O : Ok D sc n) {x : PySem.Str} {p : Value} (h1 : sc.names.lookup x = some .globalImplicit) (b : Blt x p) {s : Shared} {led : Led} {Q : Value → Shared → Prop} {E : Value → Shared → Prop} (S : D.S led g s.heap) (h : Q p s) : wpAny (MM D.w) D.A (eval (.Name x pos) D.env) Q E s := by
  obtain ⟨m, F, _⟩ := S
  obtain ⟨mean, mg, mb, T⟩ := O.T
  exact nameX_B F O.X (topRead_of T) (b.1 _) b.2.1 b.2.2 h O.k (O.e ▸ h1) (not_dbg O h1)
@[reducible] noncomputable def star : List PySem.Expr → Prop
  | [] => True
  | e :: r => (∀ q env, starEach (e :: q) env = (false, eval e env) :: starEach q env) ∧ star r
@[reducible] noncomputable def evL (D : Fm) (g : G) : List PySem.Expr → (List Value → Prop) → Prop
  | [], K => K []
  | e :: r, K => Ev D e g fun v => evL D g r fun vs => K (v :: vs)
theorem star_any {env : Env} : ∀ {es : List PySem.Expr}, star es → ((backTo pos (starEach es env)).any fun x => x.fst) = false
  | [], _ => rfl
  | e :: r, h => by
    rw [h.1]
    exact star_any (es := r) h.2
theorem args_snd : ∀ {es : List PySem.Expr} {K : List Value → Prop}, star es → evL D g es K → Tr D (spliced (backTo pos (starEach es D.env))) g fun vs => vs.length = es.length ∧ K (vs.map norm)
  | [], _, _, h, _, s, _, _, S, hq => spliced_none (hq [] s.heap s.toks ⟨rfl, h⟩ S)
  | _ :: _, _, hs, h, led, s, _, E, S, hq => args_cons (h led s _ E S fun v _ _ h S => args_snd hs.2 h led _ _ E S fun vs h2 t2 h S => hq (v :: vs) h2 t2 ⟨congrArg (· + 1) h.1, h.2⟩ S) (hs.1 _ _)
@[reducible] noncomputable def s1 (vs : List Value) (f : Value → Prop) : Prop := match vs with
  | [v] => f v
  | _ => False
@[reducible] noncomputable def s2 (vs : List Value) (f : Value → Value → Prop) : Prop := match vs with
  | v :: r => s1 r (f v)
  | _ => False
@[reducible] noncomputable def s3 (vs : List Value) (f : Value → Value → Value → Prop) : Prop := match vs with
  | v :: r => s2 r (f v)
  | _ => False
theorem s1_inv {vs : List Value} {f : Value → Prop} (h : s1 (vs.map norm) f) : ∃ v, vs = [v] ∧ f (norm v) := by
  rcases vs with _ | ⟨v, _ | _⟩
  · exact h.elim
  · exact ⟨v, rfl, h⟩
  · exact h.elim
theorem s2_inv {vs : List Value} {f : Value → Value → Prop} (h : s2 (vs.map norm) f) : ∃ v u, vs = [v, u] ∧ f (norm v) (norm u) := match vs, h with
  | v :: r, h => by
    obtain ⟨u, rfl, h⟩ := s1_inv (vs := r) h
    exact ⟨v, u, rfl, h⟩
theorem s3_inv {vs : List Value} {f : Value → Value → Value → Prop} (h : s3 (vs.map norm) f) : ∃ v u x, vs = [v, u, x] ∧ f (norm v) (norm u) (norm x) := match vs, h with
  | v :: r, h => by
    obtain ⟨u, x, rfl, h⟩ := s2_inv (vs := r) h
    exact ⟨v, u, x, rfl, h⟩
noncomputable def FnS (k : Nat) (a : Addr) (sp : List Value → (Value → Prop) → Prop) : Prop := (∀ P, keepIn (hd.heap_39 P) (.ref a) = true) ∧ ∀ (w : World) (vs : List Value) (K : Value → Prop), sp (vs.map norm) K → Fn k w a vs (fun v => K (norm v))
theorem ev_call (O : Ok D sc n) {k a : Nat} {sp : List Value → (Value → Prop) → Prop} (hf : FnS k a sp) (hk : k ≤ n) {f : PySem.Str} {q : Pos} {e : PySem.Expr} {r : List PySem.Expr} (h1 : sc.names.lookup f = some .globalImplicit) (h2 : glT.lookup f = some (.ref a)) (h3 : star (e :: r))
    (h : evL D g (e :: r) fun vs => sp vs K) : Ev D (.Call (.Name f q) (e :: r) [] pos) g K := fun led s Q E S hq => by
  obtain ⟨mean, mg, mb, T⟩ := O.T
  obtain ⟨A₀, base, B⟩ := O.B
  refine Call_ (ev_glob (K := (· = Value.ref a)) O h1 h2 (fun e => nomatch e) rfl led s _ E S fun fv h1 t1 e S => ?_) rfl
  have : fv = .ref a := by cases fv <;> first | exact e | cases e
  subst this
  refine callWith_K O.X (hf.1 _) (args_snd h3 h led _ _ E S fun vs h2 t2 h S => ?_) (h3.1 _ _) (star_any h3.2)
  obtain ⟨m, F, N, H, hl⟩ := S
  exact ⟨O.X.keeps F.keep, hf.2 _ vs K h.2 _ _ _ _ _ _ _ _ _ _ _ _ _ _ _ _ _ _ _ _ _ B F O.X N T O.k (Nat.lt_of_le_of_lt (Nat.add_le_add_left hk _) O.dp) (Nat.lt_of_le_of_lt (Nat.add_le_add_left (Nat.mul_le_mul_left 8 hk) _) O.un) fun v h' tk' hv F' N' => hq v h' tk' hv ⟨m, F', N', H, hl⟩⟩
noncomputable def BOk (D : Fm) (id : String) (sp : Value → (Value → Prop) → Prop) : Prop := ∀ (v : Value) (g : G) (K : Value → Prop), sp (norm v) K → Tr D (PySem.call (.builtin id) [v]) g fun v => K (norm v)
theorem ev_blt (O : Ok D sc n) {id : String} {sp : Value → (Value → Prop) → Prop} {f : PySem.Str} {q : Pos} {e : PySem.Expr} (b : Blt f (.builtin id)) (hb : BOk D id sp) (h1 : sc.names.lookup f = some .globalImplicit) (h3 : star [e]) (h : Ev D e g fun v => sp v K) : Ev D (.Call (.Name f q) [e] [] pos) g K := fun led s Q E S hq =>
  Call_ (blt_snd O h1 b S (PyProof.Rows.callWith_builtin1 (args_snd (K := fun vs => s1 vs fun v => sp v K) h3 h led s _ E S fun vs h2 t2 h S => by
    obtain ⟨u, rfl, h'⟩ := s1_inv h.2
    exact hb u g K h' led _ Q E S hq) (h3.1 _ _) (star_any h3.2))) rfl
end
section
noncomputable abbrev PoT := Flow → G → Prop
noncomputable def normF : Flow → Flow
  | .ret v => .ret (norm v)
  | f => f
noncomputable def upd (g : G) (x : PySem.Str) (v : Value) : G := fun y => if y = x then some v else g y
@[reducible] noncomputable def seqP (go : G → Prop) (P : PoT) : PoT := fun f g => match f with
  | .next => go g
  | f => P f g
noncomputable def Ro (D : Fm) (t : Sem Flow) (g : G) (P : PoT) : Prop := ∀ (led : Led) (s : Shared) (Q : Flow → Shared → Prop) (E : Value → Shared → Prop),
  D.S led g s.heap → PassesOwn (MM D.w) D.A D.env E → (∀ f g' h tk, P (normF f) g' → D.S led g' h → Q f (upS s h tk)) → wpAny (MM D.w) D.A t Q E s
noncomputable def Ex (D : Fm) (body : List Stmt) (g : G) (P : PoT) : Prop := Ro D (execs body D.env) g P
noncomputable def Ex1 (D : Fm) (st : Stmt) (g : G) (P : PoT) : Prop := Ro D (exec st D.env) g P
theorem Sees.put {g : G} {m : PySem.Str → Option Value} (H : Sees g m) (x : PySem.Str) (v : Value) : Sees (upd g x (norm v)) (fun y => if y = x then some v else m y) := fun y q hy => by
  unfold upd at hy
  by_cases e : y = x
  · rw [if_pos e] at hy
    exact ⟨v, if_pos e, Option.some.inj hy⟩
  · rw [if_neg e] at hy
    obtain ⟨u, h1, h2⟩ := H y q hy
    exact ⟨u, (if_neg e).trans h1, h2⟩
variable {D : Fm} {sc : Scope} {n : Nat} {g : G} {P : PoT} {pos : Pos}
theorem ex_nil (h : P .next g) : Ex D [] g P := fun _ s _ _ S _ hq => wpAny_execs_nil (hq .next g s.heap s.toks h S)
theorem ex_first {st : Stmt} {r : List Stmt} {led : Led} {s : Shared} {Q : Flow → Shared → Prop} {E : Value → Shared → Prop} (h : Ex1 D st g (seqP (fun g => Ex D r g P) P)) (S : D.S led g s.heap) (hO : PassesOwn (MM D.w) D.A D.env E)
    (hq : ∀ f g' h tk, P (normF f) g' → D.S led g' h → Q f (upS s h tk)) : wpAny (MM D.w) D.A (exec st D.env) (fun f s' => match f with | .next => wpAny (MM D.w) D.A (execs r D.env) Q E s' | f => Q f s') E s :=
  h led s _ E S hO fun f g' h tk hp S => match f, hp with
    | .next, hp => hp led _ _ E S hO hq
    | .brk, hp => hq _ g' h tk hp S
    | .cont, hp => hq _ g' h tk hp S
    | .ret v, hp => hq (.ret v) g' h tk hp S
theorem ex_cons {st : Stmt} {r : List Stmt} (h : Ex1 D st g (seqP (fun g => Ex D r g P) P)) : Ex D (st :: r) g P := fun _ _ _ _ S hO hq => wpAny_execs_cons (ex_first h S hO hq)
theorem store_snd (O : Ok D sc n) {x : PySem.Str} {v : Value} {led : Led} {s : Shared} {h : Heap} {tk : Nat} {Q : Unit → Shared → Prop} {E : Value → Shared → Prop} (h1 : sc.names.lookup x = some .local) (S : D.S led g h)
    (hq : ∀ h tk, D.S led (upd g x (norm v)) h → Q () (upS s h tk)) : wpAny (MM D.w) D.A (storeName D.env x v) Q E (upS s h tk) := by
  obtain ⟨m, F, N, H, hl⟩ := S
  exact storeX_L F N (fun h' F' N' => hq h' _ ⟨_, F', N', H.put x v, hl⟩) O.k (O.loc h1)
theorem ex_set (O : Ok D sc n) {x : PySem.Str} {p : Pos} {e : PySem.Expr} {r : List Stmt} (h1 : sc.names.lookup x = some .local) (h2 : ∀ env, swapsWith e (some (.Name x p)) pos.line env = pure false) (h : Ev D e g fun v => Ex D r (upd g x v) P) : Ex D (.Assign [.Name x p] e pos :: r) g P :=
  ex_cons fun led s _ E S _ hq => wpAny_Assign_Name (h led s _ E S fun _ _ _ h S => store_snd (s := s) O h1 S fun h' tk S => hq .next _ h' tk h S) (h2 _)
theorem ex_aug (O : Ok D sc n) {x : PySem.Str} {p : Pos} {e : PySem.Expr} {r : List Stmt} {u : Int} (h1 : sc.names.lookup x = some .local) (h2 : g x = some (.int u 0))
    (h : Ev D e g fun b => isInt b fun y => y ≠ 0 ∧ Builtin.divisionGoesByPylong u y = false ∧ Ex D r (upd g x (.int (u.fdiv y) 0)) P) : Ex D (.AugAssign (.Name x p) .FloorDiv e pos :: r) g P :=
  ex_cons fun led s _ E S hO hq => by
    have S0 := S
    obtain ⟨m, F, N, H, _⟩ := S
    obtain ⟨v, h5, h6⟩ := H x _ h2
    obtain ⟨i, t, rfl, e⟩ := isInt_inv (K := (· = u)) (show isInt (norm v) _ by rw [h6])
    subst e
    refine wpAny_AugAssign_Name (wpAny_loadName_local O.k (O.loc h1) F.ns h5 (h led s _ E S0 fun _ _ _ h S => ?_))
    obtain ⟨y, _, rfl, h7, h8, h⟩ := isInt_inv h
    exact ifloordiv_int h7 (store_snd (s := s) O h1 S fun h' tk S => hq .next _ h' tk h S) (.inl h8)
theorem ex_set2 (O : Ok D sc n) {x y : PySem.Str} {p1 p2 tp q : Pos} {k k' : Nat} {e₁ e₂ : PySem.Expr} {r : List Stmt} (h1 : sc.names.lookup x = some .local) (h2 : sc.names.lookup y = some .local)
    (hw : ∀ cn L a ccd cl, swappedStores [.Tuple [.Name x p1, .Name y p2] k tp] (.Tuple [e₁, e₂] k' q) (envX cn sc L a ccd cl) = pure (some [x, y])) (hs : star [e₁, e₂])
    (h : Ev D e₁ g fun a => Ev D e₂ g fun b => Ex D r (upd (upd g y b) x a) P) : Ex D (.Assign [.Tuple [.Name x p1, .Name y p2] k tp] (.Tuple [e₁, e₂] k' q) pos :: r) g P :=
  ex_cons fun led s _ E S hO hq => by
    refine Assign_Tuple_swapped (names := [x, y]) (Tuple_ (args_snd (K := fun vs => s2 vs fun a b => Ex D r (upd (upd g y b) x a) P) hs h led s _ E S fun vs _ _ h S => ?_)) rfl (by have := hw D.cn D.L D.a D.ccd D.cl; rw [← O.e] at this; exact this)
    obtain ⟨a, b, rfl, h'⟩ := s2_inv h.2
    obtain ⟨m, F, N, H, hl⟩ := S
    refine newTuple_N F N (fun h4 F4 N4 => unpackItemsN_ F4 N4 (News.isTup N4 (.head _)) rfl rfl fun h5 F5 N5 => ?_) (by rw [sizeLine_eq]; show 2 ≤ 16777216; decide)
    refine assignInOrder_cons (bindName_ (store_snd (s := s) (led := led) O h2 ⟨m, F5, fun p hp => N5 p (.tail _ hp), H, hl⟩ fun h6 t6 S => assignInOrder_cons (bindName_ (store_snd (s := s) O h1 S fun h7 t7 S => assignInOrder_nil (hq .next _ h7 t7 h' S)))))
theorem st_if {t : PySem.Expr} {b o : List Stmt} (h : Ts D t g fun c => (c = true → Ex D b g P) ∧ (c = false → Ex D o g P)) : Ex1 D (.If t b o pos) g P := fun led s _ E S hO hq =>
  wpAny_If (h led s _ E S fun c _ _ h S => match c, h with
    | true, h => h.1 rfl led _ _ E S hO hq
    | false, h => h.2 rfl led _ _ E S hO hq)
theorem ex_if {t : PySem.Expr} {b o r : List Stmt} (h : Ts D t g fun c => (c = true → Ex D b g (seqP (fun g => Ex D r g P) P)) ∧ (c = false → Ex D o g (seqP (fun g => Ex D r g P) P))) : Ex D (.If t b o pos :: r) g P := ex_cons (st_if h)
theorem ex_ret {e : PySem.Expr} {r : List Stmt} (h : Ev D e g fun v => P (.ret v) g) : Ex D (.Return (some e) pos :: r) g P :=
  ex_cons fun led s _ E S _ hq => wpAny_Return_some (h led s _ E S fun v h tk hv S => hq (.ret v) g h tk hv S)
@[reducible] noncomputable def turnP (next : G → Prop) (P : PoT) : PoT := fun f g => match f with
  | .next => next g
  | .cont => next g
  | .brk => P .next g
  | .ret v => P (.ret v) g
theorem ex_while {test : PySem.Expr} {body r : List Stmt} (I : Nat → G → Prop) (X : G → Prop) (h1 : ∃ n, I n g)
    (h : ∀ n g, I n g → Ts D test g fun c => (c = true → Ex D body g (turnP (fun g' => ∃ n', n' < n ∧ I n' g') (seqP (fun g => Ex D r g P) P))) ∧ (c = false → X g)) (h3 : ∀ g, X g → Ex D r g P) : Ex D (.While test body [] pos :: r) g P :=
  ex_cons fun led s Q E S hO hq => by
    obtain ⟨n₀, hI⟩ := h1
    obtain ⟨m, F, N, H, hl⟩ := S
    refine While_inv2 (fun n m nx => nx = led ∧ ∃ g, I n g ∧ Sees g m) F N ⟨rfl, g, hI, H⟩ ?_ hO
    rintro n m₁ nx h₁ tk₁ F₁ N₁ ⟨e, g₁, hI₁, H₁⟩
    subst e
    exact h n g₁ hI₁ _ _ _ E ⟨m₁, F₁, N₁, H₁, hl⟩ fun c h2 t2 hc S => match c, hc with
      | false, hc => hq .next g₁ h2 t2 (h3 g₁ (hc.2 rfl)) S
      | true, hc => hc.1 rfl _ _ _ E S hO fun f g' h3 t3 hp S3 =>
        have back : (∃ n', n' < n ∧ I n' g') → WhileStep2 D.h₀ D.L s (fun n m nx' => nx' = nx ∧ ∃ g, I n g ∧ Sees g m) Q n .next (upS s h3 t3) := fun ⟨n', hn, hI'⟩ =>
          let ⟨m3, F3, N3, H3, _⟩ := S3
          ⟨h3, t3, m3, nx, n', rfl, F3, N3, hn, rfl, g', hI', H3⟩
        match f, hp with
        | .ret v, hp => hq (.ret v) g' h3 t3 hp S3
        | .brk, hp => hq .next g' h3 t3 hp S3
        | .next, hp => back hp
        | .cont, hp => back hp
noncomputable abbrev Loop (D : Fm) (x : PySem.Str) (body : List Stmt) (Q : Flow → Shared → Prop) (E : Value → Shared → Prop) (it : Value) (s : Shared) : Prop := LoopAtV Challenge.rw_iu0046_01.row.prog D.w D.A D.h₀ D.env x body Q E it s
@[reducible] noncomputable def forVC (D : Fm) (x : PySem.Str) (body : List Stmt) (item : Nat → Value → Prop) (n : Nat) (I : Nat → G → Prop) (g : G) (P : PoT) : Prop :=
  I 0 g ∧ (∀ i g v, i < n → item i v → I i g → Ex D body (upd g x v) (turnP (I (i + 1)) P)) ∧ ∀ g, I n g → P .next g
theorem turn_snd {x : PySem.Str} {body : List Stmt} {I : G → Prop} {led own : Led} {J : (PySem.Str → Option Value) → Led → Prop} {s : Shared} {Q : Flow → Shared → Prop} {E : Value → Shared → Prop} {v : Value} {m : PySem.Str → Option Value} {h' : Heap} {tk : Nat}
    (h : Ex D body (upd g x (norm v)) (turnP I P)) (hO : PassesOwn (MM D.w) D.A D.env E) (hq : ∀ f g' h tk, P (normF f) g' → D.S led g' h → Q f (upS s h tk)) (hl : ∀ p ∈ D.led₀, p ∈ led) (hJ : ∀ g m, I g → Sees g m → J m led)
    (H : Sees g m) (F : Fr D.h₀ D.L h' (fun y => if y = x then some v else m y)) (N : News D.h₀ D.L h' (led ++ own)) :
    wpAny (MM D.w) D.A (execs body D.env) (InvPostN D.h₀ D.L J own (led.map (·.1)) (upS s h' tk) Q) E (upS s h' tk) :=
  h (led ++ own) _ _ E ⟨_, F, N, H.put x v, fun p hp => List.mem_append_left _ (hl p hp)⟩ hO fun f g' h3 t3 hp S =>
    have fin : I g' → InvEndN D.h₀ D.L J own (led.map (·.1)) (upS s h' tk) (upS s h3 t3) := fun q => by
      obtain ⟨m3, F3, N3, H3, _⟩ := S
      exact ⟨h3, t3, m3, led ++ own, led, rfl, F3, N3, fun _ hp => List.mem_append_left _ hp, fun _ hp => List.mem_append_right _ hp, rfl, hJ g' m3 q H3⟩
    have back : D.S led g' h3 := by
      obtain ⟨m3, F3, N3, H3, _⟩ := S
      exact ⟨m3, F3, fun p hp => N3 p (List.mem_append_left _ hp), H3, hl⟩
    match f, hp with
    | .ret v, hp => hq (.ret v) g' h3 t3 hp back
    | .brk, hp => hq .next g' h3 t3 hp back
    | .next, hp => fin hp
    | .cont, hp => fin hp
theorem for_walk {x : PySem.Str} {body : List Stmt} {item : Nat → Value → Prop} {n : Nat} {I : Nat → G → Prop} {led : Led} {s : Shared} {Q : Flow → Shared → Prop} {E : Value → Shared → Prop}
    {ia : Addr} {fp wr : List Addr} {pt : Nat → Value → Prop} {St' : Nat → Heap → Prop} (W : Walks Challenge.rw_iu0046_01.row.prog D.w D.A ia fp wr n pt St') (hf : (∀ q ∈ led, q.1 ∉ fp) ∧ (∀ b ∈ wr, D.h₀.get? b = none) ∧ D.L ∉ fp) (hst : St' 0 s.heap)
    (hi : ∀ i v, pt i v → item i (norm v)) (h : forVC D x body item n I g P) (S : D.S led g s.heap) (hO : PassesOwn (MM D.w) D.A D.env E)
    (hq : ∀ f g' h tk, P (normF f) g' → D.S led g' h → Q f (upS s h tk)) : Loop D x body Q E (.ref ia) s := by
  obtain ⟨m, F, N, H, hl⟩ := S
  refine loop_invN (fun i m nx => nx = led ∧ ∃ g, I i g ∧ Sees g m) W hf.2.2 hf.2.1 (fun p hp hw => hf.1 p hp (W.sub _ hw)) hf.1 hst F N ⟨rfl, g, h.1, H⟩ ?_ ?_
  · rintro i v m₁ nx h' tk own hin hP _ _ ⟨e, g₁, hI, H₁⟩ F₁ N₁
    subst e
    exact turn_snd (h.2.1 i g₁ (norm v) hin (hi i v hP) hI) hO hq hl (fun g m x y => ⟨rfl, g, x, y⟩) H₁ F₁ N₁
  · rintro m₁ nx h' tk ⟨e, g₁, hI, H₁⟩ F₁ N₁
    subst e
    exact hq .next g₁ h' tk (h.2.2 g₁ hI) ⟨m₁, F₁, N₁, H₁, hl⟩
theorem led_fresh {led : Led} {h : Heap} (S : D.S led g h) : (∀ q ∈ led, q.1 ∉ [h.objs.size]) ∧ (∀ b ∈ [h.objs.size], D.h₀.get? b = none) ∧ D.L ∉ [h.objs.size] := by
  obtain ⟨m, F, N, _⟩ := S
  refine ⟨fun p hp hI => absurd (Heap.lt_size (N p hp).1) ((List.mem_singleton.mp hI) ▸ Nat.lt_irrefl _), fun b hb => ?_, fun hm => absurd F.ns.lt ((List.mem_singleton.mp hm) ▸ Nat.lt_irrefl _)⟩
  rw [List.mem_singleton.mp hb]
  exact next_is_new F
theorem S_push {led : Led} {h : Heap} (S : D.S led g h) (o : Obj) : D.S led g (h.push o) := by
  obtain ⟨m, F, N, H⟩ := S
  exact ⟨m, F.push o, fun p hp => ⟨Heap.get?_push_of_some o (N p hp).1, (N p hp).2⟩, H⟩
theorem ex_for (O : Ok D sc n) {x : PySem.Str} {px : Pos} {i : PySem.Expr} {b r : List Stmt} (h1 : sc.names.lookup x = some .local) (h2 : ∀ env v, foldedSetIterable i env v = pure v)
    (h : ∀ P' led s Q E, P' = seqP (fun g => Ex D r g P) P → D.S led g s.heap → PassesOwn (MM D.w) D.A D.env E → (∀ f g' h tk, P' (normF f) g' → D.S led g' h → Q f (upS s h tk)) →
      wpAny (MM D.w) D.A (eval i D.env) (fun xv s₁ => wpAny (MM D.w) D.A (pyIter xv) (fun it s₂ => Loop D x b Q E it s₂) E s₁) E s) : Ex D (.For (.Name x px) i b [] pos :: r) g P :=
  ex_cons fun led s Q E S hO hq => For_invV D.h₀ (O.loc h1) (by show (D.cs.kind == .class || (D.cs.kind == .module && _)) = false; rw [O.k]; rfl) (h _ led s Q E rfl S hO hq) (h2 _) hO
theorem range_snd (O : Ok D sc n) {x f : PySem.Str} {q q' : Pos} {e : PySem.Expr} {b : List Stmt} {led : Led} {s : Shared} {Q : Flow → Shared → Prop} {E : Value → Shared → Prop} {R : Int → Prop}
    (h3 : sc.names.lookup f = some .globalImplicit) (hb : Blt f (.type "range")) (h4 : star [e]) (S : D.S led g s.heap) (h : Ev D e g fun v => isInt v fun k => 0 ≤ k ∧ k ≤ 1000 ∧ R k)
    (hR : ∀ k ia h tk, R k → (∀ q ∈ led, q.1 ∉ [ia]) ∧ (∀ b ∈ [ia], D.h₀.get? b = none) ∧ D.L ∉ [ia] → D.S led g h → IsRangeIter h ia (0 + ((0 : Nat) : Int) * 1) ((k.toNat : Int) - ((0 : Nat) : Int)) 1 → Loop D x b Q E (.ref ia) (upS s h tk)) :
    wpAny (MM D.w) D.A (eval (.Call (.Name f q) [e] [] q') D.env) (fun xv s₁ => wpAny (MM D.w) D.A (pyIter xv) (fun it s₂ => Loop D x b Q E it s₂) E s₁) E s := by
  refine Call_ (blt_snd O h3 hb S ?_) rfl
  refine PyProof.Rows.callWith_type1 (args_snd (K := fun vs => s1 vs fun v => isInt v fun k => 0 ≤ k ∧ k ≤ 1000 ∧ R k) h4 h led s _ E S fun vs h5 t5 h S => ?_) (h4.1 _ _) rfl
  obtain ⟨v, rfl, h'⟩ := s1_inv h.2
  obtain ⟨k, t, rfl, h6, h7, h⟩ := isInt_inv h'
  obtain ⟨m, F, N, H⟩ := S
  refine range1_rows F N fun h' tk t₁ u₁ v₁ hr F' N' _ => ?_
  have S : D.S led g h' := ⟨m, F', N', H⟩
  have hn : Builtin.Range.rangeSize 0 k 1 = (k.toNat : Int) := by rw [rangeSize_nat]; omega
  refine wpAny_pyIter_range hr (small_one (by decide) (by decide) (by omega) (by omega)) ?_
  refine hR k _ _ _ h (led_fresh S) (S_push S _) ?_
  rw [hn]
  simpa using Heap.get?_push_size _ rfl
theorem range_item {i : Nat} {v : Value} (h : ∃ t, v = .int (0 + (i : Int) * 1) t) : norm v = .int (i : Int) 0 := by
  obtain ⟨t, rfl⟩ := h
  show Value.int (0 + (i : Int) * 1) 0 = _
  rw [Int.mul_one, Int.zero_add]
theorem ex_range (O : Ok D sc n) {x f : PySem.Str} {px q q' : Pos} {e : PySem.Expr} {b r : List Stmt} {I : Nat → G → Prop} (h1 : sc.names.lookup x = some .local) (h2 : ∀ env v, foldedSetIterable (.Call (.Name f q) [e] [] q') env v = pure v)
    (h3 : sc.names.lookup f = some .globalImplicit) (hb : Blt f (.type "range")) (h4 : star [e]) (h : Ev D e g fun v => isInt v fun k => 0 ≤ k ∧ k ≤ 1000 ∧ forVC D x b (fun i v => v = .int (i : Int) 0) k.toNat I g (seqP (fun g => Ex D r g P) P)) :
    Ex D (.For (.Name x px) (.Call (.Name f q) [e] [] q') b [] pos :: r) g P := ex_for O h1 h2 fun P' led s Q E e S hO hq => by
  subst e
  exact range_snd O h3 hb h4 S h fun k ia h' tk h hf S hst => for_walk (Walks.range rfl ia 0 1 k.toNat) hf hst (fun i v hv => range_item hv) h S hO (fun f g' h tk => hq f g' h tk)
theorem ex_text (O : Ok D sc n) {x : PySem.Str} {px : Pos} {e : PySem.Expr} {b r : List Stmt} {I : Nat → G → Prop} (h1 : sc.names.lookup x = some .local) (h2 : ∀ env v, foldedSetIterable e env v = pure v)
    (h : Ev D e g fun v => isStr v fun xt => forVC D x b (fun i v => ∃ c, xt.cps[i]? = some c ∧ v = .str ⟨#[c]⟩ 0) xt.cps.size I g (seqP (fun g => Ex D r g P) P)) :
    Ex D (.For (.Name x px) e b [] pos :: r) g P := ex_for O h1 h2 fun P' led s Q E e S hO hq => by
  subst e
  refine h led s _ E S fun v h4 t4 hv S => ?_
  obtain ⟨xt, t, rfl, h⟩ := isStr_inv hv
  refine wpAny_pyIter_str fun o St' hW hst => ?_
  refine for_walk (hW _ rfl) (led_fresh S) hst ?_ h (S_push S _) hO (fun f g' h tk => hq f g' h tk)
  rintro i v ⟨c, u, hc, rfl⟩
  exact ⟨c, hc, rfl⟩
theorem ex_tuple (O : Ok D sc n) {x : PySem.Str} {px q : Pos} {es : List PySem.Expr} {k : Nat} {b r : List Stmt} {I : Nat → G → Prop} (h1 : sc.names.lookup x = some .local) (h2 : ∀ env v, foldedSetIterable (.Tuple es k q) env v = pure v)
    (h4 : star es) (h5 : es.length ≤ 10) (h : evL D g es fun vs => forVC D x b (fun i v => vs[i]? = some v) vs.length I g (seqP (fun g => Ex D r g P) P)) :
    Ex D (.For (.Name x px) (.Tuple es k q) b [] pos :: r) g P := ex_for O h1 h2 fun P' led s Q E e S hO hq => by
  subst e
  refine Tuple_ (args_snd h4 h led s _ E S fun vs h3 t3 h S => ?_)
  obtain ⟨hn, h⟩ := h
  rw [List.length_map] at h
  have S1 := S_push S { cls := .type "tuple", data := .seq vs.toArray }
  have hT : (h3.push { cls := .type "tuple", data := .seq vs.toArray }).IsTuple h3.objs.size vs.toArray := ⟨_, Heap.get?_push_size _ rfl, rfl, 0, rfl⟩
  obtain ⟨f1, f2, f3⟩ := led_fresh S
  obtain ⟨g1, g2, g3⟩ := led_fresh S1
  have ne : h3.objs.size ≠ (h3.push { cls := .type "tuple", data := .seq vs.toArray }).objs.size := by
    show _ ≠ (h3.objs.push _).size
    rw [Array.size_push]
    omega
  refine wpAny_newTuple (wpAny_pyIter_tuple hT ?_) (by rw [sizeLine_eq]; omega)
  have len : vs.toArray.size = vs.length := List.size_toArray
  refine for_walk (len ▸ Walks.tuple rfl _ h3.objs.size ne vs.toArray) ⟨?_, g2, ?_⟩ ⟨⟨_, Heap.get?_push_size _ rfl, rfl, rfl⟩, hT.push _⟩ ?_ h (S_push S1 _) hO (fun f g' h tk => hq f g' h tk)
  · intro q hm hm2
    rcases List.mem_cons.mp hm2 with e | hm2
    · exact g1 q hm (List.mem_singleton.mpr e)
    · exact f1 q hm hm2
  · intro hm
    rcases List.mem_cons.mp hm with e | hm
    · exact g3 (List.mem_singleton.mpr e)
    · exact f3 hm
  · intro i v hv
    rw [List.getElem?_map, ← List.getElem?_toArray, hv]
    rfl
end
section
noncomputable def retP (K : Value → Prop) : PoT := fun f _ => match f with
  | .ret v => K v
  | _ => False
noncomputable def Out (D : Fm) (R : Value → Led → Heap → Nat → Prop) (s : Shared) (fl : Flow) (s2 : Shared) : Prop := ∃ v m2 led2 h2 tk, fl = .ret v ∧ s2 = (upS s h2 tk) ∧ Fr D.h₀ D.L h2 m2 ∧ News D.h₀ D.L h2 led2 ∧ R v led2 h2 tk
theorem fn_in {w : World} {k : Nat} {f : Addr} {vs : List Value} {name qual : PySem.Str} {params : Arguments} {body : List Stmt} {scope : Scope} {dV kV doc pm cdv ct' oc : Value} {an od : Option Addr} {osl : Array (Option Value)} {binds : List (PySem.Str × Value)}
    (ho : (hd.heap_39 w.params).lookup f = some ⟨oc, od, .func (fnOf name qual params body scope dV kV doc pm an cdv ct'), osl⟩) (hcd : codeIn (hd.heap_39 w.params) cdv qual = true)
    (hbind : ∀ s : Shared, (hd.heap_39 w.params).In s.heap → BindsTo s (fnOf name qual params body scope dV kV doc pm an cdv ct') ⟨vs, []⟩ binds) (hloc : ∀ y ∈ binds, scope.names.lookup y.1 = some .local)
    (hco : scope.isCoroutine = false) (hgen : scope.isGenerator = false) (hk : scope.kind = .function) (hcell : ∀ x ∈ scope.names, x.2 ≠ .cell) (hdb : scope.names.lookup (Str.ofString "__debug__") = none)
    {mean : ExcName → Option Value} {mg mb : PySem.Str → Option Value} {dp un : Nat} {gd : Option (List Code)} {cn : PySem.Str} {cs : Scope} {a : Addr} {ccd : Value} {cl : List (PySem.Str × Addr)} {outer : List Env} {A₀ : Around} {base h₀ : Heap} {L : Addr} {m : PySem.Str → Option Value} {news : List (Addr × Obj)} {s : Shared} {Q E : Value → Shared → Prop}
    (B : Below A₀ base outer h₀) (F : Fr h₀ L s.heap m) (X : (hd.heap_39 w.params).In h₀) (N : News h₀ L s.heap news) (T : Top hd.view_39 LL mean mg mb h₀) (hkc : cs.kind = .function) (hdp : dp + (k + 1) < recursionLimit) (hu : un + 8 * (k + 1) < cLine)
    (h : ∀ (D : Fm) (s' : Shared) (E' : Value → Shared → Prop), Ok D scope k → D.led₀ = [] → D.S news (fun x => (binds.reverse.lookup x).map norm) s'.heap → PassesOwn (MM D.w) D.A D.env E' →
      wpAny (MM D.w) D.A (execs body D.env) (Out D (fun v led2 h2 tk => Fr h₀ L h2 m → News h₀ L h2 led2 → Q v (upS s h2 tk)) s') E' s') :
    wpAny (MM w) (ktrTop dp un gd cn cs L a ccd cl outer) (PySem.call (.ref f) vs) Q E s := by
  refine wpAny_call ?_
  refine code_def B F X N T rfl rfl hkc ho hcd (by show dp < _; omega) (hbind s (X.keeps F.keep)) hloc ?_ hco hgen hk hcell
  intro g' L' h' FG' F' N' B' X' T'
  refine wpAny_mono (h ⟨w, dp + 1, un + 3, _, qual, scope, L', f, cdv, [], envX cn cs L a ccd cl :: outer, g', []⟩ _ _ ⟨X', ⟨_, _, _, T'⟩, ⟨_, _, B'⟩, rfl, hk, hdb, by show dp + 1 + k < _; omega, by show un + 3 + 8 * k < _; omega⟩ rfl
    ⟨_, F', N', fun x p hp => Option.map_eq_some_iff.mp hp, fun _ h => nomatch h⟩ (by first | passes_own | with_unfolding_all passes_own)) (fun fl s2 q => ?_) fun _ _ q => q
  obtain ⟨v, m2, led2, h2, tk, rfl, rfl, F2, N2, r⟩ := q
  exact leaveK_ F2 N2 r
theorem fn_ok {w : World} {k : Nat} {f : Addr} {vs : List Value} {name qual : PySem.Str} {params : Arguments} {body : List Stmt} {scope : Scope} {dV kV doc pm cdv ct' oc : Value} {an od : Option Addr} {osl : Array (Option Value)} {binds : List (PySem.Str × Value)} {K : Value → Prop}
    (ho : (hd.heap_39 w.params).lookup f = some ⟨oc, od, .func (fnOf name qual params body scope dV kV doc pm an cdv ct'), osl⟩) (hcd : codeIn (hd.heap_39 w.params) cdv qual = true)
    (hbind : ∀ s : Shared, (hd.heap_39 w.params).In s.heap → BindsTo s (fnOf name qual params body scope dV kV doc pm an cdv ct') ⟨vs, []⟩ binds) (hloc : ∀ y ∈ binds, scope.names.lookup y.1 = some .local)
    (hco : scope.isCoroutine = false) (hgen : scope.isGenerator = false) (hk : scope.kind = .function) (hcell : ∀ x ∈ scope.names, x.2 ≠ .cell) (hdb : scope.names.lookup (Str.ofString "__debug__") = none)
    (h : ∀ D : Fm, Ok D scope k → Ex D body (fun x => (binds.reverse.lookup x).map norm) (retP K)) : Fn (k + 1) w f vs (fun v => K (norm v)) :=
  fun _ _ _ _ _ _ _ _ _ _ _ _ _ _ _ _ _ news s Q E B F X N T hkc hdp hu hret => fn_in ho hcd hbind hloc hco hgen hk hcell hdb B F X N T hkc hdp hu fun D s' E' O _ S hO =>
    h D O news s' _ E' S hO fun fl _ h2 tk hp S2 => match fl, hp with
      | .ret v, hp => let ⟨m2, F2, N2, _⟩ := S2
        ⟨v, m2, news, h2, tk, rfl, rfl, F2, N2, fun kF kN => hret v h2 tk hp kF kN⟩
variable {D : Fm} {sc : Scope} {n : Nat} {g : G} {K : Value → Prop} {pos : Pos}
noncomputable def It (D : Fm) (o : Value) (sp : Value → (Value → Prop) → Prop) : Prop := ∀ (o' i : Value) (g : G) (K : Value → Prop) (value slice : PySem.Expr), norm o' = o → subscripted slice false o' i = operate [o', i] (getItem o' i) → sp (norm i) K → Tr D (subscriptTail value slice o' i) g fun v => K (norm v)
theorem ev_get {o : Value} {sp : Value → (Value → Prop) → Prop} {v i : PySem.Expr} (it : It D o sp) (hs : ∀ o k, subscripted i false o k = operate [o, k] (getItem o k)) (h : Ev D v g fun p => p = o ∧ Ev D i g fun k => sp k K) : Ev D (.Subscript v i pos) g K := fun led s Q E S hq =>
  Subscript_ (h led s _ E S fun o' _ _ h S => h.2 led _ _ E S fun u _ _ h' S => it o' u g K _ _ h.1 (hs _ _) h' led _ Q E S hq)
theorem norm_ref {o : Value} {a : Addr} (h : norm o = .ref a) : o = .ref a := by
  cases o <;> first | exact h | cases h
@[reducible] noncomputable def spTab (i : Value) (K : Value → Prop) : Prop := isInt i fun k => 0 ≤ k ∧ k < 256 ∧ K (.int (tbl.getD k.toNat 0) 0)
theorem itTab (O : Ok D sc n) : It D (.ref 39) spTab := fun o i g K value slice e hs h led s Q E S hq => by
  obtain rfl := norm_ref e
  obtain ⟨k, t, rfl, h1, h2, h3⟩ := isInt_inv h
  have S0 := S
  obtain ⟨m, F, _⟩ := S
  exact tab_item F O.X h1 h2 (fun t => hq _ s.heap s.toks h3 S0) hs
@[reducible] noncomputable def spDec (i : Value) (K : Value → Prop) : Prop := isStr i fun x => ∃ d, x = sg d ∧ 0 ≤ d ∧ d < 85 ∧ K (.int d 0)
theorem itTop (O : Ok D sc n) {a : Addr} (hT : TopD D.w.params a) {x : PySem.Str} {t : Tok} {v : Value} {led : Led} {s : Shared} {Q E : Value → Shared → Prop} {value slice : PySem.Expr} (hv : nsIn (hd.heap_39 D.w.params) a x = some (some v)) (hs : subscripted slice false (.ref a) (.str x t) = operate [.ref a, .str x t] (getItem (.ref a) (.str x t))) (S : D.S led g s.heap)
    (hq : ∀ v h tk, K (norm v) → D.S led g h → Q v (upS s h tk)) (h : K (norm v)) : wpAny (MM D.w) D.A (subscriptTail value slice (.ref a) (.str x t)) Q E s := by
  have S0 := S
  obtain ⟨m, F, _⟩ := S
  exact topItem_K F O.X hT.1 hT.2 hv (hq _ s.heap _ h S0) hs
theorem itDec (O : Ok D sc n) : It D (.ref 56) spDec := fun o i g K value slice e hs h led s Q E S hq => by
  obtain rfl := norm_ref e
  obtain ⟨x, t, rfl, d, rfl, h0, h1, h⟩ := isStr_inv h
  obtain ⟨v, e1, e2⟩ := dec_at (P := D.w.params) h0 h1
  exact itTop O (top56 _) e1 hs S hq (by rw [e2]; exact h)
@[reducible] noncomputable def spChr (i : Value) (K : Value → Prop) : Prop := isInt i fun d => 0 ≤ d ∧ d < 85 ∧ K (.str (sg d) 0)
theorem itChr : It D (.str b85S 0) spChr := fun o i g K value slice e hs h led s Q E S hq => by
  obtain ⟨u, rfl⟩ : ∃ t, o = .str b85S t := by cases o <;> first | (cases e; done) | (cases e; exact ⟨_, rfl⟩)
  obtain ⟨d, t, rfl, h1, h2, h3⟩ := isInt_inv h
  have e85 : (b85S.length : Int) = 85 := by
    have : b85S.length = 85 := by show b85S.cps.size = 85; rw [b85S_cps, List.size_toArray, b85_len]
    rw [this]; rfl
  obtain ⟨T, id, g1, g2, g3⟩ := SB.item (prog := Challenge.rw_iu0046_01.row.prog) (w := D.w) (A := D.A) (E := E) (s := s) (x := b85S) (t := u) (i := d) (u := t) (Q := Q) (fitsSsize_of (N := 9223372036854775808) (Int.le_trans (by decide) h1) (Int.lt_trans h2 (by decide)) (Int.le_refl _)) (charAt_isSome (Int.le_trans (by rw [e85]; decide) h1) (by rw [e85]; exact h2)) (hq _ s.heap _ (by rw [sg_item h1 h2]; exact h3) S)
  exact tail_any g2 g1 g3 hs
theorem blen : Blt (Str.ofString "len") (.builtin "len") := ⟨fun P => by kernel_rfl, by kernel_rfl, by decide⟩
theorem babs : Blt (Str.ofString "abs") (.builtin "abs") := ⟨fun P => by kernel_rfl, by kernel_rfl, by decide⟩
theorem brange : Blt (Str.ofString "range") (.type "range") := ⟨fun P => by kernel_rfl, boot_range, by decide⟩
@[reducible] noncomputable def spLen (v : Value) (K : Value → Prop) : Prop := (v = .ref 39 ∧ K (.int 256 0)) ∨ isStr v fun x => x.length ≤ 1000 ∧ K (.int (x.length : Int) 0)
theorem len_ok (O : Ok D sc n) : BOk D "len" spLen := fun v g K h led s Q E S hq => by
  rcases h with ⟨e, h⟩ | h
  · obtain rfl := norm_ref e
    have S0 := S
    obtain ⟨m, F, _⟩ := S
    exact tab_len F O.X (hq _ s.heap _ h S0)
  · obtain ⟨x, t, rfl, h2, h3⟩ := isStr_inv h
    exact len_str (by omega) (hq _ s.heap _ h3 S)
@[reducible] noncomputable def spAbs (v : Value) (K : Value → Prop) : Prop := isInt v fun x => K (.int (if x < 0 then -x else x) 0)
theorem abs_ok : BOk D "abs" spAbs := fun v g K h led s Q E S hq => by
  obtain ⟨x, t, rfl, h⟩ := isInt_inv h
  exact call_abs_int fun u tk => hq _ s.heap _ h S
theorem cut {k m : Int} {P Q : Prop} (h1 : k < m → P) (h2 : ¬ k < m → Q) : (decide (k < m) = true → P) ∧ (decide (k < m) = false → Q) := ⟨fun c => h1 (of_decide_eq_true c), fun c => h2 (of_decide_eq_false c)⟩
theorem pw {x n : Int} {P : Prop} (h0 : (decide (0 ≤ n) && decide (n ≤ 1000000) && decide (x.natAbs < 2 ^ 64)) = true) (h : P) : 0 ≤ n ∧ n ≤ 1000000 ∧ x.natAbs < 2 ^ 64 ∧ P := by
  rw [Bool.and_eq_true, Bool.and_eq_true] at h0
  exact ⟨of_decide_eq_true h0.1.1, of_decide_eq_true h0.1.2, of_decide_eq_true h0.2, h⟩
@[reducible] noncomputable def sp29 (vs : List Value) (K : Value → Prop) : Prop := s1 vs fun v => isInt v fun n => K (.str (tcode n) 0)
set_option maxRecDepth 100000 in
theorem f29 : FnS 1 29 sp29 := ⟨fun P => by kernel_rfl, fun w vs K h => by
  obtain ⟨v, rfl, h1⟩ := s1_inv h
  obtain ⟨n, t, rfl, h2⟩ := isInt_inv h1
  clear h
  refine fn_ok (binds := [(Str.ofString "maxnum", .int n t)]) (by k_is) (by k_is) (fun s _ => BindsTo.of_eq rfl) (locs rfl) rfl rfl rfl (by decide) rfl fun D O => ?_
  unfold tcode at h2
  refine ex_if (ts_cmp rfl (ev_local O rfl rfl (ev_int (cut (fun c => ?_) fun c1 => ?_))))
  · rw [if_pos c] at h2
    exact ex_ret (ev_str h2)
  rw [if_neg c1] at h2
  refine ex_if (ts_cmp rfl (ev_local O rfl rfl (ev_bin (ev_int (ev_int (pw rfl (cut (fun c => ?_) fun c2 => ?_)))))))
  · rw [if_pos (show n < 65536 from c)] at h2
    exact ex_ret (ev_str h2)
  rw [if_neg (show ¬ n < 65536 from c2)] at h2
  refine ex_if (ts_cmp rfl (ev_local O rfl rfl (ev_bin (ev_bin (ev_int (ev_int (pw rfl (ev_int (cut (fun c => ?_) fun c3 => ?_)))))))))
  · rw [if_pos (show n < 2147483647 from c)] at h2
    exact ex_ret (ev_str h2)
  rw [if_neg (show ¬ n < 2147483647 from c3)] at h2
  refine ex_if (ts_cmp rfl (ev_local O rfl rfl (ev_bin (ev_int (ev_int (pw rfl (cut (fun c => ?_) fun c4 => ?_)))))))
  · rw [if_pos (show n < 4294967296 from c)] at h2
    exact ex_ret (ev_str h2)
  rw [if_neg (show ¬ n < 4294967296 from c4)] at h2
  refine ex_if (ts_cmp rfl (ev_local O rfl rfl (ev_bin (ev_bin (ev_int (ev_int (pw rfl (ev_int (cut (fun c => ?_) fun c5 => ?_)))))))))
  · rw [if_pos (show n < 9223372036854775807 from c)] at h2
    exact ex_ret (ev_str h2)
  rw [if_neg (show ¬ n < 9223372036854775807 from c5)] at h2
  exact ex_ret (ev_str h2)⟩
end
section
@[reducible] noncomputable def sp36 (vs : List Value) (K : Value → Prop) : Prop := s1 vs fun v => isInt v fun n => 0 ≤ n ∧ n < 70 ∧ K (.int (2 ^ n.toNat - 1) 0)
set_option maxRecDepth 100000 in
theorem f36 : FnS 1 36 sp36 := ⟨fun P => by kernel_rfl, fun w vs K h => by
  obtain ⟨v, rfl, h1⟩ := s1_inv h
  obtain ⟨n, t, rfl, h0, h2, h3⟩ := isInt_inv h1
  refine fn_ok (binds := [(Str.ofString "bitcount", .int n t)]) (by k_is) (by k_is) (fun s _ => BindsTo.of_eq rfl) (locs rfl) rfl rfl rfl (by decide) rfl fun D O => ?_
  refine ex_ret (ev_inv (ev_bin (ev_inv (ev_int (ev_local O rfl rfl ⟨h0, by omega, by decide, ?_⟩)))))
  show K (.int (Builtin.bitNot (Builtin.bitNot 0 * 2 ^ n.toNat)) 0)
  rw [bitNot_shift]
  exact h3⟩
@[reducible] noncomputable def sp53 (vs : List Value) (K : Value → Prop) : Prop := s1 vs fun v => spTab v K
set_option maxRecDepth 100000 in
theorem f53 : FnS 1 53 sp53 := ⟨fun P => by kernel_rfl, fun w vs K h => by
  obtain ⟨v, rfl, h1⟩ := s1_inv h
  refine fn_ok (binds := [(Str.ofString "n", v)]) (by k_is) (by k_is) (fun s _ => BindsTo.of_eq rfl) (locs rfl) rfl rfl rfl (by decide) rfl fun D O => ?_
  exact ex_ret (ev_get (itTab O) (fun _ _ => rfl) (ev_glob O rfl rfl (fun e => nomatch e) ⟨rfl, ev_local O rfl rfl h1⟩))⟩
noncomputable def BV (x : Int) (n : Nat) (g : G) : Prop := ∃ l u, g (Str.ofString "low") = some (.int l 0) ∧ g (Str.ofString "high") = some (.int u 0) ∧ g (Str.ofString "key") = some (.int x 0) ∧ g (Str.ofString "rows") = some (.ref 39) ∧ BInv x l u ∧ n = (u - l).toNat
@[reducible] noncomputable def sp21 (vs : List Value) (K : Value → Prop) : Prop := s2 vs fun o v => o = .ref 39 ∧ isInt v fun x => ∀ r, BInv x r r → K (.int r 0)
set_option maxRecDepth 100000 in
theorem f21 : FnS 1 21 sp21 := ⟨fun P => by kernel_rfl, fun w vs K h => by
  obtain ⟨o, v, rfl, e, h1⟩ := s2_inv h
  obtain rfl := norm_ref e
  obtain ⟨x, t, rfl, h2⟩ := isInt_inv h1
  refine fn_ok (binds := [(Str.ofString "rows", .ref 39), (Str.ofString "key", .int x t)]) (by k_is) (by k_is) (fun s _ => BindsTo.of_eq rfl) (locs rfl) rfl rfl rfl (by decide) rfl fun D O => ?_
  refine ex_set O rfl (fun _ => rfl) (ev_int ?_)
  refine ex_set O rfl (fun _ => rfl) (ev_blt O blen (len_ok O) rfl ⟨fun _ _ => rfl, trivial⟩ (ev_local O rfl rfl (.inl ⟨rfl, ?_⟩)))
  refine ex_while (BV x) (fun g => ∃ l, g (Str.ofString "low") = some (.int l 0) ∧ BInv x l l) ⟨256, 0, 256, rfl, rfl, rfl, rfl, binv_start x, rfl⟩ ?_ fun g ⟨l, ha, he⟩ => ex_ret (ev_local O rfl ha (h2 l he))
  rintro n g ⟨l, u, ha, hb, hc, hd, he, hf⟩
  refine ts_cmp rfl (ev_local O rfl ha (ev_local O rfl hb (cut (fun lt => ?_) fun ge => ?_)))
  · refine ex_set O rfl (fun _ => rfl) (ev_bin (ev_bin (ev_local O rfl ha (ev_local O rfl hb (ev_int ⟨by decide, PyProof.noPylong_small (by decide), ?_⟩)))))
    refine ex_if (ts_cmp rfl (ev_get (itTab O) (fun _ _ => rfl) (ev_local O rfl hd ⟨rfl, ev_local O rfl rfl ⟨bmid_lo he lt, bmid_hi he lt, ?_⟩⟩)))
    refine ev_local O rfl hc (cut (fun hx => ?_) fun hx => ?_)
    · refine ex_set O rfl (fun _ => rfl) (ev_bin (ev_local O rfl rfl (ev_int (ex_nil (ex_nil ?_)))))
      exact ⟨_, by rw [hf]; exact bmeas_up lt, _, _, rfl, hb, hc, hd, binv_up he lt hx, rfl⟩
    · refine ex_set O rfl (fun _ => rfl) (ev_local O rfl rfl (ex_nil (ex_nil ?_)))
      exact ⟨_, by rw [hf]; exact bmeas_dn lt, _, _, ha, rfl, hc, hd, binv_dn he lt hx, rfl⟩
  · exact ⟨l, ha, binv_end he ge⟩⟩
@[reducible] noncomputable def sp46 (vs : List Value) (K : Value → Prop) : Prop := s1 vs fun v => (v = .none ∧ K (.int 0 0)) ∨ isInt v fun x => ∀ r, IsByte x r → K (.int r 0)
set_option maxRecDepth 100000 in
theorem f46 : FnS 2 46 sp46 := ⟨fun P => by kernel_rfl, fun w vs K h => by
  obtain ⟨v, rfl, h1⟩ := s1_inv h
  refine fn_ok (binds := [(Str.ofString "length", v)]) (by k_is) (by k_is) (fun s _ => BindsTo.of_eq rfl) (locs rfl) rfl rfl rfl (by decide) rfl fun D O => ?_
  refine ex_if (ts_none (ev_local O rfl rfl ?_))
  rcases h1 with ⟨e, h1⟩ | h1
  · exact .inl ⟨e, fun _ => ex_ret (ev_int h1), fun e => nomatch e⟩
  · obtain ⟨x, t, rfl, h2⟩ := isInt_inv h1
    refine .inr ⟨(fun e => nomatch e), fun _ => ex_nil ?_⟩
    refine ex_if (ts_cmp rfl (ev_local O rfl rfl (ev_int ⟨fun c => ?_, fun c => ?_⟩)))
    · exact ex_ret (ev_int (h2 255 (big_byte (of_decide_eq_true c))))
    · refine ex_ret (ev_call O f21 (Nat.le_refl _) rfl rfl ⟨fun _ _ => rfl, fun _ _ => rfl, trivial⟩ (ev_glob O rfl rfl (fun e => nomatch e) (ev_local O rfl rfl ⟨rfl, fun r hr => h2 r (binv_byte hr (Int.not_le.mp (of_decide_eq_false c)))⟩)))⟩
noncomputable def sz (b : Bool) : Nat := if b = true then 10 else 5
theorem sz_hi (b : Bool) : sz b ≤ 10 := by cases b <;> decide
variable {D : Fm} {sc : Scope} {n : Nat} {g : G} {K : Value → Prop}
theorem ife {t : PySem.Expr} {b : Bool} {k k' : Nat} {pos pos' q : Pos} (h : Ts D t g fun c => c = b ∧ K (.int (sz b : Nat) 0)) : Ev D (.IfExp t (.Constant (.int 10) k pos) (.Constant (.int 5) k' pos') q) g K :=
  ev_ife fun led s Q E S hq => h led s Q E S fun c h tk hc => hq c h tk (by
    obtain ⟨rfl, hc⟩ := hc
    cases c
    · exact ⟨(fun e => nomatch e), fun _ => ev_int hc⟩
    · exact ⟨fun _ => ev_int hc, fun e => nomatch e⟩)
theorem ts_local (O : Ok D sc n) {x : PySem.Str} {pos : Pos} {b : Bool} {J : Bool → Prop} (h1 : sc.names.lookup x = some .local) (h2 : g x = some (.bool b)) (h : J b) : Ts D (.Name x pos) g J := ts_ev (fun _ => rfl) (ev_local O h1 h2 h)
noncomputable def TV (x : Int) (j : Nat) (g : G) : Prop := g (Str.ofString "x") = some (.int (x / 85 ^ j) 0) ∧ g (Str.ofString "rems") = some (.str (t85 j x) 0)
@[reducible] noncomputable def sp67 (vs : List Value) (K : Value → Prop) : Prop := match vs with
  | v :: r => isInt v fun x => match r with
    | [] => K (.str (t85 5 x) 0)
    | _ => s1 r fun u => tru u fun b => K (.str (t85 (sz b) x) 0)
  | _ => False
set_option maxRecDepth 100000 in
theorem f67_go {w : World} {vs : List Value} {K : Value → Prop} {x : Int} {t : Tok} {b : Bool} (h : K (.str (t85 (sz b) x) 0)) (e : vs = [.int x t, .bool b] ∨ vs = [.int x t] ∧ b = false) : Fn 1 w 67 vs (fun v => K (norm v)) := by
  refine fn_ok (binds := [(Str.ofString "x", .int x t), (Str.ofString "islong", .bool b)]) (by k_is) (by k_is) (fun s X' => by rcases e with e | ⟨e, e'⟩ <;> subst e <;> (try subst e') <;> exact binds_K X' rfl (by k_is) rfl rfl rfl) (locs rfl) rfl rfl rfl (by decide) rfl fun D O => ?_
  refine ex_set O rfl (fun _ => rfl) (ife (ts_local O rfl rfl ⟨rfl, ?_⟩))
  refine ex_set O rfl (fun _ => rfl) (ev_str ?_)
  have hs := sz_hi b
  refine ex_range (I := TV x) O rfl (fun _ _ => rfl) rfl brange ⟨fun _ _ => rfl, trivial⟩ (ev_local O rfl rfl ⟨by omega, by omega, ⟨by rw [Int.pow_zero, Int.ediv_one]; rfl, rfl⟩, ?_, ?_⟩)
  · rintro i g v hi rfl ⟨ha, hb⟩
    refine ex_set O rfl (fun _ => rfl) (ev_bin (ev_get itChr (fun _ _ => rfl) (ev_glob O rfl rfl (fun e => nomatch e) ⟨rfl, ?_⟩)))
    refine ev_bin (ev_local O rfl ha (ev_int ⟨by decide, fm_lo _ (by decide), fm_hi _ (by decide), ?_⟩))
    refine ev_local O rfl hb ⟨rfl, ?_, ?_⟩
    · rw [t85_len]
      show 1 + i ≤ _
      rw [sizeLine_eq]
      omega
    refine ex_aug O rfl ha (ev_int ⟨by decide, PyProof.noPylong_small (by decide), ex_nil ⟨?_, ?_⟩⟩)
    · show some (Value.int _ 0) = _
      rw [div_step]
    · show some (Value.str _ 0) = _
      rw [← t85_step]
  · intro g H
    exact ex_ret (ev_local O rfl H.2 (by rw [Int.toNat_natCast]; exact h))
theorem f67 : FnS 1 67 sp67 := ⟨fun P => by kernel_rfl, fun w vs K h => by
  rcases vs with _ | ⟨v, r⟩
  · exact h.elim
  obtain ⟨x, t, rfl, h1⟩ := isInt_inv h
  rcases r with _ | ⟨u, r⟩
  · exact f67_go (b := false) h1 (.inr ⟨rfl, rfl⟩)
  · obtain ⟨u', e, h2⟩ := s1_inv (vs := u :: r) h1
    obtain ⟨b, rfl, h3⟩ := tru_inv h2
    exact f67_go h3 (.inl (by rw [e]))⟩
end
noncomputable def sp74 (vs : List Value) (K : Value → Prop) : Prop := s1 vs fun v => isStr v fun x => ∃ k n, x = t85 k n ∧ 0 ≤ n ∧ n < 85 ^ k ∧ K (.int n 0)
set_option maxRecDepth 100000 in
theorem f74 : FnS 1 74 sp74 := ⟨fun P => by kernel_rfl, fun w vs K h => by
  obtain ⟨v, rfl, h1⟩ := s1_inv h
  obtain ⟨_, t, rfl, k, n, rfl, n0, n1, h2⟩ := isStr_inv h1
  refine fn_ok (binds := [(Str.ofString "text", .str (t85 k n) t)]) (by k_is) (by k_is) (fun s _ => BindsTo.of_eq rfl) (locs rfl) rfl rfl rfl (by decide) rfl fun D O => ?_
  refine ex_set O rfl (fun _ => rfl) (ev_int ?_)
  refine ex_text (I := fun j g => g (Str.ofString "acc") = some (.int (n / 85 ^ (k - j)) 0)) O rfl (fun _ _ => rfl) (ev_local O rfl rfl ⟨?_, ?_, ?_⟩)
  · show some (Value.int 0 0) = some (.int (n / 85 ^ k) 0)
    rw [Int.ediv_eq_zero_of_lt n0 n1]
  · rintro i g v hi ⟨c, hc, rfl⟩ H
    have hi : i < k := by rw [← t85_len k n]; exact hi
    obtain rfl : _ = c := Option.some.inj ((low_get n k i hi).symm.trans (List.getElem?_toArray.symm.trans hc))
    refine ex_set O rfl (fun _ => rfl) (ev_bin (ev_bin (ev_local O rfl H (ev_int ⟨.of_right (by decide), ?_⟩))))
    refine ev_get (itDec O) (fun _ _ => rfl) (ev_glob O rfl rfl (fun e => nomatch e) ⟨rfl, ev_local O rfl rfl ⟨_, rfl, dig_lo _, dig_hi _, ex_nil ?_⟩⟩)
    have e := acc_next n (k - (i + 1))
    rw [show k - (i + 1) + 1 = k - i from Nat.sub_add_cancel (Nat.sub_pos_of_lt hi)] at e
    exact congrArg (fun z => some (Value.int z 0)) e
  · intro g H
    refine ex_ret (ev_local O rfl H ?_)
    rw [show k - (t85 k n).cps.size = 0 by rw [show (t85 k n).cps.size = k from t85_len k n, Nat.sub_self], Int.pow_zero, Int.ediv_one]
    exact h2⟩
noncomputable def OV (n : Int) (j : Nat) (g : G) : Prop := g (Str.ofString "number") = some (.int n 0) ∧ (1 ≤ j → ¬ n < 256) ∧ (2 ≤ j → ¬ n < 65536) ∧ (3 ≤ j → ¬ n < 4294967296)
theorem oct_turn {n : Int} {i : Nat} {v : Value} (hi : i < 3) (hv : [Value.int 1 0, .int 2 0, .int 4 0][i]? = some v) (h1 : 1 ≤ i → ¬ n < 256) (h2 : 2 ≤ i → ¬ n < 65536) : ∃ s : Int, v = .int s 0 ∧ 0 ≤ s ∧ s ≤ 1000000 ∧ (n < 256 ^ s.toNat → oct n = s) ∧ (¬ n < 256 ^ s.toNat → (1 ≤ i + 1 → ¬ n < 256) ∧ (2 ≤ i + 1 → ¬ n < 65536) ∧ (3 ≤ i + 1 → ¬ n < 4294967296)) := by
  have e1 : (256 : Int) ^ (1 : Int).toNat = 256 := rfl
  have e2 : (256 : Int) ^ (2 : Int).toNat = 65536 := rfl
  have e3 : (256 : Int) ^ (4 : Int).toNat = 4294967296 := rfl
  rcases i with _ | _ | _ | i
  · cases hv
    refine ⟨1, rfl, by decide, by decide, fun h => ?_, fun h => ?_⟩
    · rw [e1] at h; unfold oct; rw [if_pos h]
    · rw [e1] at h; exact ⟨fun _ => h, fun q => by omega, fun q => by omega⟩
  · cases hv
    have h1 := h1 (by decide)
    refine ⟨2, rfl, by decide, by decide, fun h => ?_, fun h => ?_⟩
    · rw [e2] at h; unfold oct; rw [if_neg h1, if_pos h]
    · rw [e2] at h; exact ⟨fun _ => h1, fun _ => h, fun q => by omega⟩
  · cases hv
    have h1 := h1 (by decide)
    have h2 := h2 (by decide)
    refine ⟨4, rfl, by decide, by decide, fun h => ?_, fun h => ?_⟩
    · rw [e3] at h; unfold oct; rw [if_neg h1, if_neg h2, if_pos h]
    · rw [e3] at h; exact ⟨fun _ => h1, fun _ => h2, fun _ => h⟩
  · omega
@[reducible] noncomputable def sp88 (vs : List Value) (K : Value → Prop) : Prop := s1 vs fun v => isInt v fun n => K (.int (oct n) 0)
set_option maxRecDepth 100000 in
theorem f88 : FnS 1 88 sp88 := ⟨fun P => by kernel_rfl, fun w vs K h => by
  obtain ⟨v, rfl, h1⟩ := s1_inv h
  obtain ⟨n, t, rfl, h2⟩ := isInt_inv h1
  clear h h1
  refine fn_ok (binds := [(Str.ofString "number", .int n t)]) (by k_is) (by k_is) (fun s _ => BindsTo.of_eq rfl) (locs rfl) rfl rfl rfl (by decide) rfl fun D O => ?_
  refine ex_tuple (I := OV n) O rfl (fun _ _ => rfl) ⟨fun _ _ => rfl, fun _ _ => rfl, fun _ _ => rfl, trivial⟩ (by decide) (ev_int (ev_int (ev_int ⟨⟨rfl, fun q => by omega, fun q => by omega, fun q => by omega⟩, ?_, ?_⟩)))
  · rintro i g v hi hv ⟨H, h3, h4, _⟩
    obtain ⟨s, rfl, h5, h6, h7, h8⟩ := oct_turn hi hv h3 h4
    refine ex_if (ts_cmp rfl (ev_local O rfl H (ev_bin (ev_int (ev_local O rfl rfl ⟨h5, h6, by decide, cut (fun c => ?_) fun c => ?_⟩)))))
    · refine ex_ret (ev_local O rfl rfl ?_)
      rw [← h7 c]
      exact h2
    · exact ex_nil (ex_nil ⟨H, h8 c⟩)
  · rintro g ⟨H, h3, h4, h5⟩
    refine ex_ret (ev_int ?_)
    have h3 := h3 (by decide)
    have h4 := h4 (by decide)
    have h5 := h5 (by decide)
    unfold oct at h2
    rw [if_neg h3, if_neg h4, if_neg h5] at h2
    exact h2⟩
theorem t85_back {K : Value → Prop} {x : Int} {k : Nat} (h0 : 0 ≤ x) (h1 : x < 85 ^ k) (h : K (.int x 0)) : sp74 [.str (t85 k x) 0] K := ⟨k, x, rfl, h0, h1, h⟩
theorem t85_sp {K : Value → Prop} {b : Bool} {x : Int} (h : K (.int (sz b : Nat) 0)) : spLen (.str (t85 (sz b) x) 0) K := by
  refine .inr ⟨?_, ?_⟩
  · rw [t85_len]; exact Nat.le_trans (sz_hi b) (by decide)
  · rw [t85_len]; exact h
noncomputable def LV (x y : Int) (b : Bool) (g : G) : Prop := g (Str.ofString "one") = some (.str (t85 (sz b) x) 0) ∧ g (Str.ofString "two") = some (.str (t85 (sz b) y) 0) ∧ g (Str.ofString "size") = some (.int (sz b : Nat) 0) ∧ g (Str.ofString "first") = some (.int x 0) ∧ g (Str.ofString "second") = some (.int y 0)
theorem regen {D : Fm} {r : List Stmt} {P : PoT} {C : G → Prop} {g : G} (hg : C g) (h : ∀ g', C g' → Ex D r g' P) : Ex D r g P := h g hg
@[reducible] noncomputable def sp95 (vs : List Value) (K : Value → Prop) : Prop := s3 vs fun u v b => isInt u fun x => isInt v fun y => tru b fun b => 0 ≤ x ∧ x < 85 ^ sz b ∧ 0 ≤ y ∧ y < 85 ^ sz b ∧ K (.bool true)
set_option maxRecDepth 100000 in
theorem f95 : FnS 2 95 sp95 := ⟨fun P => by kernel_rfl, fun w vs K h => by
  obtain ⟨v1, v2, v3, rfl, h⟩ := s3_inv h
  obtain ⟨x, t, rfl, h⟩ := isInt_inv h
  obtain ⟨y, u, rfl, h⟩ := isInt_inv h
  obtain ⟨b, rfl, x0, x1, y0, y1, h⟩ := tru_inv h
  refine fn_ok (binds := [(Str.ofString "first", .int x t), (Str.ofString "second", .int y u), (Str.ofString "long", .bool b)]) (by k_is) (by k_is) (fun s _ => BindsTo.of_eq rfl) (locs rfl) rfl rfl rfl (by decide) rfl fun D O => ?_
  refine ex_set O rfl (fun _ => rfl) (ife (ts_local O rfl rfl ⟨rfl, ?_⟩))
  refine ex_set2 O rfl rfl (fun _ _ _ _ _ => rfl) ⟨fun _ _ => rfl, fun _ _ => rfl, trivial⟩ ?_
  refine ev_call O f67 (Nat.le_refl _) rfl rfl ⟨fun _ _ => rfl, fun _ _ => rfl, trivial⟩ (ev_local O rfl rfl (ev_local O rfl rfl ?_))
  refine ev_call O f67 (Nat.le_refl _) rfl rfl ⟨fun _ _ => rfl, fun _ _ => rfl, trivial⟩ (ev_local O rfl rfl (ev_local O rfl rfl ?_))
  refine regen (C := LV x y b) ?_ fun g ⟨Ha, Hb, Hc, Hd, He⟩ => ?_
  · exact ⟨rfl, rfl, rfl, rfl, rfl⟩
  refine ex_if (ts_bool (tb_or (ts_cmp rfl (ev_blt O blen (len_ok O) rfl ⟨fun _ _ => rfl, trivial⟩ (ev_local O rfl Ha (t85_sp (ev_local O rfl Hc ⟨bne_self_eq_false _, ?_⟩)))))))
  refine tb_or (ts_cmp rfl (ev_blt O blen (len_ok O) rfl ⟨fun _ _ => rfl, trivial⟩ (ev_local O rfl Hb (t85_sp (ev_local O rfl Hc ⟨bne_self_eq_false _, ?_⟩)))))
  refine tb_or (ts_cmp rfl (ev_cmp rfl (ev_local O rfl Ha (ev_local O rfl Hb (.inl ⟨rfl, ev_cmp rfl (ev_local O rfl Hd (ev_local O rfl He ⟨rfl, ?_, ?_⟩))⟩)))))
  · rw [t85_lt x0 x1 y0 y1]; exact bne_self_eq_false _
  refine tb_or (ts_cmp rfl (ev_cmp rfl (ev_local O rfl Ha (ev_local O rfl Hb (.inr ⟨rfl, ev_cmp rfl (ev_local O rfl Hd (ev_local O rfl He ⟨rfl, ?_, ?_⟩))⟩)))))
  · rw [t85_eq x0 x1 y0 y1]; exact bne_self_eq_false _
  refine tb_nil ⟨(fun e => nomatch e), fun _ => ex_nil ?_⟩
  refine ex_ret (ev_and (ev_cmp rfl (ev_call O f74 (Nat.le_refl _) rfl rfl ⟨fun _ _ => rfl, trivial⟩ (ev_local O rfl Ha ?_))))
  refine t85_back x0 x1 ?_
  refine ev_local O rfl Hd ⟨congrArg Value.bool (beq_self_eq_true _), ?_⟩
  refine ev_cmp rfl (ev_call O f74 (Nat.le_refl _) rfl rfl ⟨fun _ _ => rfl, trivial⟩ (ev_local O rfl Hb ?_))
  refine t85_back y0 y1 ?_
  refine ev_local O rfl He ?_
  show K (.bool (y == y))
  rw [beq_self_eq_true]
  exact h⟩
section
variable {D : Fm} {sc : Scope} {n : Nat} {g : G} {P : PoT} {pos : Pos}
theorem st_pair (O : Ok D sc n) {x y : PySem.Str} {p1 p2 tp q : Pos} {k k' : Nat} {e₁ e₂ : PySem.Expr} (h1 : sc.names.lookup x = some .local) (h2 : sc.names.lookup y = some .local)
    (hw : ∀ cn L a ccd cl, swappedStores [.Tuple [.Name x p1, .Name y p2] k tp] (.Tuple [e₁, e₂] k' q) (envX cn sc L a ccd cl) = pure none) (hs : star [e₁, e₂])
    (h : Ev D e₁ g fun a => Ev D e₂ g fun b => P .next (upd (upd g x a) y b)) : Ex1 D (.Assign [.Tuple [.Name x p1, .Name y p2] k tp] (.Tuple [e₁, e₂] k' q) pos) g P := fun led s _ E S _ hq => by
  refine Assign_Tuple (Tuple_ (args_snd (K := fun vs => s2 vs fun a b => P .next (upd (upd g x a) y b)) hs h led s _ E S fun vs _ _ h S => ?_)) rfl (by have := hw D.cn D.L D.a D.ccd D.cl; rw [← O.e] at this; exact this)
  obtain ⟨a, b, rfl, h'⟩ := s2_inv h.2
  obtain ⟨m, F, N, H, hl⟩ := S
  refine newTuple_N F N (fun h4 F4 N4 => unpackN_ F4 N4 (News.isTup N4 (.head _)) rfl rfl rfl fun h5 F5 N5 => ?_) (by rw [sizeLine_eq]; show 2 ≤ 16777216; decide)
  exact assignInOrder_cons (PyProof.Rows.assign_Name (store_snd (s := s) (led := led) O h1 ⟨m, F5, fun p hp => N5 p (.tail _ hp), H, hl⟩ fun h6 t6 S => assignInOrder_cons (PyProof.Rows.assign_Name (store_snd (s := s) O h2 S fun h7 t7 S => assignInOrder_nil (hq .next _ h7 t7 h' S)))))
theorem new_snd (O : Ok D sc n) {x : PySem.Str} {p q : Pos} {r : List Stmt} {led : Led} {s : Shared} {Q : Flow → Shared → Prop} {E : Value → Shared → Prop} (h1 : sc.names.lookup x = some .local) (S : D.S led g s.heap)
    (h : ∀ l h tk, (∀ p ∈ led, p.1 < l) → D.S ((l, listOf #[] 0) :: led) (upd g x (.ref l)) h → wpAny (MM D.w) D.A (execs r D.env) Q E (upS s h tk)) : wpAny (MM D.w) D.A (execs (.Assign [.Name x p] (.List [] q) pos :: r) D.env) Q E s := by
  obtain ⟨m, F, N, H, hl⟩ := S
  exact wpAny_execs_cons (wpAny_Assign_Name (List_ (PyProof.Rows.args_nil (newList_N F N (fun h' F' N' => store_snd (s := s) O h1 ⟨m, F', N', H, fun p hp => .tail _ (hl p hp)⟩ fun h6 t6 S => h _ h6 t6 (fun p hp => Heap.lt_size (N p hp).1) S) (Nat.zero_le _)))) rfl)
theorem append_snd (O : Ok D sc n) {x : PySem.Str} {p2 p3 q : Pos} {e : PySem.Expr} {r : List Stmt} {l : Addr} {its : Array Value} {k : Nat} {led : Led} {led' : Value → Led} {s : Shared} {Q : Flow → Shared → Prop} {E : Value → Shared → Prop} {K : Value → Prop} (h1 : sc.names.lookup x = some .local) (h2 : g x = some (.ref l))
    (hm : (l, listOf its k) ∈ led) (U : ∀ v, Upd l (listOf its k) (listOf (its.push v) (k + 1)) led (led' v)) (hz : its.size ≤ sizeLine) (h3 : star [e]) {pl : Env → Sem Bool} (he : ∀ env, eval (.Call (.Attribute (.Name x p2) (Str.ofString "append") p3) [e] [] q) env = (do let ov ← eval (.Name x p2) env; standAt p3.atName; let (f, first) ← holding [ov] (getMethod ov (Str.ofString "append") (pl env)); callWith q f first (backTo q (starEach [e] env)) [])) (hl : D.led₀ = []) (S : D.S led g s.heap) (h : Ev D e g K)
    (hq : ∀ v h tk, K (norm v) → D.S (led' v) g h → wpAny (MM D.w) D.A (execs r D.env) Q E (upS s h tk)) : wpAny (MM D.w) D.A (execs (.Expr (.Call (.Attribute (.Name x p2) (Str.ofString "append") p3) [e] [] q) pos :: r) D.env) Q E s := by
  have hi : interactive D.env = false := by
    show (D.cs.kind == .module && _) = false
    rw [O.k]
    rfl
  refine wpAny_execs_cons (wpAny_Expr_any (MethodCall_ (ev_local (K := (· = Value.ref l)) O h1 h2 rfl led s _ E S fun o h4 t4 e S => ?_) (he _)) hi rfl)
  obtain rfl := norm_ref e
  have S0 := S
  obtain ⟨m, F, N, H, _⟩ := S
  refine listMethod_K N hm PySem.F.slot_list_append PySem.F.type_list_append (callWith_method1 (args_snd (K := fun vs => s1 vs K) h3 h led _ _ E S0 fun vs h5 t5 hv S => ?_) (h3.1 _ _) (star_any h3.2))
  obtain ⟨v, rfl, h'⟩ := s1_inv hv.2
  obtain ⟨m, F, N, H, _⟩ := S
  exact append_K F N (U v) (fun h6 F6 N6 => hq v h6 t5 h' ⟨m, F6, N6, H, fun p hp => by rw [hl] at hp; exact nomatch hp⟩) hz
theorem ex_use {r : List Stmt} {led : Led} {s : Shared} {Q : Flow → Shared → Prop} {E : Value → Shared → Prop} (h : Ex D r g P) (S : D.S led g s.heap) (hO : PassesOwn (MM D.w) D.A D.env E) (hq : ∀ f g' h tk, P (normF f) g' → D.S led g' h → Q f (upS s h tk)) : wpAny (MM D.w) D.A (execs r D.env) Q E s := h led s Q E S hO hq
theorem gen2 {Q0 : Flow → Shared → Prop} {s0 : Shared} (R W : (Flow → Shared → Prop) → Shared → Prop) (h0 : R Q0 s0) (h : ∀ Q s, R Q s → W Q s) : W Q0 s0 := h _ _ h0
noncomputable def LJ (l : Addr) (news : Led) (i : Nat) (nx : Led) (g : G) : Prop := ∃ vs nn, nx = (l, listOf vs.toArray nn) :: news ∧ IntsAre vs (tbl.take i) ∧ g (Str.ofString "high") = some (.int (1033 ^ i) 0) ∧ g (Str.ofString "low") = some (.int (1000 ^ i) 0) ∧ g (Str.ofString "rows") = some (.ref l)
set_option maxRecDepth 100000 in
theorem f81 (w : World) : FnL w 81 := by
  intro mean mg mb dp un gd cn cs a ccd cl outer A₀ base h₀ L m news s Q E B F X N T hk hdp hu hret
  refine fn_in (k := 1) (binds := []) (by k_is) (by k_is) (fun s _ => BindsTo.of_eq rfl) (locs rfl) rfl rfl rfl (by decide) rfl B F X N T hk hdp hu fun D s' E' O hl S hO => ?_
  refine gen2 (fun Q s => D.S news _ s.heap ∧ ∀ l vs k m h tk, IntsAre vs tbl → (∀ p ∈ news, p.1 < l) → Fr D.h₀ D.L h m → News D.h₀ D.L h ((l, listOf vs.toArray k) :: news) → Q (.ret (.ref l)) (upS s h tk)) (fun Q s => wpAny (MM D.w) D.A (execs _ D.env) Q E' s)
    ⟨S, fun l vs k m h tk hI hlt F N => ⟨_, m, _, h, tk, rfl, rfl, F, N, fun kF kN => hret l vs k h tk hI kF kN hlt⟩⟩ fun Q s ⟨S, hret⟩ => ?_
  refine new_snd O rfl S fun l h1 t1 hlt S => ?_
  refine wpAny_execs_cons (st_pair (P := fun f g => f = .next ∧ LJ l news 0 ((l, listOf #[] 0) :: news) g) O rfl rfl (fun _ _ _ _ _ => rfl) ⟨fun _ _ => rfl, fun _ _ => rfl, trivial⟩ (ev_int (ev_int ⟨rfl, [], 0, rfl, .nil, rfl, rfl, rfl⟩)) _ _ _ E' S hO fun f f' h2 t2 hp S => ?_)
  obtain ⟨hf, hJ⟩ := hp
  obtain rfl : f = .next := by cases f <;> first | rfl | cases hf
  refine wpAny_execs_cons (For_invV D.h₀ (O.loc rfl) (by show (D.cs.kind == .class || (D.cs.kind == .module && _)) = false; rw [O.k]; rfl) ?_ (fun _ => rfl) hO)
  refine range_snd (R := fun k => k = 256) O rfl brange ⟨fun _ _ => rfl, trivial⟩ S (ev_int ⟨by decide, by decide, rfl⟩) fun k ia h3 t3 e hf S hst => ?_
  subst e
  refine gen2 (fun Q s => D.S ((l, listOf #[] 0) :: news) f' s.heap ∧ IsRangeIter s.heap ia (0 + ((0 : Nat) : Int) * 1) ((256 : Int) - ((0 : Nat) : Int)) 1 ∧ ∀ g m nx h tk, LJ l news 256 nx g → Sees g m → Fr D.h₀ D.L h m → News D.h₀ D.L h nx → Q .next (upS s h tk)) (fun Q s => Loop D _ _ Q E' (.ref ia) s) ⟨S, hst, ?_⟩ ?_
  · rintro g m nx h4 t4 ⟨vs, nn, rfl, hI, _, _, hr⟩ H F N
    refine wpAny_execs_cons (wpAny_Return_some (ev_local (K := (· = Value.ref l)) O rfl hr rfl _ _ _ E' ⟨m, F, N, H, fun p hp => by rw [hl] at hp; exact nomatch hp⟩ fun v h5 t5 e S => ?_))
    obtain rfl := norm_ref e
    obtain ⟨m, F, N, _⟩ := S
    exact hret l vs nn m h5 t5 (by rw [← tbl_len, List.take_length] at hI; exact hI) hlt F N
  clear hret
  rintro Q s ⟨S, hst, hret⟩
  obtain ⟨m, F, N, H, _⟩ := S
  refine loop_invN (fun i m nx => ∃ g, LJ l news i nx g ∧ Sees g m) (Walks.range rfl ia 0 1 256) hf.2.2 hf.2.1 (fun p hp hw => hf.1 p hp hw) hf.1 hst F N ⟨f', hJ, H⟩ ?_ fun m nx h tk ⟨g, x, y⟩ F N => hret g m nx h tk x y F N
  · rintro i v m nx h4 t4 own hi hP _ ho ⟨g, ⟨vs, nn, rfl, hI, hh, hlo, hr⟩, H⟩ F N
    have log := low_log hi
    have len : vs.length = i := by rw [hI.length, List.length_take, tbl_len]; omega
    refine append_snd (g := upd g (Str.ofString "n") (norm v)) (K := fun v => v = .int (tbl.getD i 0) 0) (led := (l, listOf vs.toArray nn) :: (news ++ own)) (led' := fun v => (l, listOf (vs.toArray.push v) (nn + 1)) :: (news ++ own)) O rfl hr (.head _) (fun v => .head ?_) (by rw [List.size_toArray, len, sizeLine_eq]; omega) ⟨fun _ _ => rfl, trivial⟩ (fun _ => rfl) hl ⟨_, F, N, H.put _ v, fun p hp => by rw [hl] at hp; exact nomatch hp⟩ ?_ fun v' h5 t5 hv S => ?_
    · intro p hp e
      rcases List.mem_append.mp hp with q | q
      · exact absurd e (Nat.ne_of_lt (hlt p q))
      · exact ho p q l (.head _) e
    · refine ev_bin (ev_bin (ev_bin (ev_int (ev_bin (ev_local O rfl hh (ev_local O rfl hlo ⟨.of_left (by decide), ?_⟩))))))
      refine ev_local O rfl hlo (ev_bin (ev_int (ev_local O rfl hlo ⟨.of_left (by decide), ?_, log _, ?_⟩)))
      · exact Int.mul_ne_zero (by decide) (Int.ne_of_gt (Int.pow_pos (by decide)))
      · rw [tbl_eq hi]
    · refine ex_use (P := fun f g => f = .next ∧ g (Str.ofString "high") = some (.int (1033 ^ i * 1033) 0) ∧ g (Str.ofString "low") = some (.int (1000 ^ i * 1000) 0) ∧ g (Str.ofString "rows") = some (.ref l)) ?_ S hO fun f g' h6 t6 hp S => ?_
      · exact ex_set O rfl (fun _ => rfl) (ev_bin (ev_local O rfl hh (ev_int ⟨.of_right (by decide), ex_set O rfl (fun _ => rfl) (ev_bin (ev_local O rfl hlo (ev_int ⟨.of_right (by decide), ex_nil ⟨rfl, rfl, rfl, hr⟩⟩)))⟩)))
      obtain ⟨hf, a, b, c⟩ := hp
      obtain rfl : f = .next := by cases f <;> first | rfl | cases hf
      obtain ⟨m, F, N, H, _⟩ := S
      rw [List.push_toArray] at N
      refine ⟨h6, t6, m, _, (l, listOf (vs ++ [v']).toArray (nn + 1)) :: news, rfl, F, N, fun p hp => ?_, fun p hp => .tail _ (List.mem_append_right _ hp), rfl, g', ⟨vs ++ [v'], nn + 1, rfl, ?_, by rw [a, Int.pow_succ], by rw [b, Int.pow_succ], c⟩, H⟩
      · rcases List.mem_cons.mp hp with e | hp
        · rw [e]; exact .head _
        · exact .tail _ (List.mem_append_left _ hp)
      · obtain ⟨x, t, rfl, e⟩ := isInt_inv (v := v') (K := (· = tbl.getD i 0)) (by rw [hv])
        rw [List.take_add_one, List.getElem?_eq_getElem (by rw [tbl_len]; exact hi)]
        refine hI.append ?_
        rw [e, List.getD_eq_getElem?_getD, List.getElem?_eq_getElem (by rw [tbl_len]; exact hi)]
        exact .cons _ _ .nil
end
section
variable {D : Fm} {sc : Scope} {n : Nat} {g : G} {P : PoT} {pos : Pos} {K : Value → Prop}
theorem itLed {l : Addr} {vs : List Value} {k : Nat} (hm : (l, listOf vs.toArray k) ∈ D.led₀) (hV : IntsAre vs tbl) : It D (.ref l) spTab := fun o i g K value slice e hs h led s Q E S hq => by
  obtain rfl := norm_ref e
  obtain ⟨k, t, rfl, h1, h2, h3⟩ := isInt_inv h
  have S0 := S
  obtain ⟨m, F, N, _, hl⟩ := S
  exact tbl_item N (hl _ hm) hV h1 h2 (fun t => hq _ s.heap s.toks h3 S0) hs
noncomputable def maxes : List (PySem.Str × Int) := [(Str.ofString "B", 255), (Str.ofString "H", 65535), (Str.ofString "i", 2147483647), (Str.ofString "I", 4294967295), (Str.ofString "q", 9223372036854775807), (Str.ofString "Q", 18446744073709551615)]
theorem max_all (P : Params) : maxes.map (fun p => mval (nsIn (hd.heap_39 P) 22 p.1)) = maxes.map (fun p => .int p.2 0) := by kernel_rfl
@[reducible] noncomputable def spMax (i : Value) (K : Value → Prop) : Prop := isStr i fun x => ∃ n, (x, n) ∈ maxes ∧ K (.int n 0)
theorem itMax (O : Ok D sc n) : It D (.ref 22) spMax := fun o i g K value slice e hs h led s Q E S hq => by
  obtain rfl := norm_ref e
  obtain ⟨x, t, rfl, n, h1, h⟩ := isStr_inv h
  obtain ⟨v, e1, e2⟩ := mval_some (List.map_inj_left.mp (max_all D.w.params) _ h1) fun q => nomatch q
  exact itTop O (top22 _) e1 hs S hq (by rw [e2]; exact h)
theorem ev_pick {es : List PySem.Expr} {p q : Pos} {i : PySem.Expr} (h1 : star es) (hi : ∀ o k, subscripted i false o k = operate [o, k] (getItem o k))
    (h : evL D g es fun vs => ∃ ns : List Int, vs = ns.map (fun x => .int x 0) ∧ ns.length ≤ 20 ∧ Ev D i g fun k => isInt k fun k => 0 ≤ k ∧ k < (ns.length : Int) ∧ ∀ x, K (.int x 0)) : Ev D (.Subscript (.List es p) i q) g K := fun led s Q E S hq => by
  refine Subscript_ (List_ (args_snd h1 h led s _ E S fun vs h2 t2 h S => ?_))
  obtain ⟨ns, e, hl, h'⟩ := h.2
  have hV := ints_back e
  obtain ⟨m, F, N, H, hl0⟩ := S
  refine newList_N F N (fun h3 F N => h' (_ :: led) _ _ E ⟨m, F, N, H, fun p hp => .tail _ (hl0 p hp)⟩ fun u h4 t4 hu S => ?_) (by rw [hV.length, sizeLine_eq]; omega)
  obtain ⟨k, t, rfl, k0, k1, hK⟩ := isInt_inv hu
  obtain ⟨m2, F2, N2, H2, _⟩ := S
  exact item_anyK ⟨_, (N2 _ (.head _)).1, rfl, 0, rfl⟩ hV k0 k1 (by omega) (fun t => hq _ h4 t4 (hK _) ⟨m2, F2, fun p hp => N2 p (.tail _ hp), H2, hl0⟩) (hi _ _)
@[irreducible] noncomputable def EvD (D : Fm) (e : PySem.Expr) (g : G) (K : Value → Prop) : Prop := Ev D e g K
theorem EvD_eq {e : PySem.Expr} : EvD D e g K = Ev D e g K := by unfold EvD; rfl
theorem ev_dict (O : Ok D sc n) {ks : List (Option PySem.Expr)} {vs : List PySem.Expr} {p q : Pos} {i : PySem.Expr} (L : List (PyData × PyData)) (k1 : ks.all (·.isSome) = true) (k2 : ks.length = vs.length) (k3 : ks ≠ []) (k4 : ks.length ≤ 15) (k5 : litPairs ks vs = some L) (k6 : strKeyed L = true) (k7 : (strKeysOf L).Nodup)
    (hi : ∀ o k, subscripted i false o k = operate [o, k] (getItem o k)) (h : Ev D i g fun k => isStr k fun x => ∃ n, PySem.Spec.lookup (PyData.str x) L = some (PyData.int n) ∧ K (.int n 0)) : EvD D (.Subscript (.Dict ks vs p) i q) g K := by
  unfold EvD
  intro led s Q E S hq
  obtain ⟨m, F, N, H, hl⟩ := S
  obtain ⟨mean, mg, mb, T⟩ := O.T
  refine Subscript_ (kdn_eval (knd := PySem.strKind _ D.w) F N (Top.nolimit T) k1 k2 k3 k4 fun d h1 o F N l1 l2 ho => evalPairs_lits _ _ _ _ _ k5 fun ps t1 hR => ?_)
  obtain ⟨r1, r2, r3⟩ := hR.str k6
  refine kdn_made_str F N (updF_head l1) ho r1 (by rw [r2]; exact k7) fun h2 o' F N ho => ?_
  refine h ((d, o') :: led) _ _ E ⟨m, F, N, H, fun p hp => .tail _ (hl p hp)⟩ fun u h3 t3 hu S => ?_
  obtain ⟨x, t, rfl, n, hx, hK⟩ := isStr_inv hu
  obtain ⟨v, e1, e2⟩ := r3.of_lookup PyProof.V.same_str hx
  obtain ⟨m2, F2, N2, H2, _⟩ := S
  have hD := kda_dict (s := upS s h3 t3) N2 (.head _) ho
  cases e2 h3
  exact tail_any hD.typeIs slot_dict_getitem.lookup (wpAny_getItem_of (strKind_is _ D.w x t) hD.mapOf e1 (hq _ h3 _ hK ⟨m2, F2, fun p hp => N2 p (.tail _ hp), H2, hl⟩)) (hi _ _)
theorem ex_list (O : Ok D sc n) {x : PySem.Str} {px : Pos} {e : PySem.Expr} {b r : List Stmt} {l : Addr} {vs : List Value} {ns : List Int} {k : Nat} {I : Nat → G → Prop} (hm : (l, listOf vs.toArray k) ∈ D.led₀) (hV : IntsAre vs ns) (h1 : sc.names.lookup x = some .local) (h2 : ∀ env v, foldedSetIterable e env v = pure v)
    (h : Ev D e g fun v => v = .ref l ∧ forVC D x b (fun i v => ∃ z, ns[i]? = some z ∧ v = .int z 0) ns.length I g (seqP (fun g => Ex D r g P) P)) : Ex D (.For (.Name x px) e b [] pos :: r) g P := ex_for O h1 h2 fun P' led s Q E e S hO hq => by
  subst e
  refine h led s _ E S fun v h4 t4 hv S => ?_
  obtain ⟨e, hf⟩ := hv
  obtain rfl := norm_ref e
  obtain ⟨m, F, N, H, hl⟩ := S
  refine iter_invNL (fun i m nx => nx = led ∧ ∃ g, I i g ∧ Sees g m) rfl (hl _ hm) hV F N ⟨rfl, g, hf.1, H⟩ ?_ ?_
  · rintro i z t m₁ nx h5 t5 own hz _ _ hn ⟨e, g₁, hI, H₁⟩ F₁ N₁
    subst e
    exact turn_snd (hf.2.1 i g₁ (.int z 0) (List.getElem?_eq_some_iff.mp hz).1 ⟨z, hz, rfl⟩ hI) hO hq hl (fun g m x y => ⟨hn, rfl, g, x, y⟩) H₁ F₁ N₁
  · rintro m₁ nx h5 t5 hn ⟨e, g₁, hI, H₁⟩ F₁ N₁
    subst e
    exact hq .next g₁ h5 t5 (hf.2.2 g₁ hI) ⟨m₁, F₁, N₁, H₁, hl⟩
theorem ints_cons {vs : List Value} {a : Int} {ns : List Int} (h : IntsAre vs (a :: ns)) : ∃ t r, vs = .int a t :: r ∧ IntsAre r ns := match h with
  | .cons _ t h => ⟨t, _, rfl, h⟩
theorem ints3 {vs : List Value} {a b c : Int} (h : IntsAre vs [a, b, c]) : ∃ ta tb tc, vs = [.int a ta, .int b tb, .int c tc] := by
  obtain ⟨ta, _, rfl, h1⟩ := ints_cons h
  obtain ⟨tb, _, rfl, h2⟩ := ints_cons h1
  obtain ⟨tc, r, rfl, h3⟩ := ints_cons h2
  rw [List.eq_nil_of_length_eq_zero h3.length]
  exact ⟨ta, tb, tc, rfl⟩
theorem ex_three (O : Ok D sc n) {x y z : PySem.Str} {p1 p2 p3 tp : Pos} {k kk : Nat} {e : PySem.Expr} {r : List Stmt} {l : Addr} {vs : List Value} {a b c : Int} (h1 : sc.names.lookup x = some .local) (h2 : sc.names.lookup y = some .local) (h3 : sc.names.lookup z = some .local)
    (hw : ∀ cn L a ccd cl, swappedStores [.Tuple [.Name x p1, .Name y p2, .Name z p3] k tp] e (envX cn sc L a ccd cl) = pure none) (hs : ∀ env, swapsWithSole [.Tuple [.Name x p1, .Name y p2, .Name z p3] k tp] e pos.line env = pure false)
    (hm : (l, listOf vs.toArray kk) ∈ D.led₀) (hV : IntsAre vs [a, b, c]) (h : Ev D e g fun v => v = .ref l ∧ Ex D r (upd (upd (upd g x (.int a 0)) y (.int b 0)) z (.int c 0)) P) : Ex D (.Assign [.Tuple [.Name x p1, .Name y p2, .Name z p3] k tp] e pos :: r) g P := ex_cons fun led s Q E S hO hq => by
  refine Assign_Tuple (h led s _ E S fun v h4 t4 hv S => ?_) (hs _) (by have := hw D.cn D.L D.a D.ccd D.cl; rw [← O.e] at this; exact this)
  obtain ⟨e, h'⟩ := hv
  obtain rfl := norm_ref e
  obtain ⟨m, F, N, H, hl⟩ := S
  obtain ⟨ta, tb, tc, rfl⟩ := ints3 hV
  refine kun_list F N ⟨_, (N _ (hl _ hm)).1, rfl, kk, rfl⟩ rfl rfl rfl fun h5 F N => ?_
  exact assignInOrder_cons (PyProof.Rows.assign_Name (store_snd (s := s) (led := led) O h1 ⟨m, F, N, H, hl⟩ fun h6 t6 S => assignInOrder_cons (PyProof.Rows.assign_Name (store_snd (s := s) O h2 S fun h7 t7 S => assignInOrder_cons (PyProof.Rows.assign_Name (store_snd (s := s) O h3 S fun h8 t8 S => assignInOrder_nil (hq .next _ h8 t8 h' S)))))))
end
noncomputable def octL : List (PyData × PyData) := [(.str (Str.ofString "b"), .int 1), (.str (Str.ofString "B"), .int 1), (.str (Str.ofString "h"), .int 2), (.str (Str.ofString "H"), .int 2), (.str (Str.ofString "i"), .int 4), (.str (Str.ofString "I"), .int 4), (.str (Str.ofString "q"), .int 8), (.str (Str.ofString "Q"), .int 8)]
noncomputable def Kd (n : Int) (c : PySem.Str) (o m : Int) : Prop := PySem.Spec.lookup (.str c) octL = some (.int o) ∧ (c, m) ∈ maxes ∧ n ≤ m
theorem kinds {n : Int} (h : n < 18446744073709551616) : ∃ m, Kd n (tcode n) (oct n) m := by
  unfold tcode oct
  by_cases h1 : n < 256
  · rw [if_pos h1, if_pos h1]
    exact ⟨255, by kernel_rfl, .head _, Int.le_of_lt_add_one h1⟩
  rw [if_neg h1, if_neg h1]
  by_cases h2 : n < 65536
  · rw [if_pos h2, if_pos h2]
    exact ⟨65535, by kernel_rfl, .tail _ (.head _), Int.le_of_lt_add_one h2⟩
  rw [if_neg h2, if_neg h2]
  by_cases h3 : n < 2147483647
  · rw [if_pos h3, if_pos (Int.lt_trans h3 (by decide))]
    exact ⟨2147483647, by kernel_rfl, .tail _ (.tail _ (.head _)), Int.le_of_lt h3⟩
  rw [if_neg h3]
  by_cases h4 : n < 4294967296
  · rw [if_pos h4, if_pos h4]
    exact ⟨4294967295, by kernel_rfl, .tail _ (.tail _ (.tail _ (.head _))), Int.le_of_lt_add_one h4⟩
  rw [if_neg h4, if_neg h4]
  by_cases h5 : n < 9223372036854775807
  · rw [if_pos h5]
    exact ⟨9223372036854775807, by kernel_rfl, .tail _ (.tail _ (.tail _ (.tail _ (.head _)))), Int.le_of_lt h5⟩
  rw [if_neg h5]
  exact ⟨18446744073709551615, by kernel_rfl, .tail _ (.tail _ (.tail _ (.tail _ (.tail _ (.head _))))), Int.le_of_lt_add_one h⟩
noncomputable def C0 (c l : Addr) (g : G) : Prop := g (Str.ofString "cells") = some (.ref c) ∧ g (Str.ofString "lengths") = some (.ref l)
noncomputable def C1 (c l : Addr) (x n y : Int) (g : G) : Prop := C0 c l g ∧ g (Str.ofString "cell") = some (.int x 0) ∧ g (Str.ofString "n") = some (.int n 0) ∧ g (Str.ofString "length") = some (.int y 0)
noncomputable def C2 (c l : Addr) (x z : Int) (g : G) : Prop := C0 c l g ∧ g (Str.ofString "cell") = some (.int x 0) ∧ g (Str.ofString "number") = some (.int z 0)
noncomputable def g0 (c l : Addr) : G := upd (upd (fun _ => none) (Str.ofString "cells") (.ref c)) (Str.ofString "lengths") (.ref l)
theorem seesC {c l : Addr} {m : PySem.Str → Option Value} (h1 : m (Str.ofString "cells") = some (.ref c)) (h2 : m (Str.ofString "lengths") = some (.ref l)) : Sees (g0 c l) m := by
  intro x p hp
  unfold g0 upd at hp
  by_cases e1 : x = Str.ofString "lengths"
  · rw [if_pos e1] at hp
    exact ⟨.ref l, by rw [e1]; exact h2, Option.some.inj hp⟩
  · rw [if_neg e1] at hp
    by_cases e2 : x = Str.ofString "cells"
    · rw [if_pos e2] at hp
      exact ⟨.ref c, by rw [e2]; exact h1, Option.some.inj hp⟩
    · rw [if_neg e2] at hp
      exact nomatch hp
theorem law_gen {D : Fm} {sc : Scope} {st : Stmt} {r : List Stmt} {P : PoT} {c l : Addr} {ys vs : List Value} {kc kl : Nat} {f : Int → Int} (O : Ok D sc 2) (hc : (c, listOf ys.toArray kc) ∈ D.led₀) (hl : (l, listOf vs.toArray kl) ∈ D.led₀) (hy : IntsAre ys (List.map f (rangeKs 0 (3 - 0 : Int).toNat))) (hV : IntsAre vs tbl)
    (h : ∀ (D : Fm) (c l : Addr) (ys vs : List Value) (kc kl : Nat) (x y z : Int), Ok D sc 2 → (c, listOf ys.toArray kc) ∈ D.led₀ → (l, listOf vs.toArray kl) ∈ D.led₀ → IntsAre ys [x, y, z] → IntsAre vs tbl → Ex1 D st (g0 c l) (seqP (fun g => Ex D r g P) P)) : Ex1 D st (g0 c l) (seqP (fun g => Ex D r g P) P) :=
  h D c l ys vs kc kl (f 0) (f 1) (f 2) O hc hl hy hV
theorem dmeas {d : Int} (h : 0 < d) : (d - 1).toNat < d.toNat := toNat_lt (Int.sub_lt_self _ (by decide)) h
theorem oct_nodup : (strKeysOf octL).Nodup := by decide +kernel
theorem ge_cut {k m : Int} {P Q : Prop} (h1 : k ≤ m → P) (h2 : ¬ k ≤ m → Q) : (decide (k ≤ m) = true → P) ∧ (decide (k ≤ m) = false → Q) := ⟨fun c => h1 (of_decide_eq_true c), fun c => h2 (of_decide_eq_false c)⟩
theorem no4 (x : Int) : Builtin.divisionGoesByPylong x 4 = false := PyProof.noPylong_small (by decide)
theorem arg_end {D : Fm} {g : G} {K : List Value → Prop} (h : K []) : evL D g [] K := h
theorem lt12 {x : Int} {j : Nat} (h : j < (x.fmod 12).toNat) : (j : Int) ≤ 1000000 ∧ (j : Int) < 12 := by
  have k : (j : Int) < 12 := Int.lt_trans (Int.lt_toNat.mp h) (fm_hi x (by decide))
  exact ⟨Int.le_trans (Int.le_of_lt k) (by decide), k⟩
theorem txt_room {v d : Int} {j : Nat} (hj : (j : Int) < 12) : (t85 j v).length + (sg d).length ≤ sizeLine := by
  rw [t85_len, sizeLine_eq]
  exact Nat.le_trans (Int.ofNat_lt.mp hj) (by decide)
theorem txt_short {x v : Int} : (t85 (x.fmod 12).toNat v).length ≤ 1000 := by
  rw [t85_len]
  exact Nat.le_trans (Nat.le_of_lt (toNat_lt (b := 12) (fm_hi x (by decide)) (by decide))) (by decide)
theorem txt_len {j : Nat} {v : Int} (h : (((t85 j v).length : Int) != 5) = false) : j = 5 := by
  rw [t85_len] at h
  exact Int.ofNat.inj (bne_eq_false_iff_eq.mp h)
theorem txt_next {v d : Int} {j : Nat} (v0 : 0 ≤ v) (v1 : v < 85 ^ j) (d0 : 0 ≤ d) (d1 : d < 85) : 0 ≤ 85 * v + d ∧ 85 * v + d < 85 ^ (j + 1) := by
  refine ⟨Int.add_nonneg (Int.mul_nonneg (by decide) v0) d0, ?_⟩
  rw [Int.pow_succ, Int.mul_comm (85 ^ j)]
  exact Int.lt_of_lt_of_le (Int.add_lt_add_left d1 _) (by have := Int.mul_le_mul_of_nonneg_left (show v + 1 ≤ _ from v1) (show (0 : Int) ≤ 85 by decide); rw [Int.mul_add] at this; exact this)
theorem pow_ife {D : Fm} {g : G} {K : Value → Prop} {t : PySem.Expr} {b : Bool} {k1 k2 k3 k4 : Nat} {p1 p2 p3 p4 p5 p6 q : Pos} (h : Ts D t g fun c => c = b ∧ K (.int (85 ^ sz b) 0)) :
    Ev D (.IfExp t (.BinOp (.Constant (.int 85) k1 p1) .Pow (.Constant (.int 10) k2 p2) p5) (.BinOp (.Constant (.int 85) k3 p3) .Pow (.Constant (.int 5) k4 p4) p6) q) g K :=
  ev_ife fun led s Q E S hq => h led s Q E S fun c h tk hc => hq c h tk (by
    obtain ⟨rfl, hc⟩ := hc
    cases c
    · exact ⟨(fun e => nomatch e), fun _ => ev_bin (ev_int (ev_int (pw rfl hc)))⟩
    · exact ⟨fun _ => ev_bin (ev_int (ev_int (pw rfl hc))), fun e => nomatch e⟩)
noncomputable def C3 (a b c d : Int) (g : G) : Prop := g (Str.ofString "first") = some (.int a 0) ∧ g (Str.ofString "second") = some (.int b 0) ∧ g (Str.ofString "third") = some (.int c 0) ∧ g (Str.ofString "near") = some (.int d 0)
noncomputable def C4 (a : Int) (j : Nat) (g : G) : Prop := ∃ v, g (Str.ofString "text") = some (.str (t85 j v) 0) ∧ g (Str.ofString "value") = some (.int v 0) ∧ 0 ≤ v ∧ v < 85 ^ j ∧ g (Str.ofString "first") = some (.int a 0)
theorem two_bools {i : Nat} {v : Value} (h : [Value.bool false, .bool true][i]? = some v) : ∃ b, v = .bool b := by
  rcases i with _ | _ | i
  · exact ⟨false, (Option.some.inj h).symm⟩
  · exact ⟨true, (Option.some.inj h).symm⟩
  · exact nomatch h
local macro_rules | `(tactic| walk_at $s:str) => `(tactic| k_extra $s)
set_option maxRecDepth 100000 in
set_option maxHeartbeats 1600000 in
theorem law_holds : PySem.Challenge.rw_iu0046_01.Holds := hd (by
  w_strict (
    k_with_none
    k_with "call ref" => (k_here; (with_reducible show wpAny _ _ (PySem.call (Value.ref 81) _) _ _ _); k_dflt (refine fnl_use (by k_asm) (by k_asm) (by k_asm) (by k_asm) (by k_asm) (by first | exact rfl | assumption) (f81 _) (by ktr_room) (by ktr_units) ?_); rintro l' vs' n' h' tk' hV' F' N' l1; (try dsimp only); (try k_fold))
    k_with "exec If Compare" => refine Stopped.out ?_
    k_with "exec If" => refine Stopped.out ?_
    k_fill
    intro w s₀ s₁ mg mb G Y fa o pm cd doc dV kV ho hd hcd hD hmg hg args vals as hpre hlay hrd hwl hlo
    have KX := kIn_of Y
    refine Ground.open G ?_
    intro T B D TE TW
    try (refine guard_noD D (by decide +kernel) ?_; clear D)
    have TA := at_of_top T
    clear hmg
    wrow_args hpre hlay hrd hwl hlo
    refine enter_call ?_
    w_top on
    refine codeAny_mono ?_ (fun _ _ g => GoodW.toG g)
    have K0 := below_caller (Top.heap T)
    w_call any ho hd hcd hD T F
    clear hd TA
    k_drop
    (all_goals try k_fold)
    k_steps
    refine .mk ?_
    rename IntsAre _ (List.map _ _) => hys
    rename IntsAre _ tbl => hV
    rename Fr _ _ _ _ => lF
    rename News _ _ _ _ => lN
    rename Below _ _ _ _ => lB
    rename Top _ _ _ _ _ _ => lT
    k_dflt (refine ex_first (D := ⟨_, _, _, _, _, _, _, _, _, _, _, _, _⟩) (P := retP (· = .bool true)) (g := g0 _ _) ?_ ⟨_, lF, lN, seesC rfl rfl, fun _ h => h⟩ ?_ ?_)
    case refine_2 => first | passes_own | with_unfolding_all passes_own
    case refine_3 =>
      intro f g' h tk hp S
      cases f with
      | next => exact hp.elim
      | brk => exact hp.elim
      | cont => exact hp.elim
      | ret v =>
        obtain ⟨b, rfl, e⟩ := tru_inv (v := v) (K := (· = true)) (by rw [show norm v = .bool true from hp])
        subst e
        obtain ⟨m, F, N, _⟩ := S
        (try dsimp only [upS])
        k_steps
    refine law_gen (c := _) (l := _) (kc := _) (kl := _) ⟨by k_asm, ⟨_, _, _, lT⟩, ⟨_, _, lB⟩, rfl, rfl, rfl, by show callerA.depth + 1 + 2 < recursionLimit; decide, by show callerA.units + 3 + 8 * 2 < cLine; decide⟩ (.head _) (.tail _ (.head _)) hys hV ?_
    intro D c l ys vs kc kl x1 x2 x3 O hc hl hys hV
    refine st_if (ts_cmp rfl (ev_call O f46 (by decide) rfl rfl ⟨fun _ _ => rfl, trivial⟩ (ev_none (.inl ⟨rfl, ev_int ⟨(fun e => nomatch e), fun _ => ex_nil ?_⟩⟩))))
    show Ex D _ (g0 c l) _
    refine ex_list (I := fun _ => C0 c l) O hc hys rfl (fun _ _ => rfl) (ev_local O rfl rfl ⟨rfl, ?_, ?_, ?_⟩)
    · exact ⟨rfl, rfl⟩
    · rintro i g v - ⟨x, hx, rfl⟩ H0
      clear hx
      have H := H0
      refine ex_set O rfl (fun _ => rfl) (ev_bin (ev_bin (ev_local O rfl rfl (ev_int ⟨by decide, no4 x, (ev_int ⟨by decide, ?_⟩)⟩))))
      have n0 := fm_lo (x.fdiv 4) (k := 256) (by decide)
      have n1 := fm_hi (x.fdiv 4) (k := 256) (by decide)
      refine ex_set O rfl (fun _ => rfl) (ev_pick ⟨fun _ _ => rfl, fun _ _ => rfl, fun _ _ => rfl, fun _ _ => rfl, trivial⟩ (fun _ _ => rfl) ?_)
      refine ev_bin (ev_bin (ev_local O rfl rfl (ev_int ⟨by decide, no4 x, (ev_int ⟨by decide, ?_⟩)⟩)))
      refine ev_get (itLed hl hV) (fun _ _ => rfl) (ev_local O rfl H.2 ⟨rfl, ev_local O rfl rfl ⟨n0, n1, ?_⟩⟩)
      refine ev_bin (ev_get (itLed hl hV) (fun _ _ => rfl) (ev_local O rfl H.2 ⟨rfl, ev_local O rfl rfl ⟨n0, n1, ev_int ?_⟩⟩))
      refine ev_local O rfl rfl ⟨[_, _, _, _], rfl, Nat.le_of_ble_eq_true rfl, ev_bin (ev_local O rfl rfl (ev_int ⟨by decide, fm_lo _ (by decide), fm_hi _ (by decide), fun y => ?_⟩))⟩
      refine regen (C := C1 c l x ((x.fdiv 4).fmod 256) y) ?_ fun g ⟨H, hc1, hn, hy⟩ => ?_
      · exact ⟨H, rfl, rfl, rfl⟩
      generalize (x.fdiv 4).fmod 256 = N at n0 n1 hn
      refine ex_set O rfl (fun _ => rfl) (ev_int ?_)
      refine ex_while (fun k g => ∃ d, DInv y d ∧ k = d.toNat ∧ g (Str.ofString "due") = some (.int d 0) ∧ C1 c l x N y g) (fun g => ∃ d, IsByte y d ∧ g (Str.ofString "due") = some (.int d 0) ∧ C1 c l x N y g) ?_ ?_ ?_
      · exact ⟨255, 255, dinv_start y, rfl, rfl, H, hc1, hn, hy⟩
      · rintro k g ⟨d, hd, rfl, hdu, H, hc1, hn, hy⟩
        refine ts_and (ts_cmp rfl (ev_local O rfl hdu (ev_int (cut (fun d0 => ?_) fun d0 => ?_))))
        · refine ts_cmp rfl (ev_get (itLed hl hV) (fun _ _ => rfl) (ev_local O rfl H.2 ⟨rfl, ev_bin (ev_local O rfl hdu (ev_int ⟨Int.le_sub_one_of_lt d0, Int.lt_of_le_of_lt (Int.sub_le_self _ (by decide)) (Int.lt_of_le_of_lt hd.2.1 (by decide)), ev_local O rfl hy (ge_cut (fun hx => ?_) fun hx => ?_)⟩))⟩))
          · refine ex_set O rfl (fun _ => rfl) (ev_bin (ev_local O rfl hdu (ev_int (ex_nil ?_))))
            exact ⟨_, dmeas d0, _, dinv_step hd d0 hx, rfl, rfl, H, hc1, hn, hy⟩
          · exact ⟨d, dinv_end hd hx, hdu, H, hc1, hn, hy⟩
        · exact ⟨(fun e => nomatch e), fun _ => ⟨d, dinv_zero hd d0, hdu, H, hc1, hn, hy⟩⟩
      rintro g ⟨d, hb, hdu, H, hc1, hn, hy⟩
      refine ex_if (ts_bool (tb_or (ts_cmp rfl (ev_call O f53 (by decide) rfl rfl ⟨fun _ _ => rfl, trivial⟩ (ev_local O rfl hn ⟨n0, n1, ?_⟩)))))
      refine ev_get (itLed hl hV) (fun _ _ => rfl) (ev_local O rfl H.2 ⟨rfl, ev_local O rfl hn ⟨n0, n1, bne_self_eq_false _, ?_⟩⟩)
      refine tb_or (ts_cmp rfl (ev_call O f46 (by decide) rfl rfl ⟨fun _ _ => rfl, trivial⟩ (ev_local O rfl hy (.inr fun r hr => ?_))))
      obtain rfl := hr.unique hb
      refine ev_local O rfl hdu ⟨bne_self_eq_false _, tb_nil ⟨(fun e => nomatch e), fun _ => ex_nil ?_⟩⟩
      refine ex_set O rfl (fun _ => rfl) (ev_bin (ev_pick ⟨fun _ _ => rfl, fun _ _ => rfl, fun _ _ => rfl, trivial⟩ (fun _ _ => rfl) (ev_local O rfl hc1 ?_)))
      refine ev_bin (ev_bin (ev_bin (ev_int (ev_bin (ev_bin (ev_local O rfl hc1 (ev_int ⟨by decide, no4 x, (ev_int ⟨by decide, fm_lo _ (by decide), ?_, by decide, ?_⟩)⟩)))))))
      · exact Int.le_trans (Int.le_of_lt (fm_hi _ (by decide))) (by decide)
      refine ev_int (ev_bin (ev_bin (ev_local O rfl hc1 (ev_int ⟨by decide, PyProof.noPylong_small (by decide), (ev_int ⟨by decide, ?_⟩)⟩))))
      refine ev_bin (ev_bin (ev_local O rfl hc1 (ev_int ⟨by decide, no4 x, (ev_int ⟨by decide, ?_⟩)⟩)))
      refine ⟨[_, _, _], rfl, Nat.le_of_ble_eq_true rfl, ev_bin (ev_local O rfl hc1 (ev_int ⟨by decide, fm_lo _ (by decide), fm_hi _ (by decide), fun z => ?_⟩))⟩
      refine ev_bin (ev_int (ev_int (pw rfl ⟨by decide, ?_⟩)))
      refine regen (C := C2 c l x (z.fmod 18446744073709551616)) ?_ fun g ⟨H, hc1, hz⟩ => ?_
      · exact ⟨H, hc1, rfl⟩
      have z1 := fm_hi z (k := 18446744073709551616) (by decide)
      generalize z.fmod 18446744073709551616 = z at z1 hz
      obtain ⟨m, q1, q2, q4⟩ := kinds z1
      refine ex_set O rfl (fun _ => rfl) (ev_call O f29 (by decide) rfl rfl ⟨fun _ _ => rfl, trivial⟩ (ev_local O rfl hz (arg_end ?_)))
      refine ex_if ?_
      refine ts_cmp ?kk ?_
      case kk => kernel_rfl
      rw [← EvD_eq]
      refine ev_dict O octL (by kernel_rfl) (by kernel_rfl) (List.cons_ne_nil _ _) (Nat.le_of_ble_eq_true rfl) (by kernel_rfl) (by kernel_rfl) oct_nodup (fun _ _ => rfl) (ev_local O rfl rfl ⟨_, q1, ?_⟩)
      refine ev_call O f88 (by decide) rfl rfl ⟨fun _ _ => rfl, trivial⟩ (ev_local O rfl hz ⟨(fun e => nomatch (bne_self_eq_false (oct z)).symm.trans e), fun _ => ex_nil ?_⟩)
      refine ex_if (ts_bool (tb_or (ts_cmp rfl (ev_get (itMax O) (fun _ _ => rfl) (ev_glob O rfl rfl (fun e => nomatch e) ⟨rfl, ev_local O rfl rfl ⟨m, q2, ev_local O rfl hz ⟨decide_eq_false (Int.not_lt.mpr q4), ?_⟩⟩⟩)))))
      refine tb_or (ts_cmp rfl (ev_bin (ev_call O f36 (by decide) rfl rfl ⟨fun _ _ => rfl, trivial⟩ (ev_bin (ev_local O rfl hc1 (ev_int ⟨by decide, fm_lo _ (by decide), fm_hi _ (by decide), ?_⟩))))))
      refine ev_int (ev_bin (ev_int (ev_bin (ev_local O rfl hc1 (ev_int ⟨by decide, fm_lo _ (by decide), ?_, by decide, ?_, ?_⟩)))))
      · exact Int.le_trans (Int.le_of_lt (fm_hi _ (by decide))) (by decide)
      · rw [Int.sub_add_cancel]
        exact bne_self_eq_false _
      exact tb_nil ⟨(fun e => nomatch e), fun _ => ex_nil (ex_nil H)⟩
    · rintro g H
      refine ex_three O rfl rfl rfl (fun _ _ _ _ _ => rfl) (fun _ => rfl) hc hys (ev_local O rfl H.1 ⟨rfl, ?_⟩)
      refine ex_set O rfl (fun _ => rfl) (ev_bin (ev_bin (ev_local O rfl rfl (ev_bin (ev_local O rfl rfl (ev_int ⟨by decide, (ev_bin (ev_local O rfl rfl (ev_int ⟨by decide, ?_⟩)))⟩))))))
      refine regen (C := C3 x1 x2 x3 (x1 + x2.fmod 100 - x3.fmod 100)) ?_ fun g hg => ?_
      · exact ⟨rfl, rfl, rfl, rfl⟩
      generalize x1 + x2.fmod 100 - x3.fmod 100 = x4 at hg
      refine ex_tuple (I := fun _ => C3 x1 x2 x3 x4) O rfl (fun _ _ => rfl) ⟨fun _ _ => rfl, fun _ _ => rfl, trivial⟩ (by decide) (ev_true (ev_true ⟨hg, ?_, ?_⟩))
      · rintro i g v - hv ⟨ha, hb, h3, hd⟩
        obtain ⟨b, rfl⟩ := two_bools hv
        have p0 : (0 : Int) < 85 ^ sz b := pow_pos _
        refine ex_set O rfl (fun _ => rfl) (pow_ife (ts_local O rfl rfl ⟨rfl, ?_⟩))
        refine ex_if (ts_bool (tb_or (ts_not (ts_ev (fun _ => rfl) (ev_call O f95 (by decide) rfl rfl ⟨fun _ _ => rfl, fun _ _ => rfl, fun _ _ => rfl, trivial⟩ ?_)))))
        refine ev_bin (ev_local O rfl ha (ev_local O rfl rfl ⟨Int.ne_of_gt p0, ?_⟩))
        refine ev_bin (ev_local O rfl hb (ev_local O rfl rfl ⟨Int.ne_of_gt p0, ?_⟩))
        refine ev_local O rfl rfl (arg_end ⟨fm_lo _ p0, fm_hi _ p0, fm_lo _ p0, fm_hi _ p0, rfl, ?_⟩)
        refine tb_or (ts_not (ts_ev (fun _ => rfl) (ev_call O f95 (by decide) rfl rfl ⟨fun _ _ => rfl, fun _ _ => rfl, fun _ _ => rfl, trivial⟩ ?_)))
        refine ev_bin (ev_local O rfl ha (ev_local O rfl rfl ⟨Int.ne_of_gt p0, ?_⟩))
        refine ev_bin (ev_blt O babs abs_ok rfl ⟨fun _ _ => rfl, trivial⟩ (ev_local O rfl hd (ev_local O rfl rfl ⟨Int.ne_of_gt p0, ?_⟩)))
        refine ev_local O rfl rfl (arg_end ⟨fm_lo _ p0, fm_hi _ p0, fm_lo _ p0, fm_hi _ p0, rfl, ?_⟩)
        exact tb_nil ⟨(fun e => nomatch e), fun _ => ex_nil (ex_nil ⟨ha, hb, h3, hd⟩)⟩
      · rintro g ⟨ha, -, h3, -⟩
        refine ex_cons (st_pair O rfl rfl (fun _ _ _ _ _ => rfl) ⟨fun _ _ => rfl, fun _ _ => rfl, trivial⟩ (ev_str (ev_int ?_)))
        refine ex_range (I := C4 x1) O rfl (fun _ _ => rfl) rfl brange ⟨fun _ _ => rfl, trivial⟩ (ev_bin (ev_local O rfl h3 (ev_int ⟨by decide, fm_lo _ (by decide), ?_, ?_, ?_, ?_⟩)))
        · exact Int.le_trans (Int.le_of_lt (fm_hi _ (by decide))) (by decide)
        · exact ⟨0, rfl, rfl, Int.le_refl _, pow_pos _, ha⟩
        · rintro j g v hj rfl ⟨n, ht, hv, n0, n1, ha⟩
          obtain ⟨j1, j2⟩ := lt12 hj
          have d0 := fm_lo (x1.fdiv (85 ^ (j : Int).toNat)) (k := 85) (by decide)
          have d1 := fm_hi (x1.fdiv (85 ^ (j : Int).toNat)) (k := 85) (by decide)
          refine ex_set O rfl (fun _ => rfl) (ev_bin (ev_local O rfl ht (ev_get itChr (fun _ _ => rfl) (ev_glob O rfl rfl (fun e => nomatch e) ⟨rfl, ?_⟩))))
          refine ev_bin (ev_bin (ev_local O rfl ha (ev_bin (ev_int (ev_local O rfl rfl ⟨Int.natCast_nonneg _, j1, by decide, pow85_ne _, no85 j2, (ev_int ⟨by decide, d0, d1, rfl, txt_room j2, ?_⟩)⟩)))))
          refine ex_set O rfl (fun _ => rfl) (ev_bin (ev_bin (ev_int (ev_local O rfl hv ⟨.of_left (by decide), ?_⟩))))
          refine ev_bin (ev_bin (ev_local O rfl ha (ev_bin (ev_int (ev_local O rfl rfl ⟨Int.natCast_nonneg _, j1, by decide, pow85_ne _, no85 j2, (ev_int ⟨by decide, ex_nil ?_⟩)⟩)))))
          obtain ⟨e1, e2⟩ := txt_next n0 n1 d0 d1
          exact ⟨_, congrArg (fun s => some (Value.str s 0)) (t85_snoc d0 d1 j), rfl, e1, e2, ha⟩
        · rintro g ⟨n, ht, hv, n0, n1, ha⟩
          refine ex_ret (ev_and (ev_cmp rfl (ev_call O f74 (by decide) rfl rfl ⟨fun _ _ => rfl, trivial⟩ (ev_local O rfl ht (arg_end (t85_back n0 n1 (ev_local O rfl hv ⟨congrArg Value.bool (beq_self_eq_true _), ?_⟩)))))))
          refine ev_or (ev_cmp rfl (ev_blt O blen (len_ok O) rfl ⟨fun _ _ => rfl, trivial⟩ (ev_local O rfl ht (.inr ⟨txt_short, ev_int ⟨fun _ => rfl, fun e => ?_⟩⟩))))
          refine ev_cmp rfl (ev_call O f67 (by decide) rfl rfl ⟨fun _ _ => rfl, trivial⟩ (ev_local O rfl hv (arg_end ?_)))
          refine ev_local O rfl ht (.inr ⟨rfl, ?_⟩)
          show Value.bool _ = .bool true
          rw [txt_len e, beq_self_eq_true]))
end Mine
theorem PySem.Challenge.cw_iu0046_01_holds : PySem.Challenge.rw_iu0046_01.Holds := by
  exact Mine.law_holds
