import PyProof.Rows.All
import Wide.All
import OpenK.AllK
import Wide.FinOn
import Lean
import PySem.Challenge.RW_un0010_01
set_option Elab.async false
set_option linter.all false
open PySem PySem.W PyProof.Rows
namespace Mine
section
theorem and_high (x s : Nat) : x &&& (x / 2 ^ s * 2 ^ s) = x / 2 ^ s * 2 ^ s := by
  apply Nat.eq_of_testBit_eq
  intro i
  rw [Nat.testBit_and, ← Nat.shiftLeft_eq, Nat.testBit_shiftLeft]
  by_cases h : s ≤ i
  · rw [Nat.testBit_div_two_pow]
    have : i - s + s = i := by omega
    simp [h, this]
  · simp [h]

theorem fdiv_pos {x y : Int} (hy : 0 ≤ y) : x.fdiv y = x / y := Int.fdiv_eq_ediv_of_nonneg x hy
theorem fmod_pos {x y : Int} (hy : 0 ≤ y) : x.fmod y = x % y := Int.fmod_eq_emod_of_nonneg x hy

theorem ediv_ediv' {x y z : Int} (h : 0 ≤ y) : x / y / z = x / (y * z) := by
  rw [Int.ediv_ediv, if_neg (by omega)]; omega
theorem p2pos (s : Nat) : (0 : Int) < 2 ^ s := Int.pow_pos (by decide)

/-- the lower digits by the exclusive or -/
theorem xor_low {x : Int} (h : 0 ≤ x) (s : Nat) : Builtin.bitXor x (x.fdiv (2 ^ s) * 2 ^ s) = x % 2 ^ s := by
  obtain ⟨k, rfl⟩ := Int.eq_ofNat_of_zero_le h
  rw [fdiv_pos (Int.le_of_lt (p2pos s)), bitXor_and]
  have e : ((k : Int) / 2 ^ s * 2 ^ s) = ((k / 2 ^ s * 2 ^ s : Nat) : Int) := by
    rw [Int.natCast_mul, Int.natCast_ediv, Int.natCast_pow]; rfl
  have e2 : Builtin.bitAnd (k : Int) ((k / 2 ^ s * 2 ^ s : Nat) : Int) = ((k / 2 ^ s * 2 ^ s : Nat) : Int) := by
    show (((Int.toNat (k : Int)) &&& (Int.toNat ((k / 2 ^ s * 2 ^ s : Nat) : Int)) : Nat) : Int) = _
    rw [Int.toNat_natCast, Int.toNat_natCast, and_high]
  rw [e, e2]
  have e3 := Nat.div_add_mod k (2 ^ s)
  have e4 : ((k : Int) % 2 ^ s) = ((k % 2 ^ s : Nat) : Int) := by
    rw [Int.natCast_emod, Int.natCast_pow]; rfl
  rw [e4]
  rw [Nat.mul_comm] at e3
  omega

/-- k figures to the base 2 ^ n, the lowest first -/
def digs (n : Nat) : Nat → Int → List Int
  | 0, _ => []
  | k + 1, x => x % 2 ^ n :: digs n k (x / 2 ^ n)
/-- the number that figures tell -/
def val (n : Nat) : List Int → Int
  | [] => 0
  | d :: r => d + 2 ^ n * val n r

theorem digs_length (n : Nat) : ∀ k x, (digs n k x).length = k
  | 0, _ => rfl
  | k + 1, x => by simp [digs, digs_length n k]

theorem emod_emod_pow {x : Int} {n a : Nat} (h : n ≤ a) : x % 2 ^ a % 2 ^ n = x % 2 ^ n := by
  apply Int.emod_emod_of_dvd
  exact ⟨2 ^ (a - n), by rw [← Int.pow_add]; congr 1; omega⟩

theorem emod_div_pow {x : Int} {n a : Nat} : x % 2 ^ (n + a) / 2 ^ n = x / 2 ^ n % 2 ^ a := by
  have h1 := Int.emod_def x (2 ^ (n + a))
  have hp := p2pos n
  have e : x % 2 ^ (n + a) = x + 2 ^ n * (-(2 ^ a * (x / 2 ^ (n + a)))) := by
    rw [h1, Int.pow_add]; rw [Int.mul_neg, ← Int.mul_assoc]; omega
  rw [e, Int.add_mul_ediv_left _ _ (by omega), Int.emod_def, ediv_ediv' (Int.le_of_lt hp), ← Int.pow_add]
  omega

theorem digs_split (n : Nat) : ∀ a b x, digs n (a + b) x = digs n a (x % 2 ^ (n * a)) ++ digs n b (x / 2 ^ (n * a))
  | 0, b, x => by simp [digs]
  | a + 1, b, x => by
    have e : n * (a + 1) = n + n * a := by rw [Nat.mul_add]; omega
    have e1 : a + 1 + b = (a + b) + 1 := by omega
    rw [e1, e]
    simp only [digs, List.cons_append]
    rw [digs_split n a b, emod_emod_pow (by omega), emod_div_pow, ediv_ediv' (Int.le_of_lt (p2pos n)), ← Int.pow_add]

theorem digs_one {n : Nat} {x : Int} (h0 : 0 ≤ x) (h1 : x < 2 ^ n) : digs n 1 x = [x] := by
  simp [digs, Int.emod_eq_of_lt h0 h1]

theorem val_digs (n : Nat) : ∀ k x, val n (digs n k x) = x % 2 ^ (n * k)
  | 0, x => by simp [digs, val]
  | k + 1, x => by
    have e : n * (k + 1) = n + n * k := by rw [Nat.mul_add]; omega
    simp only [digs, val]
    rw [val_digs n k, e, ← emod_div_pow]
    have h := Int.mul_ediv_add_emod (x % 2 ^ (n + n * k)) (2 ^ n)
    rw [emod_emod_pow (by omega)] at h
    omega

theorem digs_bound (n : Nat) : ∀ k x, ∀ d ∈ digs n k x, 0 ≤ d ∧ d < 2 ^ n
  | 0, _, d, h => by simp [digs] at h
  | k + 1, x, d, h => by
    simp only [digs, List.mem_cons] at h
    rcases h with rfl | h
    · exact ⟨Int.emod_nonneg _ (by have := p2pos n; omega), Int.emod_lt_of_pos _ (p2pos n)⟩
    · exact digs_bound n k _ d h

theorem val_append (n : Nat) : ∀ a b, val n (a ++ b) = val n a + 2 ^ (n * a.length) * val n b
  | [], b => by simp [val]
  | d :: r, b => by
    simp only [List.cons_append, val, val_append n r b, List.length_cons]
    rw [Nat.mul_add, Nat.mul_one, Nat.add_comm, Int.pow_add, Int.mul_add, Int.mul_assoc]
    omega

theorem bits_of_lt {x : Int} {k : Nat} (h0 : 0 ≤ x) (h1 : x < 2 ^ k) : Builtin.Int.intBits x ≤ k := by
  refine intBits_le_iff.mpr ?_
  have e : ((x.natAbs : Nat) : Int) < ((2 ^ k : Nat) : Int) := by
    rw [Int.natCast_pow]
    have : ((x.natAbs : Nat) : Int) = x := by omega
    rw [this]; exact h1
  exact Int.ofNat_lt.mp e
theorem bits_fdiv {x y : Int} {k : Nat} (h0 : 0 ≤ x) (h1 : x < 2 ^ k) : Builtin.Int.intBits (x.fdiv y) ≤ k := intBits_fdiv_le (bits_of_lt h0 h1)

theorem set_digs {n : Nat} {ns : List Int} {l : Nat} {x : Int} (hl : l < ns.length) (h0 : 0 ≤ x) (h1 : x < 2 ^ n) :
    ns.set l x = ns.take l ++ digs n 1 x ++ ns.drop (l + 1) := by
  rw [digs_one h0 h1, List.set_eq_take_append_cons_drop, if_pos hl]
  simp
theorem join_digs {n : Nat} {ns : List Int} {l a b : Nat} {x : Int} (hl : l + a + b ≤ ns.length) :
    (ns.take l ++ digs n a (x % 2 ^ (n * a)) ++ ns.drop (l + a)).take (l + a) ++ digs n b (x / 2 ^ (n * a)) ++ (ns.take l ++ digs n a (x % 2 ^ (n * a)) ++ ns.drop (l + a)).drop (l + a + b)
      = ns.take l ++ digs n (a + b) x ++ ns.drop (l + a + b) := by
  have e : (ns.take l ++ digs n a (x % 2 ^ (n * a))).length = l + a := by
    rw [List.length_append, digs_length, List.length_take]; omega
  rw [List.take_left' e]
  have e2 : (ns.take l ++ digs n a (x % 2 ^ (n * a)) ++ ns.drop (l + a)).drop (l + a + b) = ns.drop (l + a + b) := by
    rw [List.drop_append, List.drop_eq_nil_of_le (by omega), e, List.nil_append, List.drop_drop]
    congr 1; omega
  rw [e2, digs_split n a b x]
  simp
theorem splice_length {n : Nat} {ns : List Int} {l a : Nat} {x : Int} (hl : l + a ≤ ns.length) : (ns.take l ++ digs n a x ++ ns.drop (l + a)).length = ns.length := by
  simp [digs_length]; omega

/-- the same over integers, as the program has them -/
theorem set_digsI {n lo hi x : Int} {ns : List Int} (h0 : 0 ≤ lo) (e : lo + 1 = hi) (hh : hi ≤ ns.length) (hx : 0 ≤ x) (hx1 : x < 2 ^ (n.toNat * (hi - lo).toNat)) :
    ns.set lo.toNat x = ns.take lo.toNat ++ digs n.toNat (hi - lo).toNat x ++ ns.drop hi.toNat := by
  have e1 : (hi - lo).toNat = 1 := by omega
  have e2 : hi.toNat = lo.toNat + 1 := by omega
  rw [e1, Nat.mul_one] at hx1
  rw [e1, e2, set_digs (by omega) hx hx1]
theorem shiftI {n lo mid : Int} (hn : 0 ≤ n) (h : lo ≤ mid) : ((mid - lo) * n).toNat = n.toNat * (mid - lo).toNat := by
  obtain ⟨a, ha⟩ := Int.eq_ofNat_of_zero_le (show 0 ≤ mid - lo by omega)
  obtain ⟨b, rfl⟩ := Int.eq_ofNat_of_zero_le hn
  rw [ha, ← Int.natCast_mul, Int.toNat_natCast, Int.toNat_natCast, Int.toNat_natCast, Nat.mul_comm]
theorem lowI {n lo mid x : Int} (hn : 0 ≤ n) (h : lo ≤ mid) (hx : 0 ≤ x) : Builtin.bitXor x (x.fdiv (2 ^ ((mid - lo) * n).toNat) * 2 ^ ((mid - lo) * n).toNat) = x % 2 ^ (n.toNat * (mid - lo).toNat) := by
  rw [xor_low hx, shiftI hn h]
theorem upI {n lo mid x : Int} (hn : 0 ≤ n) (h : lo ≤ mid) : x.fdiv (2 ^ ((mid - lo) * n).toNat) = x / 2 ^ (n.toNat * (mid - lo).toNat) := by
  rw [fdiv_pos (Int.le_of_lt (p2pos _)), shiftI hn h]
theorem joinI {n lo mid hi x : Int} {ns : List Int} (h0 : 0 ≤ lo) (h1 : lo ≤ mid) (h2 : mid ≤ hi) (hh : hi ≤ ns.length) :
    (ns.take lo.toNat ++ digs n.toNat (mid - lo).toNat (x % 2 ^ (n.toNat * (mid - lo).toNat)) ++ ns.drop mid.toNat).take mid.toNat ++ digs n.toNat (hi - mid).toNat (x / 2 ^ (n.toNat * (mid - lo).toNat)) ++ (ns.take lo.toNat ++ digs n.toNat (mid - lo).toNat (x % 2 ^ (n.toNat * (mid - lo).toNat)) ++ ns.drop mid.toNat).drop hi.toNat
      = ns.take lo.toNat ++ digs n.toNat (hi - lo).toNat x ++ ns.drop hi.toNat := by
  have e1 : mid.toNat = lo.toNat + (mid - lo).toNat := by omega
  have e2 : hi.toNat = lo.toNat + (mid - lo).toNat + (hi - mid).toNat := by omega
  have e3 : (hi - lo).toNat = (mid - lo).toNat + (hi - mid).toNat := by omega
  rw [e1, e2, e3, join_digs (by omega)]
theorem low_lt {n lo mid x : Int} : 0 ≤ x % 2 ^ (n.toNat * (mid - lo).toNat) ∧ x % 2 ^ (n.toNat * (mid - lo).toNat) < 2 ^ (n.toNat * (mid - lo).toNat) :=
  ⟨Int.emod_nonneg _ (by have := p2pos (n.toNat * (mid - lo).toNat); omega), Int.emod_lt_of_pos _ (p2pos _)⟩
theorem up_lt {n lo mid hi x : Int} (h1 : lo ≤ mid) (h2 : mid ≤ hi) (hx : 0 ≤ x) (hx1 : x < 2 ^ (n.toNat * (hi - lo).toNat)) :
    0 ≤ x / 2 ^ (n.toNat * (mid - lo).toNat) ∧ x / 2 ^ (n.toNat * (mid - lo).toNat) < 2 ^ (n.toNat * (hi - mid).toNat) := by
  have e3 : (hi - lo).toNat = (hi - mid).toNat + (mid - lo).toNat := by omega
  rw [e3, Nat.mul_add, Int.pow_add] at hx1
  exact ⟨Int.ediv_nonneg hx (Int.le_of_lt (p2pos _)), Int.ediv_lt_of_lt_mul (p2pos _) hx1⟩
theorem spliceI_length {n lo mid : Int} {ns : List Int} {x : Int} (h0 : 0 ≤ lo) (h1 : lo ≤ mid) (hh : mid ≤ ns.length) : (ns.take lo.toNat ++ digs n.toNat (mid - lo).toNat x ++ ns.drop mid.toNat).length = ns.length := by
  have e1 : mid.toNat = lo.toNat + (mid - lo).toNat := by omega
  rw [e1, splice_length (by omega)]

theorem val_bound {n : Nat} : ∀ {l : List Int}, (∀ d ∈ l, 0 ≤ d ∧ d < 2 ^ n) → 0 ≤ val n l ∧ val n l < 2 ^ (n * l.length)
  | [], _ => by simp [val]
  | d :: r, h => by
    have hd := h d (List.mem_cons_self)
    have hr := val_bound (fun x hx => h x (List.mem_cons_of_mem _ hx)) (l := r)
    have hp := p2pos n
    constructor
    · simp only [val]
      have := Int.mul_nonneg (Int.le_of_lt hp) hr.1
      omega
    · simp only [val, List.length_cons]
      rw [Nat.mul_add, Nat.mul_one, Nat.add_comm, Int.pow_add]
      have h1 : 2 ^ n * (val n r + 1) ≤ 2 ^ n * 2 ^ (n * r.length) := Int.mul_le_mul_of_nonneg_left (by omega) (Int.le_of_lt hp)
      rw [Int.mul_add, Int.mul_one] at h1
      omega
/-- a run of a list -/
def seg (ns : List Int) (lo hi : Int) : List Int := (ns.drop lo.toNat).take (hi - lo).toNat
theorem seg_mem {ns : List Int} {lo hi : Int} {d : Int} (h : d ∈ seg ns lo hi) : d ∈ ns := List.mem_of_mem_drop (List.mem_of_mem_take h)
theorem seg_length {ns : List Int} {lo hi : Int} (h0 : 0 ≤ lo) (h1 : lo ≤ hi) (h2 : hi ≤ ns.length) : (seg ns lo hi).length = (hi - lo).toNat := by
  simp [seg]; omega
theorem seg_all {ns : List Int} : seg ns 0 ns.length = ns := by
  simp [seg]
theorem seg_join {ns : List Int} {lo mid hi : Int} (h0 : 0 ≤ lo) (h1 : lo ≤ mid) (h2 : mid ≤ hi) : seg ns lo hi = seg ns lo mid ++ seg ns mid hi := by
  unfold seg
  rw [show (hi - lo).toNat = (mid - lo).toNat + (hi - mid).toNat by omega, List.take_add, List.drop_drop,
    show lo.toNat + (mid - lo).toNat = mid.toNat by omega]
theorem val_one {n : Nat} {ns : List Int} {lo hi : Int} (h0 : 0 ≤ lo) (e : lo + 1 = hi) (h2 : hi ≤ ns.length) : val n (seg ns lo hi) = ns.getD lo.toNat 0 := by
  unfold seg
  have hl : lo.toNat < ns.length := by omega
  have e2 : ns.drop lo.toNat = ns[lo.toNat] :: ns.drop (lo.toNat + 1) := List.drop_eq_getElem_cons hl
  rw [show (hi - lo).toNat = 1 by omega, e2, List.take_succ_cons, List.take_zero]
  simp only [val, Int.mul_zero, Int.add_zero, List.getD_eq_getElem?_getD, List.getElem?_eq_getElem hl, Option.getD_some]
theorem val_join {n : Int} {ns : List Int} {lo mid hi : Int} (hn : 0 ≤ n) (h0 : 0 ≤ lo) (h1 : lo ≤ mid) (h2 : mid ≤ hi) (h3 : hi ≤ ns.length) :
    val n.toNat (seg ns mid hi) * 2 ^ ((mid - lo) * n).toNat + val n.toNat (seg ns lo mid) = val n.toNat (seg ns lo hi) := by
  rw [seg_join h0 h1 h2, val_append, seg_length h0 h1 (by omega), shiftI hn h1, Int.mul_comm, Int.add_comm]
theorem val_bits {n : Int} {ns : List Int} {lo hi : Int} (hn2 : n ≤ 10000) (h0 : 0 ≤ lo) (h1 : lo ≤ hi) (h2 : hi ≤ ns.length) (hlen : ns.length ≤ 60) (hb : ∀ d ∈ ns, 0 ≤ d ∧ d < 2 ^ n.toNat) :
    Builtin.Int.intBits (val n.toNat (seg ns lo hi)) ≤ 600000 := by
  have h := val_bound (n := n.toNat) (l := seg ns lo hi) (fun d hd => hb d (seg_mem hd))
  refine Nat.le_trans (bits_of_lt h.1 h.2) ?_
  rw [seg_length h0 h1 h2]
  exact Nat.le_trans (Nat.mul_le_mul (show n.toNat ≤ 10000 by omega) (show (hi - lo).toNat ≤ 60 by omega)) (by decide)

theorem lt_of_bits {a : Int} {k : Nat} (h : Builtin.Int.intBits a ≤ k) : a < 2 ^ k := by
  have h1 := intBits_le_iff.mp h
  have h2 : ((a.natAbs : Nat) : Int) < ((2 ^ k : Nat) : Int) := Int.ofNat_lt.mpr h1
  rw [Int.natCast_pow] at h2
  have h3 : ((2 : Nat) : Int) ^ k = 2 ^ k := rfl
  omega
theorem kk_facts {A n : Nat} (hn : 0 < n) (h : A ≤ 50 * n) :
    0 ≤ ((A : Int) + n - 1).fdiv n ∧ ((A : Int) + n - 1).fdiv n ≤ 50 ∧ A ≤ (n : Int).toNat * (((A : Int) + n - 1).fdiv n).toNat := by
  rw [fdiv_pos (by omega)]
  have e : ((A : Int) + n - 1) = ((A + n - 1 : Nat) : Int) := by omega
  rw [e, ← Int.natCast_ediv, Int.toNat_natCast, Int.toNat_natCast]
  refine ⟨Int.natCast_nonneg _, ?_, ?_⟩
  · have h9 : (A + n - 1) / n ≤ 50 := by
      apply Nat.le_of_lt_succ
      rw [Nat.div_lt_iff_lt_mul hn]; omega
    exact Int.ofNat_le.mpr h9
  · have h1 := Nat.lt_div_mul_add (a := A + n - 1) hn
    rw [Nat.mul_comm] at h1
    omega

theorem digs_get (n : Nat) : ∀ (k : Nat) (x : Int) (j : Nat) (d : Int), (digs n k x)[j]? = some d → d = x / 2 ^ (n * j) % 2 ^ n
  | 0, _, _, _, h => by simp [digs] at h
  | k + 1, x, 0, d, h => by simp [digs] at h; simp [h]
  | k + 1, x, j + 1, d, h => by
    simp only [digs, List.getElem?_cons_succ] at h
    have := digs_get n k _ j d h
    rw [this, Int.ediv_ediv_of_nonneg (Int.le_of_lt (p2pos n)), ← Int.pow_add, Nat.mul_add, Nat.mul_one, Nat.add_comm]

/-- the long division's state when i figures are taken, from the highest -/
structure DivInv (n : Nat) (a b : Int) (k i : Nat) (r : Int) (qs : List Int) : Prop where
  eq : b * val n qs.reverse + r = a / 2 ^ (n * (k - i))
  r0 : 0 ≤ r
  rb : r < b
  qb : ∀ q ∈ qs, 0 ≤ q ∧ q < 2 ^ n
  len : qs.length = i
theorem DivInv.start {n : Nat} {a b : Int} {k : Nat} (hb : 0 < b) (h0 : 0 ≤ a) (h1 : a < 2 ^ (n * k)) : DivInv n a b k 0 0 [] :=
  ⟨by simp [val, Int.ediv_eq_zero_of_lt h0 h1], Int.le_refl _, hb, by simp, rfl⟩
theorem DivInv.turn {n : Nat} {a b : Int} {k i : Nat} {r : Int} {qs : List Int} (h : DivInv n a b k i r qs) (hb : 0 < b) (hi : i < k) {d : Int} (hd : (digs n k a)[k - 1 - i]? = some d) :
    0 ≤ r * 2 ^ n + d ∧ r * 2 ^ n + d < b * 2 ^ n ∧ DivInv n a b k (i + 1) ((r * 2 ^ n + d) % b) (qs ++ [(r * 2 ^ n + d) / b]) := by
  have hd1 := digs_get n k a _ d hd
  have hp := p2pos n
  have hd2 : 0 ≤ d := by rw [hd1]; exact Int.emod_nonneg _ (by omega)
  have hd3 : d < 2 ^ n := by rw [hd1]; exact Int.emod_lt_of_pos _ hp
  have hx0 : 0 ≤ r * 2 ^ n + d := by have := Int.mul_nonneg h.r0 (Int.le_of_lt hp); omega
  have hx1 : r * 2 ^ n + d < b * 2 ^ n := by
    have h1 : (r + 1) * 2 ^ n ≤ b * 2 ^ n := Int.mul_le_mul_of_nonneg_right (by have := h.rb; omega) (Int.le_of_lt hp)
    rw [Int.add_mul, Int.one_mul] at h1; omega
  refine ⟨hx0, hx1, ?_, Int.emod_nonneg _ (by omega), Int.emod_lt_of_pos _ hb, ?_, by simp [h.len]⟩
  · have e1 : k - i = (k - (i + 1)) + 1 := by omega
    have e2 : k - 1 - i = k - (i + 1) := by omega
    have h2 := h.eq
    rw [e1, Nat.mul_add, Nat.mul_one, Int.pow_add, ← Int.ediv_ediv_of_nonneg (Int.le_of_lt (p2pos _))] at h2
    rw [e2] at hd1
    have h3 := Int.mul_ediv_add_emod (a / 2 ^ (n * (k - (i + 1)))) (2 ^ n)
    rw [← hd1, ← h2] at h3
    rw [← h3]
    have h4 := Int.mul_ediv_add_emod (r * 2 ^ n + d) b
    simp only [List.reverse_append, List.reverse_cons, List.reverse_nil, List.nil_append, List.cons_append, val]
    rw [Int.mul_add, Int.mul_add, ← Int.mul_assoc, ← Int.mul_assoc, Int.mul_comm b (2 ^ n), Int.mul_comm (2 ^ n) r]
    omega
  · intro q hq
    rcases List.mem_append.mp hq with hq | hq
    · exact h.qb q hq
    · rw [List.mem_singleton.mp hq]
      exact ⟨Int.ediv_nonneg hx0 (Int.le_of_lt hb), Int.ediv_lt_of_lt_mul hb (by rw [Int.mul_comm (2 ^ n) b]; exact hx1)⟩
theorem DivInv.done {n : Nat} {a b : Int} {k : Nat} {r : Int} {qs : List Int} (h : DivInv n a b k k r qs) : val n qs.reverse = a / b ∧ r = a % b := by
  have h1 := h.eq
  rw [Nat.sub_self, Nat.mul_zero, Int.pow_zero, Int.ediv_one] at h1
  have hb : 0 < b := by have := h.r0; have := h.rb; omega
  rw [← h1, Int.mul_comm, Int.add_comm, Int.add_mul_emod_self_right, Int.emod_eq_of_lt h.r0 h.rb, Int.add_mul_ediv_right _ _ (by omega), Int.ediv_eq_zero_of_lt h.r0 h.rb]
  omega
theorem noPylong_bits {x y : Int} {k : Nat} (h : Builtin.Int.intBits y ≤ k) (hk : k ≤ 8000) : Builtin.divisionGoesByPylong x y = false := by
  refine PyProof.noPylong_of_log2 ?_
  have h1 := intBits_le_iff.mp h
  by_cases h0 : y.natAbs = 0
  · rw [h0]; decide
  · exact Nat.lt_of_lt_of_le ((Nat.log2_lt h0).mpr h1) (by omega)
end

section
set_option maxRecDepth 100000
set_option maxHeartbeats 8000000
theorem said : OpenLaw.wellSaid PySem.Challenge.rw_un0010_01 = true := by
  rw [PySem.W.Fast.te9446332074065402090]
  kernel_rfl
noncomputable def mkView (p : Program) (s0 s1 s2 s3 s4 s5 s6 s7 s8 s9 s10 s11 s12 s13 s14 s15 s16 s17 s18 : Stmt) (_ : p.main.body = [s0, s1, s2, s3, s4, s5, s6, s7, s8, s9, s10, s11, s12, s13, s14, s15, s16, s17, s18]) : Program :=
  { p with main := { p.main with body := [s1, s2, s3, s4, s5, s6, s7, s9, s11, s12, s13, s14, s16, s17, s18] } }
noncomputable def view : Program := mkView PySem.Challenge.rw_un0010_01.row.toRowW.prog _ _ _ _ _ _ _ _ _ _ _ _ _ _ _ _ _ _ _ rfl
local macro_rules | `(tactic| o_law) => `(tactic| refine holds_law said fun said => ?_)
local macro_rules | `(tactic| o_head $H) => `(tactic| refine holds_open (q := view) (loose := []) (Xt := fun s => xlAt view [] s && recOk (RowW.records PySem.Challenge.rw_un0010_01.row.toRowW) s) (XP := XL view []) (Yf := Hook.obs $H) (Ya := Hook.val $H) (YP := Hook.says $H) (N := 2182) (by intro w; unfold openEnds fencedOpening topFrom; rw [PySem.W.Fast.te10274390034422433532, PySem.W.Fast.te1435165496053646825, PySem.W.Fast.te14289696077712309145, PySem.W.Fast.te14082659384304107361, PySem.W.Fast.te8920871248978507458, PySem.W.Fast.te5923862056798008813, PySem.W.Fast.te14364793385576792824, PySem.W.Fast.te4187177175401517315]; kernel_rfl) (Hook.of $H) (Hook.keeps $H) (fun s e => xl_of s (Bool.and_eq_true_iff.mp e).1) XL.keeps (by rfl) (by rfl) (by rfl) (fun s e => recFacts_of (Bool.and_eq_true_iff.mp e).2) (by rfl) (by first | assumption | decide +kernel) (by decide +kernel) ⟨rfl, rfl, rfl, rfl, rfl, by decide +kernel⟩ ?hw ?hc)
open_top hd for PySem.Challenge.rw_un0010_01
end

abbrev kTop (hdl : Option Value) (dp un : Nat) (gd : Option (List Code)) (cn : Str) (cs : Scope) (L a : Addr) (ccd : Value) (cl : List (Str × Addr)) (outer : List Env) : Around :=
  { handled := hdl, depth := dp, frames := some (envX cn cs L a ccd cl :: outer), guards := gd, units := un }

abbrev tupO (vs : Array Value) (c : Nat) : Obj := { cls := .type "tuple", data := .seq vs c }

theorem allLt_news {h₀ h : Heap} {L : Addr} {news : List (Addr × Obj)} (N : News h₀ L h news) : AllLt h.objs.size news := allLt_of fun p hp => Heap.lt_size (N p hp).1




theorem ne_of_allLt {a b : Nat} : ∀ {l : List (Addr × Obj)}, AllLt b l → b ≤ a → ∀ p ∈ l, p.1 ≠ a
  | [], _, _, _, hp => (nomatch hp)
  | q :: r, h, hab, p, hp => by
    rcases List.mem_cons.mp hp with rfl | hp
    · exact Nat.ne_of_lt (Nat.lt_of_lt_of_le h.1 hab)
    · exact ne_of_allLt h.2 hab p hp
theorem with_head {P : Prop} {g h : Heap} {L f : Addr} {o : Obj} {r : List (Addr × Obj)} (N : News g L h ((f, o) :: r)) (k : ∀ o', o' = o → News g L h ((f, o') :: r) → P) : P := k o rfl N
theorem with_obj {P : Prop} {g h : Heap} {L f : Addr} {o : Obj} {l r : List (Addr × Obj)} (N : News g L h (l ++ (f, o) :: r)) (k : ∀ o', o' = o → News g L h (l ++ (f, o') :: r) → P) : P := k o rfl N

theorem news_sub {g h : Heap} {L : Addr} {l l' : List (Addr × Obj)} (N : News g L h l) (hs : ∀ p ∈ l', p ∈ l) : News g L h l' := fun p hp => N p (hs p hp)
section Walks
theorem plain_Base : True ∧ True := by
  w_top off
  walk1 <;> trivial
local macro_rules | `(tactic| walk_at "mine enter") => `(tactic| (refine' code_def ?k1 ?k2 ?k3 ?k4 ?k5 ?kA ?kF ?kK ?k6 ?k7 ?k8 ?k9 ?kB ?_ ?c2 ?c3 ?c4 ?c5; (case kA => exact rfl); (case kF => exact rfl); (case kK => assumption); (case k1 => k_asm); (case k2 => k_asm); (case k3 => k_asm); (case k4 => k_asm); (case k5 => k_asm); (case k6 => k_is); (case k7 => k_is); (case k8 => ktr_room); (case k9 => exact BindsTo.of_eq rfl); (case c5 => decide); (case kB => exact locs rfl); (case c2 => exact rfl); (case c3 => exact rfl); (case c4 => exact rfl); k_whole; intro g' L' h' FG' F' N' B' X' T'; (try dsimp only); (try k_lift B'); (try k_fold)))
local macro_rules | `(tactic| walk_at "mine enterC") => `(tactic| (refine' code_defC ?k1 ?k2 ?k3 ?k4 ?k5 ?kA ?kF ?kK ?k6 ?k7 ?k8 ?k9 ?kB ?kD ?_ ?c2 ?c3 ?c4; (case kA => exact rfl); (case kF => exact rfl); (case kK => assumption); (case k1 => k_asm); (case k2 => k_asm); (case k3 => k_asm); (case k4 => k_asm); (case k5 => k_asm); (case k6 => k_is); (case k7 => k_is); (case k8 => ktr_room); (case k9 => exact BindsTo.of_eq rfl); (case kB => exact rfl); (case kD => decide +kernel); (case c2 => exact rfl); (case c3 => exact rfl); (case c4 => exact rfl); k_whole; intro g' L' h' tk' cells' FG' F' N' Y' B' X' T' l1; (try k_lt l1); k_cells Y'; (try simp only [List.cons_append, List.nil_append] at N'); (try dsimp only); (try k_lift B'); (try k_fold)))
local macro_rules | `(tactic| walk_at "mine enterN") => `(tactic| (refine' code_nest ?k1 ?k2 ?k3 ?k4 ?k5 ?kA ?kF ?kK ?k6 ?k7 ?k8 ?k9 ?kB ?_ ?c2 ?c3 ?c4 ?c5; (case kA => exact rfl); (case kF => exact rfl); (case kK => assumption); (case k1 => k_asm); (case k2 => k_asm); (case k3 => k_asm); (case k4 => k_asm); (case k5 => k_asm); (case k6 => k_mem); (case k7 => exact codeRec_news (by k_asm) (by k_mem) (by assumption) (by assumption)); (case k8 => ktr_room); (case k9 => exact BindsTo.of_eq rfl); (case c5 => decide); (case kB => exact locs rfl); (case c2 => exact rfl); (case c3 => exact rfl); (case c4 => exact rfl); k_whole; intro g' L' h' FG' F' N' B' X' T'; (try dsimp only); (try k_lift B'); (try k_fold)))
local macro_rules | `(tactic| walk_at "mine sub") => `(tactic| ((repeat' (refine List.forall_mem_cons.mpr ⟨by k_mem, ?_⟩)); (try exact List.forall_mem_nil _); (try (intro p hp; repeat' (first | exact hp | refine List.Mem.tail _ ?_)))))
local macro_rules | `(tactic| k_all) => `(tactic| first | with_reducible assumption | exact ne_of_allLt (by with_reducible assumption) (by omega))
section
set_option maxRecDepth 100000
set_option maxHeartbeats 8000000
theorem fillme : (fun (_:OpenLaw) (_ : Params → Frag) => True) PySem.Challenge.rw_un0010_01 hd.heap_1 := by
  k_fill
  trivial

local macro_rules | `(tactic| walk_at "call builtin:divmod") => `(tactic| ((with_reducible show wpAny _ _ (call (Value.builtin _) [Value.int _ _, Value.int _ _]) _ _ _); refine divmod_N (by assumption) (by assumption) (by assumption) ?_ (Or.inl (by assumption)); intro _ _ _))

theorem div2n1n {prog : Program} {w : World} {p : Program} {loose : List Str} {mean : ExcName → Option Value} {mg mb : Str → Option Value}
   (hdl : Option Value) (dp un : Nat) (gd : Option (List Code)) (cn : Str) (cs : Scope) (ca : Addr) (ccd : Value) (cl : List (Str × Addr)) (outer : List Env) (A₀ : Around) (base h₀ : Heap) (L : Addr) (m : Str → Option Value) (news : List (Addr × Obj)) (s : Shared)
   (Q E : Value → Shared → Prop) (a b n : Int) (ta tb tn : Tok)
   (B : Below A₀ base outer h₀) (F : Fr h₀ L s.heap m) (X : (hd.heap_1 w.params).In h₀) (N : News h₀ L s.heap news) (T : Top p loose mean mg mb h₀) (hk : cs.kind = .function)
   (hdp : dp < 900) (hun : un < 9000)
   (hb : b ≠ 0) (hbits : (Builtin.Int.intBits a : Int) - n ≤ 4000) (hnp : Builtin.divisionGoesByPylong a b = false)
   (hret : ∀ D t1 t2 c h' tk', Fr h₀ L h' m → News h₀ L h' ((D, tupO #[.int (Int.fdiv a b) t1, .int (Int.fmod a b) t2] c) :: news) → AllLt D news → Q (.ref D) { s with heap := h', toks := tk' }) :
    wpAny (model prog w) (kTop hdl dp un gd cn cs L ca ccd cl outer) (call (.ref 21) [.int a ta, .int b tb, .int n tn]) Q E s := by
  refine wpAny_call ?_
  k_dflt (walk_at "mine enter")
  k_steps
  refine hret _ _ _ _ _ _ (by assumption) (by assumption) (allLt_news (by assumption))
end

section
/-- here the walk halts -/
def Hold (P : Prop) : Prop := P
theorem Hold.out {P : Prop} (h : Hold P) : P := h
section
variable {prog : Program} {w : World} {A : Around} {E : Value → Shared → Prop} {s : Shared} {env : Env} {h₀ : Heap} {x : Str} {body : List Stmt} {Q : Flow → Shared → Prop}

/-- what a turn leaves: the iterator as it was, the kept objects, the word of the next turn -/
def TurnEnd (h₀ : Heap) (L I : Addr) (oI : Obj) (Jn : (Str → Option Value) → List (Addr × Obj) → Prop) (s : Shared) (s₂ : Shared) : Prop :=
  ∃ h' tk m' nx, s₂ = { s with heap := h', toks := tk } ∧ Fr h₀ L h' m' ∧ News h₀ L h' ((I, oI) :: nx) ∧ (∀ p ∈ nx, p.1 ≠ I) ∧ Jn m' nx
def TurnPost (h₀ : Heap) (L I : Addr) (oI : Obj) (Jn : (Str → Option Value) → List (Addr × Obj) → Prop) (s : Shared) (Q : Flow → Shared → Prop) (f : Flow) (s₂ : Shared) : Prop :=
  match f with
  | .ret v => Q (.ret v) s₂
  | .brk => Q .next s₂
  | _ => TurnEnd h₀ L I oI Jn s s₂

theorem loop_walk {I : Addr} {fp : List Addr} {n : Nat} {P : Nat → Value → Prop} {St : Nat → Heap → Prop} {m₀ : Str → Option Value} {news keep : List (Addr × Obj)} (J : Nat → (Str → Option Value) → List (Addr × Obj) → Prop)
    (W : Walks prog w A I fp [I] n P St) (hI : I ∈ fp) (hLf : env.locals ∉ fp) (hIn : h₀.get? I = none) (hnI : ∀ p ∈ news, p.1 ≠ I) (hst : St 0 s.heap)
    (F : Fr h₀ env.locals s.heap m₀) (N : News h₀ env.locals s.heap news) (hj : J 0 m₀ news) (hSt : ∀ i h, St i h → ∃ o, h.get? I = some o)
    (hkeep : ∀ i m nx, J i m nx → ∀ p ∈ keep, p ∈ nx) (hfp : ∀ b ∈ fp, b = I ∨ ∃ o, (b, o) ∈ keep)
    (turn : ∀ i v m₁ news₁ h tk oI, i < n → P i v → J i m₁ news₁ → (∀ p ∈ news₁, p.1 ≠ I) → Fr h₀ env.locals h (fun y => if y = x then some v else m₁ y) → News h₀ env.locals h ((I, oI) :: news₁) →
      wpAny (model prog w) A (execs body env) (TurnPost h₀ env.locals I oI (J (i + 1)) s Q) E { s with heap := h, toks := tk })
    (done : ∀ m₁ news₁ h tk, J n m₁ news₁ → Fr h₀ env.locals h m₁ → News h₀ env.locals h news₁ → Q .next { s with heap := h, toks := tk }) :
    LoopAtV prog w A h₀ env x body Q E (.ref I) s := by
  refine ⟨I, fp, [I], n, P, St, m₀, news, J, rfl, W, hLf, ?_, ?_, hst, F, N, hj, ?_, ?_⟩
  · intro b hb; rw [List.mem_singleton.mp hb]; exact hIn
  · intro p hp h; exact hnI p hp (List.mem_singleton.mp h)
  · rintro i v m₁ news₁ s₁ own ⟨hh', tk', rfl⟩ hin hP hJ hoff hown hget hall hst₁ F₁ N₁
    obtain ⟨oI, hoI⟩ := hSt _ _ hst₁
    have hmI : (I, oI) ∈ own := hall I hI hIn oI hoI
    have hoff' : ∀ p ∈ news₁, p.1 ≠ I := fun p hp e => hoff p hp (by rw [e]; exact List.mem_singleton.mpr rfl)
    have N₂ : News h₀ env.locals hh' ((I, oI) :: news₁) := fun p hp => by
      rcases List.mem_cons.mp hp with rfl | hp
      · exact N₁ _ (List.mem_append.mpr (.inl hmI))
      · exact N₁ _ (List.mem_append.mpr (.inr hp))
    have hk := hkeep _ _ _ hJ
    refine wpAny_mono (turn i v m₁ news₁ hh' tk' oI hin hP hJ hoff' F₁ N₂) (fun f s₂ p => ?_) fun _ _ e => e
    have fin : TurnEnd h₀ env.locals I oI (J (i + 1)) s s₂ → LoopStepU h₀ env.locals [I] own (J (i + 1)) { s with heap := hh', toks := tk' } .next s₂ := by
      rintro ⟨h', tk, m', nx, e, F', N', ho', hJ'⟩
      refine ⟨rfl, h', tk, m', nx, e, F', fun q hq => ?_, fun q hq hqI => ho' q hq (List.mem_singleton.mp hqI), hJ'⟩
      rcases List.mem_append.mp hq with h | h
      · rcases hfp _ (hown q h) with e1 | ⟨o, ho⟩
        · have e2 := hget q h
          rw [e1, hoI] at e2
          have : q = (I, oI) := Prod.ext e1 (Option.some.inj e2).symm
          rw [this]; exact N' _ (List.mem_cons_self)
        · have e2 := hget q h
          have e3 := (N₂ _ (.tail _ (hk _ ho))).1
          rw [e2] at e3
          have : q = (q.1, o) := Prod.ext rfl (Option.some.inj e3)
          rw [this]; exact N' _ (.tail _ (hkeep _ _ _ hJ' _ ho))
      · exact N' _ (.tail _ h)
    cases f with
    | ret v => exact .ret p
    | brk => exact .brk p
    | next => exact .next (fin p)
    | cont => exact .cont (fin p)
  · rintro h' tk m' news' F' N' _ hJ
    exact done m' news' h' tk hJ F' N'

theorem TurnEnd.intro {L I : Addr} {oI : Obj} {Jn : (Str → Option Value) → List (Addr × Obj) → Prop} {s : Shared} {h' : Heap} {tk : Nat} {m' : Str → Option Value} {nx : List (Addr × Obj)}
    (F : Fr h₀ L h' m') (N : News h₀ L h' ((I, oI) :: nx)) (ho : ∀ p ∈ nx, p.1 ≠ I) (hj : Jn m' nx) : TurnEnd h₀ L I oI Jn s { s with heap := h', toks := tk } := ⟨h', tk, m', nx, rfl, F, N, ho, hj⟩

/-- a loop over a list of the call's own, from behind -/
theorem loop_rev {I l : Addr} {vs : List Value} {nn : Nat} {m₀ : Str → Option Value} {news : List (Addr × Obj)} (J : Nat → (Str → Option Value) → List (Addr × Obj) → Prop)
    (hh : A.handled = none) (F : Fr h₀ env.locals s.heap m₀) (N : News h₀ env.locals s.heap ((I, revObj l ((vs.length : Int) - 1)) :: news)) (hm : (l, W.listOf vs.toArray nn) ∈ news) (hnI : ∀ p ∈ news, p.1 ≠ I)
    (hj : J 0 m₀ news) (hkeep : ∀ i m nx, J i m nx → (l, W.listOf vs.toArray nn) ∈ nx)
    (turn : ∀ i v m₁ news₁ h tk oI, i < vs.length → vs[vs.length - 1 - i]? = some v → J i m₁ news₁ → (∀ p ∈ news₁, p.1 ≠ I) → Fr h₀ env.locals h (fun y => if y = x then some v else m₁ y) → News h₀ env.locals h ((I, oI) :: news₁) →
      wpAny (model prog w) A (execs body env) (TurnPost h₀ env.locals I oI (J (i + 1)) s Q) E { s with heap := h, toks := tk })
    (done : ∀ m₁ news₁ h tk, J vs.length m₁ news₁ → Fr h₀ env.locals h m₁ → News h₀ env.locals h news₁ → Q .next { s with heap := h, toks := tk }) :
    wpAny (model prog w) A (pyIter (.ref I)) (fun it s₂ => LoopAtV prog w A h₀ env x body Q E it s₂) E s := by
  have hIx := N _ (List.mem_cons_self ..)
  have hl := N _ (.tail _ hm)
  have hls : s.heap.IsList l vs.toArray := ⟨_, hl.1, rfl, nn, rfl⟩
  have hne : l ≠ I := hnI _ hm
  have hit : s.heap.IsRevIter I l ((vs.length : Int) - 1) := ⟨_, hIx.1, rfl, rfl⟩
  refine wpAny_pyIter_revIter hit ?_
  have W9 := Walks.listRev (prog := prog) (w := w) hh I l hne vs.toArray
  have hlen : vs.toArray.size = vs.length := by simp
  rw [hlen] at W9
  refine loop_walk (keep := [(l, W.listOf vs.toArray nn)]) J W9 (by simp) ?_ hIx.2.2 hnI ⟨Nat.zero_le _, by simpa using hit, hls⟩ F (fun p hp => N p (.tail _ hp)) hj ?_ ?_ ?_ ?_ done
  · intro h
    rcases List.mem_cons.mp h with e | h
    · exact hIx.2.1 e.symm
    · exact hl.2.1 (List.mem_singleton.mp h).symm
  · rintro i h ⟨_, ⟨o, ho, _⟩, _⟩; exact ⟨o, ho⟩
  · intro i m nx h p hp; rw [List.mem_singleton.mp hp]; exact hkeep i m nx h
  · intro b hb
    rcases List.mem_cons.mp hb with e | hb
    · exact .inl e
    · exact .inr ⟨_, by rw [List.mem_singleton.mp hb]; exact List.mem_singleton.mpr rfl⟩
  · intro i v m₁ news₁ h tk oI hi hP
    exact turn i v m₁ news₁ h tk oI hi (by simpa using hP)
end
end

section
theorem plain_F2 : True ∧ True := by
  w_top off
  walk1 <;> trivial
set_option maxRecDepth 100000
set_option maxHeartbeats 8000000
theorem fillme2 : (fun (_:OpenLaw) (_ : Params → Frag) => True) PySem.Challenge.rw_un0010_01 hd.heap_1 := by
  k_fill
  trivial

local macro_rules | `(tactic| walk_at "binaryOp LShift int int") => `(tactic| with_reducible refine lshift_int (by with_reducible assumption) (by with_reducible assumption) ?_)
theorem int2digits {prog : Program} {w : World} {p : Program} {loose : List Str} {mean : ExcName → Option Value} {mg mb : Str → Option Value}
   (hdl : Option Value) (dp un : Nat) (gd : Option (List Code)) (cn : Str) (cs : Scope) (ca : Addr) (ccd : Value) (cl : List (Str × Addr)) (outer : List Env) (A₀ : Around) (base h₀ : Heap) (L : Addr) (m : Str → Option Value) (rest : List (Addr × Obj)) (s : Shared)
   (Q E : Value → Shared → Prop) (a n : Int) (ta tn : Tok)
   (B : Below A₀ base outer h₀) (F : Fr h₀ L s.heap m) (X : (hd.heap_1 w.params).In h₀) (N : News h₀ L s.heap ((30, tabObj #[]) :: rest)) (T : Top p loose mean mg mb h₀) (hk : cs.kind = .function)
   (hC : CodeHd base 34 30) (hoff : ∀ p ∈ rest, p.1 ≠ 30)
   (hdp : dp < 800) (hun : un < 9000)
   (hn : 0 < n) (hn2 : n ≤ 10000) (hbits : Builtin.Int.intBits a ≤ 10000) (ha : 0 ≤ a) (kk : Int) (hkk : Int.fdiv ((Builtin.Int.intBits a : Int) + n - 1) n = kk) (hk0 : 0 ≤ kk) (hk1 : kk ≤ 60) (hab : a < 2 ^ (n.toNat * kk.toNat))
   (hret : ∀ D vs cc c1 oc1 vs1 t1 h' tk', Fr h₀ L h' m → News h₀ L h' ((D, W.listOf vs.toArray cc) :: (30, tabObj (#[] ++ #[rawInt 32, rawInt 4, .ref c1])) :: (c1, oc1) :: rest) → oc1.data = .fields vs1 → vs1[1]? = some (.str "_int2digits.<locals>.inner" t1) →
      IntsAre vs (digs n.toNat kk.toNat a) → AllLt D ((30, tabObj #[]) :: rest) → D < c1 → Q (.ref D) { s with heap := h', toks := tk' }) :
    wpAny (model prog w) (kTop hdl dp un gd cn cs L ca ccd cl outer) (call (.ref 35) [.int a ta, .int n tn]) Q E s := by
  refine wpAny_call ?_
  k_dflt (walk_at "mine enterC")
  rename (_ ∧ AllLt _ rest) => hl1
  have hl2 := hl1.2
  k_steps
  · rename_i g1 L1 h0' tk0 FG1 B1 X1 T1 o1 o2 o3 d1 d2 d3 l' h1 l1 D1 h2 i1 n1 s1 e1 e2 e3 l1b h3 oA dA f1 c1 oc vs1 t1 ct dc h4 tk1 dd1 dd2 l1c l2c h5 oI F1 N1 dI a0
    refine with_head N1 (fun fo hfo N2 => ?_)
    clear N1
    have key : ∀ (fu : Nat) (dp un : Nat) (gd : Option (List Code)) (cn : Str) (cs : Scope) (ca : Addr) (ccd : Value) (cl : List (Str × Addr)) (outer : List Env) (A₀ : Around) (h₀ : Heap) (L : Addr) (m : Str → Option Value) (rest : List (Addr × Obj)) (s : Shared)
       (Q E : Value → Shared → Prop) (x lo hi : Int) (tx tlo thi : Tok) (vs : List Value) (ns : List Int),
       Below A₀ base outer h₀ → Fr h₀ L s.heap m → (hd.heap_1 w.params).In h₀ → News h₀ L s.heap ((D1, W.listOf vs.toArray 0) :: (f1, fo) :: (c1, oc) :: (L1 + 1 + 1 + 1, oI) :: (L1 + 1 + 1, oA) :: (L1 + 1, o3) :: rest) → Top p loose mean mg mb h₀ → cs.kind = .function →
       IntsAre vs ns → (∀ p ∈ rest, p.1 ≠ D1) → hi - lo ≤ fu → 0 ≤ lo → lo < hi → hi ≤ ns.length → ns.length ≤ 60 → dp + fu < 950 → un + 8 * fu < 9600 →
       0 ≤ x → x < 2 ^ (n.toNat * (hi - lo).toNat) →
       (∀ vs' h' tk', Fr h₀ L h' m → News h₀ L h' ((D1, W.listOf vs'.toArray 0) :: (f1, fo) :: (c1, oc) :: (L1 + 1 + 1 + 1, oI) :: (L1 + 1 + 1, oA) :: (L1 + 1, o3) :: rest) →
          IntsAre vs' (ns.take lo.toNat ++ digs n.toNat (hi - lo).toNat x ++ ns.drop hi.toNat) → Q .none { s with heap := h', toks := tk' }) →
       wpAny (model prog w) (kTop hdl dp un gd cn cs L ca ccd cl outer) (call (.ref f1) [.int x tx, .int lo tlo, .int hi thi]) Q E s := by
      clear hret FG1 B1 X1 T1 F1 N2 N B F X T hoff hl1 hl2 i1 s1 e1 e2 e3
      intro fu
      induction fu with
      | zero => intros; omega
      | succ fu ih =>
        intro dp un gd cn cs ca ccd cl outer A₀ h₀ L m rest s Q E x lo hi tx tlo thi vs ns B F X N T hk hi1 hoff hN h0 hlt hhi hlen hdp hun hx0 hx1 hret
        have hm0 : (lo + hi).fdiv (2 ^ Int.toNat 1) = (lo + hi) / 2 := Int.fdiv_eq_ediv_of_nonneg _ (by decide)
        have hs0 : 0 ≤ ((lo + hi).fdiv (2 ^ Int.toNat 1) - lo) * n := by rw [hm0]; exact Int.mul_nonneg (by omega) (by omega)
        have hs1 : ((lo + hi).fdiv (2 ^ Int.toNat 1) - lo) * n ≤ 600000 := by
          rw [hm0]; exact Int.le_trans (Int.mul_le_mul_of_nonneg_right (b := 60) (by omega) (by omega)) (by omega)
        have hxb : Builtin.Int.intBits (x.fdiv (2 ^ (((lo + hi).fdiv (2 ^ Int.toNat 1) - lo) * n).toNat)) ≤ n.toNat * (hi - lo).toNat := bits_fdiv hx0 hx1
        have hxc : n.toNat * (hi - lo).toNat ≤ 10000 * 60 := Nat.mul_le_mul (by omega) (by omega)
        have hs2 : (Builtin.Int.intBits (x.fdiv (2 ^ (((lo + hi).fdiv (2 ^ Int.toNat 1) - lo) * n).toNat)) : Int) + ((lo + hi).fdiv (2 ^ Int.toNat 1) - lo) * n ≤ 2 ^ 27 := by omega
        subst hfo
        refine wpAny_call ?_
        k_dflt (walk_at "mine enterN")
        k_steps
        · rename_i hkF hkN _ _
          dsimp only at hkF hkN
          refine hret _ _ _ hkF hkN ?_
          rw [← set_digsI h0 (by assumption) hhi hx0 hx1]
          assumption
        · rename_i hlo2 _ _ _ _
          have hmid1 : lo < (lo + hi).fdiv (2 ^ Int.toNat 1) := by omega
          have hmid2 : (lo + hi).fdiv (2 ^ Int.toNat 1) < hi := by omega
          have hn0 : 0 ≤ n := by omega
          have hlow := lowI hn0 (Int.le_of_lt hmid1) hx0
          have hup := upI (x := x) hn0 (Int.le_of_lt hmid1)
          refine ih _ _ _ _ _ _ _ _ _ _ _ _ _ _ _ _ _ _ _ _ _ _ _ vs ns (by assumption) (by assumption) (by assumption) (by assumption) (by assumption) rfl hi1 hoff ?_ h0 hmid1 ?_ hlen ?_ ?_ ?_ ?_ ?_
          · omega
          · omega
          · show dp + 1 + fu < 950; omega
          · show un + 3 + 8 * fu < 9600; omega
          · rw [hlow]; exact low_lt.1
          · rw [hlow]; exact low_lt.2
          · intro vs' h' tk' F1 N1 I1
            rw [hlow] at I1
            dsimp only
            k_steps
            have hle := spliceI_length (n := n) (x := x % 2 ^ (n.toNat * ((lo + hi).fdiv (2 ^ Int.toNat 1) - lo).toNat)) (ns := ns) h0 (Int.le_of_lt hmid1) (by omega)
            refine ih _ _ _ _ _ _ _ _ _ _ _ _ _ _ _ _ _ _ _ _ _ _ _ vs' _ (by assumption) F1 (by assumption) N1 (by assumption) rfl I1 hoff ?_ (by omega) hmid2 ?_ ?_ ?_ ?_ ?_ ?_ ?_
            · omega
            · rw [hle]; omega
            · rw [hle]; omega
            · show dp + 1 + fu < 950; omega
            · show un + 3 + 8 * fu < 9600; omega
            · rw [hup]; exact (up_lt (Int.le_of_lt hmid1) (Int.le_of_lt hmid2) hx0 hx1).1
            · rw [hup]; exact (up_lt (Int.le_of_lt hmid1) (Int.le_of_lt hmid2) hx0 hx1).2
            · intro vs2 h2 tk2 F2 N2 I2
              rw [hup, joinI h0 (Int.le_of_lt hmid1) (Int.le_of_lt hmid2) hhi] at I2
              dsimp only
              k_steps
              rename_i hkF hkN _ _
              exact hret _ _ _ hkF hkN I2
    have hn1 : (n1 : Int) = kk := by
      have := e3 (by omega); omega
    have hn2 : 0 < kk := by
      rcases Int.lt_or_eq_of_le hk0 with h | h
      · exact h
      · rw [← h] at hab; simp at hab; omega
    have hns : ((List.replicate ((↑(Builtin.Int.intBits a) + n - 1).fdiv n).toNat [(0 : Int)]).flatten).length = n1 := e1
    have N3 := news_sub N2 (l' := (D1, _) :: (f1, fo) :: (c1, oc) :: (L1 + 1 + 1 + 1, oI) :: (L1 + 1 + 1, oA) :: (L1 + 1, o3) :: (30, tabObj (#[] ++ #[rawInt 32, rawInt 4, .ref c1])) :: rest) (by walk_at "mine sub")
    refine key n1 _ _ _ _ _ _ _ _ _ _ _ _ _ _ _ _ _ _ _ _ _ _ _ _ _ (by assumption) F1 (by assumption) N3 (by assumption) rfl i1 ?_ ?_ ?_ ?_ ?_ ?_ ?_ ?_ ?_ ?_ ?_
    · refine List.forall_mem_cons.mpr ⟨by k_ne, ?_⟩
      exact ne_of_allLt l1b.2.2.2.2.2 (Nat.le_refl _)
    · omega
    · omega
    · omega
    · rw [hns]; omega
    · rw [hns]; omega
    · show dp + 1 + n1 < 950; omega
    · show un + 3 + 8 * n1 < 9600; omega
    · exact ha
    · rw [show ((n1 : Int) - 0).toNat = kk.toNat by omega]; exact hab
    · intro vs2 h2 tk2 F2 N2 I2
      dsimp only
      k_steps
      rename_i hkF hkN _ _
      refine hret D1 vs2 0 c1 oc vs1 t1 _ _ hkF (news_sub hkN (by walk_at "mine sub")) dd1 dd2 ?_ l1b.2.2.2.2 l1c.1
      rw [show ((n1 : Int) - 0).toNat = kk.toNat by omega, List.drop_eq_nil_of_le (by rw [hns]; omega)] at I2
      simpa using I2
  · rename_i g1 L1 h0' tk0 FG1 B1 X1 T1 o1 o2 o3 d1 d2 d3 l' h1 l1 D1 h2 i1 n1 s1 e1 e2 e3 l1b h3 oA dA f1 c1 oc vs1 t1 ct dc h4 tk1 dd1 dd2 l1c l2c h5 oI F1 N1 dI a0 kF kN _ _
    refine hret D1 _ 0 c1 oc vs1 t1 _ _ kF (news_sub kN (by walk_at "mine sub")) dd1 dd2 ?_ l1b.2.2.2.2 l1c.1
    have hk9 : kk = 0 := by
      rw [← hkk, a0, show Builtin.Int.intBits 0 = 0 from by decide, Int.fdiv_eq_ediv_of_nonneg _ (by omega)]
      exact Int.ediv_eq_zero_of_lt (by omega) (by omega)
    rw [hkk, hk9]
    exact IntsAre.nil
end

section
theorem plain_F2H : True ∧ True := by
  w_top off
  walk1 <;> trivial
set_option maxRecDepth 100000
set_option maxHeartbeats 8000000
theorem fillme2H : (fun (_:OpenLaw) (_ : Params → Frag) => True) PySem.Challenge.rw_un0010_01 hd.heap_1 := by
  k_fill
  trivial

local macro_rules | `(tactic| walk_at "binaryOp LShift int int") => `(tactic| with_reducible refine lshift_int (by with_reducible assumption) (by with_reducible assumption) ?_)
theorem int2digitsH {prog : Program} {w : World} {p : Program} {loose : List Str} {mean : ExcName → Option Value} {mg mb : Str → Option Value}
   (hdl : Option Value) (dp un : Nat) (gd : Option (List Code)) (cn : Str) (cs : Scope) (ca : Addr) (ccd : Value) (cl : List (Str × Addr)) (outer : List Env) (A₀ : Around) (base h₀ : Heap) (L : Addr) (m : Str → Option Value) (rest : List (Addr × Obj)) (s : Shared)
   (Q E : Value → Shared → Prop) (a n : Int) (ta tn : Tok)
   (B : Below A₀ base outer h₀) (F : Fr h₀ L s.heap m) (X : (hd.heap_1 w.params).In h₀) (c1 : Addr) (oc : Obj) (vs1 : Array Value) (t1 : Tok) (N : News h₀ L s.heap ((30, tabObj (#[] ++ #[rawInt 32, rawInt 4, .ref c1])) :: (c1, oc) :: rest)) (dd1 : oc.data = .fields vs1) (dd2 : vs1[1]? = some (.str "_int2digits.<locals>.inner" t1)) (T : Top p loose mean mg mb h₀) (hk : cs.kind = .function)
   (hC : CodeHd base 34 30)
   (hdp : dp < 800) (hun : un < 9000)
   (hn : 0 < n) (hn2 : n ≤ 10000) (hbits : Builtin.Int.intBits a ≤ 10000) (ha : 0 ≤ a) (kk : Int) (hkk : Int.fdiv ((Builtin.Int.intBits a : Int) + n - 1) n = kk) (hk0 : 0 ≤ kk) (hk1 : kk ≤ 60) (hab : a < 2 ^ (n.toNat * kk.toNat))
   (hret : ∀ D vs cc h' tk', Fr h₀ L h' m → News h₀ L h' ((D, W.listOf vs.toArray cc) :: (30, tabObj (#[] ++ #[rawInt 32, rawInt 4, .ref c1])) :: (c1, oc) :: rest) →
      IntsAre vs (digs n.toNat kk.toNat a) → AllLt D ((30, tabObj (#[] ++ #[rawInt 32, rawInt 4, .ref c1])) :: (c1, oc) :: rest) → Q (.ref D) { s with heap := h', toks := tk' }) :
    wpAny (model prog w) (kTop hdl dp un gd cn cs L ca ccd cl outer) (call (.ref 35) [.int a ta, .int n tn]) Q E s := by
  refine wpAny_call ?_
  k_dflt (walk_at "mine enterC")
  rename (_ ∧ _ ∧ AllLt _ rest) => hl1
  have hl2 := hl1.2.2
  k_steps
  · rename_i g1 L1 h0' tk0 FG1 B1 X1 T1 o1 o2 o3 d1 d2 d3 l' h1 l1 D1 h2 i1 n1 s1 e1 e2 e3 l1b h3 oA dA f1 ct dc h4 tk1 l1c h5 oI F1 N1 dI a0
    refine with_head N1 (fun fo hfo N2 => ?_)
    clear N1
    have key : ∀ (fu : Nat) (dp un : Nat) (gd : Option (List Code)) (cn : Str) (cs : Scope) (ca : Addr) (ccd : Value) (cl : List (Str × Addr)) (outer : List Env) (A₀ : Around) (h₀ : Heap) (L : Addr) (m : Str → Option Value) (rest : List (Addr × Obj)) (s : Shared)
       (Q E : Value → Shared → Prop) (x lo hi : Int) (tx tlo thi : Tok) (vs : List Value) (ns : List Int),
       Below A₀ base outer h₀ → Fr h₀ L s.heap m → (hd.heap_1 w.params).In h₀ → News h₀ L s.heap ((D1, W.listOf vs.toArray 0) :: (f1, fo) :: (c1, oc) :: (L1 + 1 + 1 + 1, oI) :: (L1 + 1 + 1, oA) :: (L1 + 1, o3) :: rest) → Top p loose mean mg mb h₀ → cs.kind = .function →
       IntsAre vs ns → (∀ p ∈ rest, p.1 ≠ D1) → hi - lo ≤ fu → 0 ≤ lo → lo < hi → hi ≤ ns.length → ns.length ≤ 60 → dp + fu < 950 → un + 8 * fu < 9600 →
       0 ≤ x → x < 2 ^ (n.toNat * (hi - lo).toNat) →
       (∀ vs' h' tk', Fr h₀ L h' m → News h₀ L h' ((D1, W.listOf vs'.toArray 0) :: (f1, fo) :: (c1, oc) :: (L1 + 1 + 1 + 1, oI) :: (L1 + 1 + 1, oA) :: (L1 + 1, o3) :: rest) →
          IntsAre vs' (ns.take lo.toNat ++ digs n.toNat (hi - lo).toNat x ++ ns.drop hi.toNat) → Q .none { s with heap := h', toks := tk' }) →
       wpAny (model prog w) (kTop hdl dp un gd cn cs L ca ccd cl outer) (call (.ref f1) [.int x tx, .int lo tlo, .int hi thi]) Q E s := by
      clear hret FG1 B1 X1 T1 F1 N2 N B F X T hl1 hl2 i1 s1 e1 e2 e3
      intro fu
      induction fu with
      | zero => intros; omega
      | succ fu ih =>
        intro dp un gd cn cs ca ccd cl outer A₀ h₀ L m rest s Q E x lo hi tx tlo thi vs ns B F X N T hk hi1 hoff hN h0 hlt hhi hlen hdp hun hx0 hx1 hret
        have hm0 : (lo + hi).fdiv (2 ^ Int.toNat 1) = (lo + hi) / 2 := Int.fdiv_eq_ediv_of_nonneg _ (by decide)
        have hs0 : 0 ≤ ((lo + hi).fdiv (2 ^ Int.toNat 1) - lo) * n := by rw [hm0]; exact Int.mul_nonneg (by omega) (by omega)
        have hs1 : ((lo + hi).fdiv (2 ^ Int.toNat 1) - lo) * n ≤ 600000 := by
          rw [hm0]; exact Int.le_trans (Int.mul_le_mul_of_nonneg_right (b := 60) (by omega) (by omega)) (by omega)
        have hxb : Builtin.Int.intBits (x.fdiv (2 ^ (((lo + hi).fdiv (2 ^ Int.toNat 1) - lo) * n).toNat)) ≤ n.toNat * (hi - lo).toNat := bits_fdiv hx0 hx1
        have hxc : n.toNat * (hi - lo).toNat ≤ 10000 * 60 := Nat.mul_le_mul (by omega) (by omega)
        have hs2 : (Builtin.Int.intBits (x.fdiv (2 ^ (((lo + hi).fdiv (2 ^ Int.toNat 1) - lo) * n).toNat)) : Int) + ((lo + hi).fdiv (2 ^ Int.toNat 1) - lo) * n ≤ 2 ^ 27 := by omega
        subst hfo
        refine wpAny_call ?_
        k_dflt (walk_at "mine enterN")
        k_steps
        · rename_i hkF hkN _ _
          dsimp only at hkF hkN
          refine hret _ _ _ hkF hkN ?_
          rw [← set_digsI h0 (by assumption) hhi hx0 hx1]
          assumption
        · rename_i hlo2 _ _ _ _
          have hmid1 : lo < (lo + hi).fdiv (2 ^ Int.toNat 1) := by omega
          have hmid2 : (lo + hi).fdiv (2 ^ Int.toNat 1) < hi := by omega
          have hn0 : 0 ≤ n := by omega
          have hlow := lowI hn0 (Int.le_of_lt hmid1) hx0
          have hup := upI (x := x) hn0 (Int.le_of_lt hmid1)
          refine ih _ _ _ _ _ _ _ _ _ _ _ _ _ _ _ _ _ _ _ _ _ _ _ vs ns (by assumption) (by assumption) (by assumption) (by assumption) (by assumption) rfl hi1 hoff ?_ h0 hmid1 ?_ hlen ?_ ?_ ?_ ?_ ?_
          · omega
          · omega
          · show dp + 1 + fu < 950; omega
          · show un + 3 + 8 * fu < 9600; omega
          · rw [hlow]; exact low_lt.1
          · rw [hlow]; exact low_lt.2
          · intro vs' h' tk' F1 N1 I1
            rw [hlow] at I1
            dsimp only
            k_steps
            have hle := spliceI_length (n := n) (x := x % 2 ^ (n.toNat * ((lo + hi).fdiv (2 ^ Int.toNat 1) - lo).toNat)) (ns := ns) h0 (Int.le_of_lt hmid1) (by omega)
            refine ih _ _ _ _ _ _ _ _ _ _ _ _ _ _ _ _ _ _ _ _ _ _ _ vs' _ (by assumption) F1 (by assumption) N1 (by assumption) rfl I1 hoff ?_ (by omega) hmid2 ?_ ?_ ?_ ?_ ?_ ?_ ?_
            · omega
            · rw [hle]; omega
            · rw [hle]; omega
            · show dp + 1 + fu < 950; omega
            · show un + 3 + 8 * fu < 9600; omega
            · rw [hup]; exact (up_lt (Int.le_of_lt hmid1) (Int.le_of_lt hmid2) hx0 hx1).1
            · rw [hup]; exact (up_lt (Int.le_of_lt hmid1) (Int.le_of_lt hmid2) hx0 hx1).2
            · intro vs2 h2 tk2 F2 N2 I2
              rw [hup, joinI h0 (Int.le_of_lt hmid1) (Int.le_of_lt hmid2) hhi] at I2
              dsimp only
              k_steps
              rename_i hkF hkN _ _
              exact hret _ _ _ hkF hkN I2
    have hn1 : (n1 : Int) = kk := by
      have := e3 (by omega); omega
    have hn2 : 0 < kk := by
      rcases Int.lt_or_eq_of_le hk0 with h | h
      · exact h
      · rw [← h] at hab; simp at hab; omega
    have hns : ((List.replicate ((↑(Builtin.Int.intBits a) + n - 1).fdiv n).toNat [(0 : Int)]).flatten).length = n1 := e1
    have N3 := news_sub N2 (l' := (D1, _) :: (f1, fo) :: (c1, oc) :: (L1 + 1 + 1 + 1, oI) :: (L1 + 1 + 1, oA) :: (L1 + 1, o3) :: (30, tabObj (#[] ++ #[rawInt 32, rawInt 4, .ref c1])) :: rest) (by walk_at "mine sub")
    refine key n1 _ _ _ _ _ _ _ _ _ _ _ _ _ _ _ _ _ _ _ _ _ _ _ _ _ (by assumption) F1 (by assumption) N3 (by assumption) rfl i1 ?_ ?_ ?_ ?_ ?_ ?_ ?_ ?_ ?_ ?_ ?_
    · refine List.forall_mem_cons.mpr ⟨by k_ne, ?_⟩
      exact ne_of_allLt l1b.2.2.2.2.2.2 (Nat.le_refl _)
    · omega
    · omega
    · omega
    · rw [hns]; omega
    · rw [hns]; omega
    · show dp + 1 + n1 < 950; omega
    · show un + 3 + 8 * n1 < 9600; omega
    · exact ha
    · rw [show ((n1 : Int) - 0).toNat = kk.toNat by omega]; exact hab
    · intro vs2 h2 tk2 F2 N2 I2
      dsimp only
      k_steps
      rename_i hkF hkN _ _
      refine hret D1 vs2 0 _ _ hkF (news_sub hkN (by walk_at "mine sub")) ?_ l1b.2.2.2.2
      rw [show ((n1 : Int) - 0).toNat = kk.toNat by omega, List.drop_eq_nil_of_le (by rw [hns]; omega)] at I2
      simpa using I2
  · rename_i g1 L1 h0' tk0 FG1 B1 X1 T1 o1 o2 o3 d1 d2 d3 l' h1 l1 D1 h2 i1 n1 s1 e1 e2 e3 l1b h3 oA dA f1 ct dc h4 tk1 l1c h5 oI F1 N1 dI a0 kF kN _ _
    refine hret D1 _ 0 _ _ kF (news_sub kN (by walk_at "mine sub")) ?_ l1b.2.2.2.2
    have hk9 : kk = 0 := by
      rw [← hkk, a0, show Builtin.Int.intBits 0 = 0 from by decide, Int.fdiv_eq_ediv_of_nonneg _ (by omega)]
      exact Int.ediv_eq_zero_of_lt (by omega) (by omega)
    rw [hkk, hk9]
    exact IntsAre.nil
end

section
theorem plain_F3 : True ∧ True := by
  w_top off
  walk1 <;> trivial
set_option maxRecDepth 100000
set_option maxHeartbeats 8000000
theorem fillme3 : (fun (_:OpenLaw) (_ : Params → Frag) => True) PySem.Challenge.rw_un0010_01 hd.heap_1 := by
  k_fill
  trivial

local macro_rules | `(tactic| walk_at "binaryOp LShift int int") => `(tactic| with_reducible refine lshift_int (by with_reducible assumption) (by with_reducible assumption) ?_)
theorem digits2int {prog : Program} {w : World} {p : Program} {loose : List Str} {mean : ExcName → Option Value} {mg mb : Str → Option Value}
   (hdl : Option Value) (dp un : Nat) (gd : Option (List Code)) (cn : Str) (cs : Scope) (ca : Addr) (ccd : Value) (cl : List (Str × Addr)) (outer : List Env) (A₀ : Around) (base h₀ : Heap) (L : Addr) (m : Str → Option Value) (rest : List (Addr × Obj)) (s : Shared)
   (Q E : Value → Shared → Prop) (D0 : Addr) (vs : List Value) (ns : List Int) (cc : Nat) (n : Int) (tn : Tok)
   (B : Below A₀ base outer h₀) (F : Fr h₀ L s.heap m) (X : (hd.heap_1 w.params).In h₀) (N : News h₀ L s.heap ((37, tabObj #[]) :: (D0, W.listOf vs.toArray cc) :: rest)) (T : Top p loose mean mg mb h₀) (hk : cs.kind = .function)
   (hC : CodeHd base 41 37) (hoff : ∀ p ∈ rest, p.1 ≠ 37) (hoff2 : D0 ≠ 37)
   (hdp : dp < 800) (hun : un < 9000) (hI : IntsAre vs ns) (hlen : ns.length ≤ 60) (hb : ∀ d ∈ ns, 0 ≤ d ∧ d < 2 ^ n.toNat)
   (hn : 0 < n) (hn2 : n ≤ 10000)
   (hret : ∀ c1 oc1 vs1 t1 tr h' tk', Fr h₀ L h' m → News h₀ L h' ((37, tabObj (#[] ++ #[rawInt 47, rawInt 4, .ref c1])) :: (c1, oc1) :: (D0, W.listOf vs.toArray cc) :: rest) → oc1.data = .fields vs1 → vs1[1]? = some (.str "_digits2int.<locals>.inner" t1) →
      AllLt c1 ((37, tabObj #[]) :: (D0, W.listOf vs.toArray cc) :: rest) → Q (.int (val n.toNat ns) tr) { s with heap := h', toks := tk' }) :
    wpAny (model prog w) (kTop hdl dp un gd cn cs L ca ccd cl outer) (call (.ref 42) [.ref D0, .int n tn]) Q E s := by
  refine wpAny_call ?_
  k_dflt (walk_at "mine enterC")
  rename (_ ∧ _ ∧ AllLt _ rest) => hl1
  have hl2 := hl1.2.2
  k_steps
  · rename_i g1 L1 h0' tk0 FG1 B1 X1 T1 o1 o2 o3 d1 d2 d3 f1 c1 oc vs1 t1 ct dc h4 tk1 dd1 dd2 l1c l2c h5 oI F1 N1 dI a0
    refine with_head N1 (fun fo hfo N2 => ?_)
    clear N1
    have key : ∀ (fu : Nat) (dp un : Nat) (gd : Option (List Code)) (cn : Str) (cs : Scope) (ca : Addr) (ccd : Value) (cl : List (Str × Addr)) (outer : List Env) (A₀ : Around) (h₀ : Heap) (L : Addr) (m : Str → Option Value) (rest : List (Addr × Obj)) (s : Shared)
       (Q E : Value → Shared → Prop) (lo hi : Int) (tlo thi : Tok),
       Below A₀ base outer h₀ → Fr h₀ L s.heap m → (hd.heap_1 w.params).In h₀ → News h₀ L s.heap ((D0, W.listOf vs.toArray cc) :: (f1, fo) :: (c1, oc) :: (L1 + 1 + 1 + 1, oI) :: (L1 + 1 + 1, o2) :: (L1 + 1, o3) :: rest) → Top p loose mean mg mb h₀ → cs.kind = .function →
       hi - lo ≤ fu → 0 ≤ lo → lo < hi → hi ≤ ns.length → dp + fu < 950 → un + 8 * fu < 9600 →
       (∀ tr h' tk', Fr h₀ L h' m → News h₀ L h' ((D0, W.listOf vs.toArray cc) :: (f1, fo) :: (c1, oc) :: (L1 + 1 + 1 + 1, oI) :: (L1 + 1 + 1, o2) :: (L1 + 1, o3) :: rest) →
          Q (.int (val n.toNat (seg ns lo hi)) tr) { s with heap := h', toks := tk' }) →
       wpAny (model prog w) (kTop hdl dp un gd cn cs L ca ccd cl outer) (call (.ref f1) [.int lo tlo, .int hi thi]) Q E s := by
      clear hret FG1 B1 X1 T1 F1 N2 N B F X T hoff hl1 hl2
      intro fu
      induction fu with
      | zero => intros; omega
      | succ fu ih =>
        intro dp un gd cn cs ca ccd cl outer A₀ h₀ L m rest s Q E lo hi tlo thi B F X N T hk hN h0 hlt hhi hdp hun hret
        have hm0 : (lo + hi).fdiv (2 ^ Int.toNat 1) = (lo + hi) / 2 := Int.fdiv_eq_ediv_of_nonneg _ (by decide)
        have hs0 : 0 ≤ ((lo + hi).fdiv (2 ^ Int.toNat 1) - lo) * n := by rw [hm0]; exact Int.mul_nonneg (by omega) (by omega)
        have hs1 : ((lo + hi).fdiv (2 ^ Int.toNat 1) - lo) * n ≤ 600000 := by
          rw [hm0]; exact Int.le_trans (Int.mul_le_mul_of_nonneg_right (b := 60) (by omega) (by omega)) (by omega)
        subst hfo
        refine wpAny_call ?_
        k_dflt (walk_at "mine enterN")
        k_steps
        · rename_i hkF hkN _ _
          dsimp only at hkF hkN
          rw [← val_one (n := n.toNat) h0 (by assumption) hhi]
          exact hret _ _ _ hkF hkN
        · rename_i hlo2 _ _ _ _
          have hmid1 : lo < (lo + hi).fdiv (2 ^ Int.toNat 1) := by omega
          have hmid2 : (lo + hi).fdiv (2 ^ Int.toNat 1) < hi := by omega
          have hn0 : 0 ≤ n := by omega
          have hv := val_bits (n := n) (ns := ns) hn2 (show 0 ≤ (lo + hi).fdiv (2 ^ Int.toNat 1) by omega) (Int.le_of_lt hmid2) hhi hlen hb
          have hj := val_join (n := n) (ns := ns) hn0 h0 (Int.le_of_lt hmid1) (Int.le_of_lt hmid2) hhi
          have hs2 : (Builtin.Int.intBits (val n.toNat (seg ns ((lo + hi).fdiv (2 ^ Int.toNat 1)) hi)) : Int) + ((lo + hi).fdiv (2 ^ Int.toNat 1) - lo) * n ≤ 2 ^ 27 := by omega
          refine ih _ _ _ _ _ _ _ _ _ _ _ _ _ _ _ _ _ _ _ _ _ (by assumption) (by assumption) (by assumption) (by assumption) (by assumption) rfl ?_ ?_ hmid2 hhi ?_ ?_ ?_
          · omega
          · omega
          · show dp + 1 + fu < 950; omega
          · show un + 3 + 8 * fu < 9600; omega
          · intro tr h' tk' F1 N1
            dsimp only
            k_steps
            refine ih _ _ _ _ _ _ _ _ _ _ _ _ _ _ _ _ _ _ _ _ _ (by assumption) F1 (by assumption) N1 (by assumption) rfl ?_ h0 hmid1 ?_ ?_ ?_ ?_
            · omega
            · omega
            · show dp + 1 + fu < 950; omega
            · show un + 3 + 8 * fu < 9600; omega
            · intro tr2 h2 tk2 F2 N2
              dsimp only
              k_steps
              rename_i hkF hkN _ _
              rw [hj]
              exact hret _ _ _ hkF hkN
    have N3 := news_sub N2 (l' := (D0, W.listOf vs.toArray cc) :: (f1, fo) :: (c1, oc) :: (L1 + 1 + 1 + 1, oI) :: (L1 + 1 + 1, o2) :: (L1 + 1, o3) :: (37, tabObj (#[] ++ #[rawInt 47, rawInt 4, .ref c1])) :: rest) (by walk_at "mine sub")
    refine key ns.length _ _ _ _ _ _ _ _ _ _ _ _ _ _ _ _ _ _ _ _ _ (by assumption) F1 (by assumption) N3 (by assumption) rfl ?_ ?_ ?_ ?_ ?_ ?_ ?_
    · omega
    · omega
    · omega
    · omega
    · show dp + 1 + ns.length < 950; omega
    · show un + 3 + 8 * ns.length < 9600; omega
    · intro tr h2 tk2 F2 N2
      rw [seg_all]
      k_steps
      rename_i hkF hkN _ _
      exact hret c1 oc vs1 t1 _ _ _ hkF (news_sub hkN (by walk_at "mine sub")) dd1 dd2 l1c.2.2.2
  · rename_i g1 L1 h0' tk0 FG1 B1 X1 T1 o1 o2 o3 d1 d2 d3 f1 c1 oc vs1 t1 ct dc h4 tk1 dd1 dd2 l1c l2c h5 oI F1 N1 dI a0 kF kN _ _
    have hz : ns = [] := List.eq_nil_of_length_eq_zero (by omega)
    subst hz
    exact hret c1 oc vs1 t1 _ _ _ kF (news_sub kN (by walk_at "mine sub")) dd1 dd2 l1c.2.2.2
end

section
theorem plain_F3H : True ∧ True := by
  w_top off
  walk1 <;> trivial
set_option maxRecDepth 100000
set_option maxHeartbeats 8000000
theorem fillme3H : (fun (_:OpenLaw) (_ : Params → Frag) => True) PySem.Challenge.rw_un0010_01 hd.heap_1 := by
  k_fill
  trivial

local macro_rules | `(tactic| walk_at "binaryOp LShift int int") => `(tactic| with_reducible refine lshift_int (by with_reducible assumption) (by with_reducible assumption) ?_)
theorem digits2intH {prog : Program} {w : World} {p : Program} {loose : List Str} {mean : ExcName → Option Value} {mg mb : Str → Option Value}
   (hdl : Option Value) (dp un : Nat) (gd : Option (List Code)) (cn : Str) (cs : Scope) (ca : Addr) (ccd : Value) (cl : List (Str × Addr)) (outer : List Env) (A₀ : Around) (base h₀ : Heap) (L : Addr) (m : Str → Option Value) (rest : List (Addr × Obj)) (s : Shared)
   (Q E : Value → Shared → Prop) (D0 : Addr) (vs : List Value) (ns : List Int) (cc : Nat) (n : Int) (tn : Tok)
   (B : Below A₀ base outer h₀) (F : Fr h₀ L s.heap m) (X : (hd.heap_1 w.params).In h₀) (c1 : Addr) (oc : Obj) (vs1 : Array Value) (t1 : Tok) (N : News h₀ L s.heap ((37, tabObj (#[] ++ #[rawInt 47, rawInt 4, .ref c1])) :: (c1, oc) :: (D0, W.listOf vs.toArray cc) :: rest)) (dd1 : oc.data = .fields vs1) (dd2 : vs1[1]? = some (.str "_digits2int.<locals>.inner" t1)) (T : Top p loose mean mg mb h₀) (hk : cs.kind = .function)
   (hC : CodeHd base 41 37)
   (hdp : dp < 800) (hun : un < 9000) (hI : IntsAre vs ns) (hlen : ns.length ≤ 60) (hb : ∀ d ∈ ns, 0 ≤ d ∧ d < 2 ^ n.toNat)
   (hn : 0 < n) (hn2 : n ≤ 10000)
   (hret : ∀ tr h' tk', Fr h₀ L h' m → News h₀ L h' ((37, tabObj (#[] ++ #[rawInt 47, rawInt 4, .ref c1])) :: (c1, oc) :: (D0, W.listOf vs.toArray cc) :: rest) → Q (.int (val n.toNat ns) tr) { s with heap := h', toks := tk' }) :
    wpAny (model prog w) (kTop hdl dp un gd cn cs L ca ccd cl outer) (call (.ref 42) [.ref D0, .int n tn]) Q E s := by
  refine wpAny_call ?_
  k_dflt (walk_at "mine enterC")
  rename (_ ∧ _ ∧ _ ∧ AllLt _ rest) => hl1
  have hl2 := hl1.2.2.2
  k_steps
  · rename_i g1 L1 h0' tk0 FG1 B1 X1 T1 o1 o2 o3 d1 d2 d3 f1 ct dc h4 tk1 l1c h5 oI F1 N1 dI a0
    refine with_head N1 (fun fo hfo N2 => ?_)
    clear N1
    have key : ∀ (fu : Nat) (dp un : Nat) (gd : Option (List Code)) (cn : Str) (cs : Scope) (ca : Addr) (ccd : Value) (cl : List (Str × Addr)) (outer : List Env) (A₀ : Around) (h₀ : Heap) (L : Addr) (m : Str → Option Value) (rest : List (Addr × Obj)) (s : Shared)
       (Q E : Value → Shared → Prop) (lo hi : Int) (tlo thi : Tok),
       Below A₀ base outer h₀ → Fr h₀ L s.heap m → (hd.heap_1 w.params).In h₀ → News h₀ L s.heap ((D0, W.listOf vs.toArray cc) :: (f1, fo) :: (c1, oc) :: (L1 + 1 + 1 + 1, oI) :: (L1 + 1 + 1, o2) :: (L1 + 1, o3) :: rest) → Top p loose mean mg mb h₀ → cs.kind = .function →
       hi - lo ≤ fu → 0 ≤ lo → lo < hi → hi ≤ ns.length → dp + fu < 950 → un + 8 * fu < 9600 →
       (∀ tr h' tk', Fr h₀ L h' m → News h₀ L h' ((D0, W.listOf vs.toArray cc) :: (f1, fo) :: (c1, oc) :: (L1 + 1 + 1 + 1, oI) :: (L1 + 1 + 1, o2) :: (L1 + 1, o3) :: rest) →
          Q (.int (val n.toNat (seg ns lo hi)) tr) { s with heap := h', toks := tk' }) →
       wpAny (model prog w) (kTop hdl dp un gd cn cs L ca ccd cl outer) (call (.ref f1) [.int lo tlo, .int hi thi]) Q E s := by
      clear hret FG1 B1 X1 T1 F1 N2 N B F X T hl1 hl2
      intro fu
      induction fu with
      | zero => intros; omega
      | succ fu ih =>
        intro dp un gd cn cs ca ccd cl outer A₀ h₀ L m rest s Q E lo hi tlo thi B F X N T hk hN h0 hlt hhi hdp hun hret
        have hm0 : (lo + hi).fdiv (2 ^ Int.toNat 1) = (lo + hi) / 2 := Int.fdiv_eq_ediv_of_nonneg _ (by decide)
        have hs0 : 0 ≤ ((lo + hi).fdiv (2 ^ Int.toNat 1) - lo) * n := by rw [hm0]; exact Int.mul_nonneg (by omega) (by omega)
        have hs1 : ((lo + hi).fdiv (2 ^ Int.toNat 1) - lo) * n ≤ 600000 := by
          rw [hm0]; exact Int.le_trans (Int.mul_le_mul_of_nonneg_right (b := 60) (by omega) (by omega)) (by omega)
        subst hfo
        refine wpAny_call ?_
        k_dflt (walk_at "mine enterN")
        k_steps
        · rename_i hkF hkN _ _
          dsimp only at hkF hkN
          rw [← val_one (n := n.toNat) h0 (by assumption) hhi]
          exact hret _ _ _ hkF hkN
        · rename_i hlo2 _ _ _ _
          have hmid1 : lo < (lo + hi).fdiv (2 ^ Int.toNat 1) := by omega
          have hmid2 : (lo + hi).fdiv (2 ^ Int.toNat 1) < hi := by omega
          have hn0 : 0 ≤ n := by omega
          have hv := val_bits (n := n) (ns := ns) hn2 (show 0 ≤ (lo + hi).fdiv (2 ^ Int.toNat 1) by omega) (Int.le_of_lt hmid2) hhi hlen hb
          have hj := val_join (n := n) (ns := ns) hn0 h0 (Int.le_of_lt hmid1) (Int.le_of_lt hmid2) hhi
          have hs2 : (Builtin.Int.intBits (val n.toNat (seg ns ((lo + hi).fdiv (2 ^ Int.toNat 1)) hi)) : Int) + ((lo + hi).fdiv (2 ^ Int.toNat 1) - lo) * n ≤ 2 ^ 27 := by omega
          refine ih _ _ _ _ _ _ _ _ _ _ _ _ _ _ _ _ _ _ _ _ _ (by assumption) (by assumption) (by assumption) (by assumption) (by assumption) rfl ?_ ?_ hmid2 hhi ?_ ?_ ?_
          · omega
          · omega
          · show dp + 1 + fu < 950; omega
          · show un + 3 + 8 * fu < 9600; omega
          · intro tr h' tk' F1 N1
            dsimp only
            k_steps
            refine ih _ _ _ _ _ _ _ _ _ _ _ _ _ _ _ _ _ _ _ _ _ (by assumption) F1 (by assumption) N1 (by assumption) rfl ?_ h0 hmid1 ?_ ?_ ?_ ?_
            · omega
            · omega
            · show dp + 1 + fu < 950; omega
            · show un + 3 + 8 * fu < 9600; omega
            · intro tr2 h2 tk2 F2 N2
              dsimp only
              k_steps
              rename_i hkF hkN _ _
              rw [hj]
              exact hret _ _ _ hkF hkN
    have N3 := news_sub N2 (l' := (D0, W.listOf vs.toArray cc) :: (f1, fo) :: (c1, oc) :: (L1 + 1 + 1 + 1, oI) :: (L1 + 1 + 1, o2) :: (L1 + 1, o3) :: (37, tabObj (#[] ++ #[rawInt 47, rawInt 4, .ref c1])) :: rest) (by walk_at "mine sub")
    refine key ns.length _ _ _ _ _ _ _ _ _ _ _ _ _ _ _ _ _ _ _ _ _ (by assumption) F1 (by assumption) N3 (by assumption) rfl ?_ ?_ ?_ ?_ ?_ ?_ ?_
    · omega
    · omega
    · omega
    · omega
    · show dp + 1 + ns.length < 950; omega
    · show un + 3 + 8 * ns.length < 9600; omega
    · intro tr h2 tk2 F2 N2
      rw [seg_all]
      k_steps
      rename_i hkF hkN _ _
      exact hret _ _ _ hkF (news_sub hkN (by walk_at "mine sub"))
  · rename_i g1 L1 h0' tk0 FG1 B1 X1 T1 o1 o2 o3 d1 d2 d3 f1 ct dc h4 tk1 l1c h5 oI F1 N1 dI a0 kF kN _ _
    have hz : ns = [] := List.eq_nil_of_length_eq_zero (by omega)
    subst hz
    exact hret _ _ _ kF (news_sub kN (by walk_at "mine sub"))
end

section
set_option maxRecDepth 100000
set_option maxHeartbeats 8000000

def Tab30 (l : List (Addr × Obj)) : Prop := l = [(30, tabObj #[])] ∨ ∃ c oc vs t, l = [(30, tabObj (#[] ++ #[rawInt 32, rawInt 4, .ref c])), (c, oc)] ∧ oc.data = .fields vs ∧ vs[1]? = some (.str "_int2digits.<locals>.inner" t)
def Tab37 (l : List (Addr × Obj)) : Prop := l = [(37, tabObj #[])] ∨ ∃ c oc vs t, l = [(37, tabObj (#[] ++ #[rawInt 47, rawInt 4, .ref c])), (c, oc)] ∧ oc.data = .fields vs ∧ vs[1]? = some (.str "_digits2int.<locals>.inner" t)
def Apart (a b : List (Addr × Obj)) : Prop := ∀ q ∈ a, ∀ p ∈ b, p.1 ≠ q.1
def Tabs (tl : List (Addr × Obj)) : Prop := ∃ l30 l37, tl = l30 ++ l37 ∧ Tab30 l30 ∧ Tab37 l37 ∧ Apart l30 l37

theorem lt_of_allLt {d : Nat} {l : List (Addr × Obj)} (h : AllLt d l) : ∀ p ∈ l, p.1 < d := ktn_ltOf h
theorem sub_append {a b c : List (Addr × Obj)} (h : ∀ p, p ∈ c → p ∈ a ∨ p ∈ b) : ∀ p ∈ c, p ∈ a ++ b := fun p hp => List.mem_append.mpr (h p hp)

section
variable {prog : Program} {w : World} {p : Program} {loose : List Str} {mean : ExcName → Option Value} {mg mb : Str → Option Value}
theorem int2digitsU
   (hdl : Option Value) (dp un : Nat) (gd : Option (List Code)) (cn : Str) (cs : Scope) (ca : Addr) (ccd : Value) (cl : List (Str × Addr)) (outer : List Env) (A₀ : Around) (base h₀ : Heap) (L : Addr) (m : Str → Option Value) (own tl : List (Addr × Obj)) (s : Shared)
   (Q E : Value → Shared → Prop) (a n : Int) (ta tn : Tok)
   (B : Below A₀ base outer h₀) (F : Fr h₀ L s.heap m) (X : (hd.heap_1 w.params).In h₀) (N : News h₀ L s.heap (own ++ tl)) (T : Top p loose mean mg mb h₀) (hk : cs.kind = .function)
   (hC : CodeHd base 34 30) (hT : Tabs tl) (hA : Apart own tl)
   (hdp : dp < 800) (hun : un < 9000)
   (hn : 0 < n) (hn2 : n ≤ 10000) (hbits : Builtin.Int.intBits a ≤ 10000) (ha : 0 ≤ a) (kk : Int) (hkk : Int.fdiv ((Builtin.Int.intBits a : Int) + n - 1) n = kk) (hk0 : 0 ≤ kk) (hk1 : kk ≤ 60) (hab : a < 2 ^ (n.toNat * kk.toNat))
   (hret : ∀ D vs cc tl' h' tk', Fr h₀ L h' m → News h₀ L h' ((D, W.listOf vs.toArray cc) :: (own ++ tl')) → Tabs tl' →
      IntsAre vs (digs n.toNat kk.toNat a) → AllLt D own → Apart ((D, W.listOf vs.toArray cc) :: own) tl' → Q (.ref D) { s with heap := h', toks := tk' }) :
    wpAny (model prog w) (kTop hdl dp un gd cn cs L ca ccd cl outer) (call (.ref 35) [.int a ta, .int n tn]) Q E s := by
  obtain ⟨l30, l37, rfl, h30, h37, h3⟩ := hT
  rcases h30 with rfl | ⟨c1, oc, vs1, t1, rfl, hd, hv⟩
  · refine int2digits hdl dp un gd cn cs ca ccd cl outer A₀ base h₀ L m (l37 ++ own) s Q E a n ta tn B F X (news_sub N (fun q hq => ?_)) T hk hC (fun q hq => ?_) hdp hun hn hn2 hbits ha kk hkk hk0 hk1 hab ?_
    · simp only [List.mem_append, List.mem_cons, List.not_mem_nil, or_false] at hq ⊢
      rcases hq with h | h | h
      · exact .inr (.inl h)
      · exact .inr (.inr h)
      · exact .inl h
    · rcases List.mem_append.mp hq with h | h
      · exact h3 _ (List.mem_cons_self) q h
      · exact (hA q h _ (List.mem_append.mpr (.inl (List.mem_cons_self)))).symm
    · intro D vs cc c1 oc1 vs1 t1 h' tk' F' N' e1 e2 I' hD hc
      have hlt := lt_of_allLt hD
      refine hret D vs cc ([(30, tabObj (#[] ++ #[rawInt 32, rawInt 4, .ref c1])), (c1, oc1)] ++ l37) h' tk' F' (news_sub N' (fun q hq => ?_)) ⟨_, _, rfl, .inr ⟨c1, oc1, vs1, t1, rfl, e1, e2⟩, h37, ?_⟩ I' (allLt_of fun q hq => hlt q (.tail _ (List.mem_append.mpr (.inr hq)))) ?_
      · simp only [List.mem_append, List.mem_cons, List.not_mem_nil, or_false] at hq ⊢
        rcases hq with h | h | (h | h) | h
        · exact .inl h
        · exact .inr (.inr (.inr (.inr h)))
        · exact .inr (.inl h)
        · exact .inr (.inr (.inl h))
        · exact .inr (.inr (.inr (.inl h)))
      · intro q hq r hr
        simp only [List.mem_cons, List.not_mem_nil, or_false] at hq
        rcases hq with rfl | rfl
        · exact h3 _ (List.mem_cons_self) r hr
        · have := hlt r (.tail _ (List.mem_append.mpr (.inl hr)))
          show r.1 ≠ c1
          exact Nat.ne_of_lt (Nat.lt_trans this hc)
      · intro q hq r hr
        simp only [List.mem_append, List.mem_cons, List.not_mem_nil, or_false] at hq hr
        rcases hq with rfl | hq
        · rcases hr with (rfl | rfl) | hr
          · exact Nat.ne_of_lt (hlt (30, tabObj #[]) (List.mem_cons_self))
          · exact Nat.ne_of_gt hc
          · exact Nat.ne_of_lt (hlt r (.tail _ (List.mem_append.mpr (.inl hr))))
        · rcases hr with (rfl | rfl) | hr
          · exact hA q hq (30, tabObj #[]) (List.mem_append.mpr (.inl (List.mem_cons_self)))
          · exact Nat.ne_of_gt (Nat.lt_trans (hlt q (.tail _ (List.mem_append.mpr (.inr hq)))) hc)
          · exact hA q hq r (List.mem_append.mpr (.inr hr))
  · refine int2digitsH hdl dp un gd cn cs ca ccd cl outer A₀ base h₀ L m (l37 ++ own) s Q E a n ta tn B F X c1 oc vs1 t1 (news_sub N (fun q hq => ?_)) hd hv T hk hC hdp hun hn hn2 hbits ha kk hkk hk0 hk1 hab ?_
    · simp only [List.mem_append, List.mem_cons, List.not_mem_nil, or_false] at hq ⊢
      rcases hq with h | h | h | h
      · exact .inr (.inl (.inl h))
      · exact .inr (.inl (.inr h))
      · exact .inr (.inr h)
      · exact .inl h
    · intro D vs cc h' tk' F' N' I' hD
      have hlt := lt_of_allLt hD
      refine hret D vs cc ([(30, tabObj (#[] ++ #[rawInt 32, rawInt 4, .ref c1])), (c1, oc)] ++ l37) h' tk' F' (news_sub N' (fun q hq => ?_)) ⟨_, _, rfl, .inr ⟨c1, oc, vs1, t1, rfl, hd, hv⟩, h37, h3⟩ I' (allLt_of fun q hq => hlt q (.tail _ (.tail _ (List.mem_append.mpr (.inr hq))))) ?_
      · simp only [List.mem_append, List.mem_cons, List.not_mem_nil, or_false] at hq ⊢
        rcases hq with h | h | (h | h) | h
        · exact .inl h
        · exact .inr (.inr (.inr (.inr h)))
        · exact .inr (.inl h)
        · exact .inr (.inr (.inl h))
        · exact .inr (.inr (.inr (.inl h)))
      · intro q hq r hr
        rcases List.mem_cons.mp hq with rfl | hq
        · refine Nat.ne_of_lt (hlt r ?_)
          simp only [List.mem_append, List.mem_cons, List.not_mem_nil, or_false] at hr ⊢
          rcases hr with (h | h) | h
          · exact .inl h
          · exact .inr (.inl h)
          · exact .inr (.inr (.inl h))
        · exact hA q hq r hr

theorem digits2intU
   (hdl : Option Value) (dp un : Nat) (gd : Option (List Code)) (cn : Str) (cs : Scope) (ca : Addr) (ccd : Value) (cl : List (Str × Addr)) (outer : List Env) (A₀ : Around) (base h₀ : Heap) (L : Addr) (m : Str → Option Value) (own tl : List (Addr × Obj)) (s : Shared)
   (Q E : Value → Shared → Prop) (D0 : Addr) (vs : List Value) (ns : List Int) (cc : Nat) (n : Int) (tn : Tok)
   (B : Below A₀ base outer h₀) (F : Fr h₀ L s.heap m) (X : (hd.heap_1 w.params).In h₀) (N : News h₀ L s.heap ((D0, W.listOf vs.toArray cc) :: (own ++ tl))) (T : Top p loose mean mg mb h₀) (hk : cs.kind = .function)
   (hC : CodeHd base 41 37) (hT : Tabs tl) (hA : Apart ((D0, W.listOf vs.toArray cc) :: own) tl)
   (hdp : dp < 800) (hun : un < 9000) (hI : IntsAre vs ns) (hlen : ns.length ≤ 60) (hb : ∀ d ∈ ns, 0 ≤ d ∧ d < 2 ^ n.toNat)
   (hn : 0 < n) (hn2 : n ≤ 10000)
   (hret : ∀ tl' tr h' tk', Fr h₀ L h' m → News h₀ L h' (own ++ tl') → Tabs tl' → Apart own tl' → Q (.int (val n.toNat ns) tr) { s with heap := h', toks := tk' }) :
    wpAny (model prog w) (kTop hdl dp un gd cn cs L ca ccd cl outer) (call (.ref 42) [.ref D0, .int n tn]) Q E s := by
  obtain ⟨l30, l37, rfl, h30, h37, h3⟩ := hT
  rcases h37 with rfl | ⟨c1, oc, vs1, t1, rfl, hd, hv⟩
  · refine digits2int hdl dp un gd cn cs ca ccd cl outer A₀ base h₀ L m (l30 ++ own) s Q E D0 vs ns cc n tn B F X (news_sub N (fun q hq => ?_)) T hk hC (fun q hq => ?_) ?_ hdp hun hI hlen hb hn hn2 ?_
    · simp only [List.mem_append, List.mem_cons, List.not_mem_nil, or_false] at hq ⊢
      rcases hq with h | h | h | h
      · exact .inr (.inr (.inr h))
      · exact .inl h
      · exact .inr (.inr (.inl h))
      · exact .inr (.inl h)
    · rcases List.mem_append.mp hq with h | h
      · exact (h3 q h _ (List.mem_cons_self)).symm
      · exact (hA q (.tail _ h) _ (List.mem_append.mpr (.inr (List.mem_cons_self)))).symm
    · exact (hA _ (.head _) _ (List.mem_append.mpr (.inr (List.mem_cons_self)))).symm
    · intro c1 oc1 vs1 t1 tr h' tk' F' N' e1 e2 hD
      have hlt := lt_of_allLt hD
      refine hret (l30 ++ [(37, tabObj (#[] ++ #[rawInt 47, rawInt 4, .ref c1])), (c1, oc1)]) tr h' tk' F' (news_sub N' (fun q hq => ?_)) ⟨_, _, rfl, h30, .inr ⟨c1, oc1, vs1, t1, rfl, e1, e2⟩, ?_⟩ ?_
      · simp only [List.mem_append, List.mem_cons, List.not_mem_nil, or_false] at hq ⊢
        rcases hq with h | h | h | h
        · exact .inr (.inr (.inr (.inr h)))
        · exact .inr (.inr (.inr (.inl h)))
        · exact .inl h
        · exact .inr (.inl h)
      · intro q hq r hr
        simp only [List.mem_cons, List.not_mem_nil, or_false] at hr
        rcases hr with rfl | rfl
        · exact h3 q hq (37, tabObj #[]) (List.mem_cons_self)
        · exact Nat.ne_of_gt (hlt q (.tail _ (.tail _ (List.mem_append.mpr (.inl hq)))))
      · intro q hq r hr
        simp only [List.mem_append, List.mem_cons, List.not_mem_nil, or_false] at hr
        rcases hr with hr | rfl | rfl
        · exact hA q (.tail _ hq) r (List.mem_append.mpr (.inl hr))
        · exact hA q (.tail _ hq) (37, tabObj #[]) (List.mem_append.mpr (.inr (List.mem_cons_self)))
        · exact Nat.ne_of_gt (hlt q (.tail _ (.tail _ (List.mem_append.mpr (.inr hq)))))
  · refine digits2intH hdl dp un gd cn cs ca ccd cl outer A₀ base h₀ L m (l30 ++ own) s Q E D0 vs ns cc n tn B F X c1 oc vs1 t1 (news_sub N (fun q hq => ?_)) hd hv T hk hC hdp hun hI hlen hb hn hn2 ?_
    · simp only [List.mem_append, List.mem_cons, List.not_mem_nil, or_false] at hq ⊢
      rcases hq with h | h | h | h | h
      · exact .inr (.inr (.inr (.inl h)))
      · exact .inr (.inr (.inr (.inr h)))
      · exact .inl h
      · exact .inr (.inr (.inl h))
      · exact .inr (.inl h)
    · intro tr h' tk' F' N'
      refine hret (l30 ++ [(37, tabObj (#[] ++ #[rawInt 47, rawInt 4, .ref c1])), (c1, oc)]) tr h' tk' F' (news_sub N' (fun q hq => ?_)) ⟨_, _, rfl, h30, .inr ⟨c1, oc, vs1, t1, rfl, hd, hv⟩, h3⟩ (fun q hq => hA q (.tail _ hq))
      simp only [List.mem_append, List.mem_cons, List.not_mem_nil, or_false] at hq ⊢
      rcases hq with h | h | h | h
      · exact .inr (.inr (.inr (.inr h)))
      · exact .inr (.inr (.inr (.inl h)))
      · exact .inl h
      · exact .inr (.inl h)
end
end

section
theorem plain_F5 : True ∧ True := by
  w_top off
  walk1 <;> trivial
set_option maxRecDepth 100000
set_option maxHeartbeats 8000000
theorem fillme5 : (fun (_:OpenLaw) (_ : Params → Frag) => True) PySem.Challenge.rw_un0010_01 hd.heap_1 := by
  k_fill
  trivial

theorem ints_reverse : ∀ {vs : List Value} {ns : List Int}, IntsAre vs ns → IntsAre vs.reverse ns.reverse
  | _, _, .nil => .nil
  | _, _, .cons i t h => by rw [List.reverse_cons, List.reverse_cons]; exact IntsAre.append (ints_reverse h) (.cons i t .nil)
theorem apart_cons {q : Addr × Obj} {a b : List (Addr × Obj)} (h : ∀ p ∈ b, p.1 ≠ q.1) (k : Apart a b) : Apart (q :: a) b := fun r hr => by
  rcases List.mem_cons.mp hr with rfl | hr
  · exact h
  · exact k r hr
theorem apart_tail {q : Addr × Obj} {a b : List (Addr × Obj)} (k : Apart (q :: a) b) : Apart a b := fun r hr => k r (.tail _ hr)
theorem with_map {P : Prop} {g h : Heap} {L : Addr} {m : Str → Option Value} (F : Fr g L h m) (k : ∀ m', m' = m → Fr g L h m' → P) : P := k m rfl F
theorem fr_eq {g h : Heap} {L : Addr} {m m' : Str → Option Value} (F : Fr g L h m) (e : ∀ z, m z = m' z) : Fr g L h m' := by rw [← funext e]; exact F
local macro_rules | `(tactic| walk_at "binaryOp LShift int int") => `(tactic| with_reducible refine lshift_int (by with_reducible assumption) (by with_reducible assumption) ?_)
theorem divmodpos {prog : Program} {w : World} {p : Program} {loose : List Str} {mean : ExcName → Option Value} {mg mb : Str → Option Value}
   (dp un : Nat) (gd : Option (List Code)) (cn : Str) (cs : Scope) (ca : Addr) (ccd : Value) (cl : List (Str × Addr)) (outer : List Env) (A₀ : Around) (base h₀ : Heap) (L : Addr) (m : Str → Option Value) (own tl : List (Addr × Obj)) (s : Shared)
   (Q E : Value → Shared → Prop) (a b : Int) (ta tb : Tok)
   (B : Below A₀ base outer h₀) (F : Fr h₀ L s.heap m) (X : (hd.heap_1 w.params).In h₀) (N : News h₀ L s.heap (own ++ tl)) (T : Top p loose mean mg mb h₀) (hk : cs.kind = .function)
   (hC : CodeHd base 34 30) (hC2 : CodeHd base 41 37) (hT : Tabs tl) (hA : Apart own tl)
   (hdp : dp < 700) (hun : un < 8000)
   (ha : 0 ≤ a) (hb : 0 < b) (hab : Builtin.Int.intBits a ≤ 50 * Builtin.Int.intBits b) (hb2 : Builtin.Int.intBits b ≤ 200)
   (hret : ∀ D t1 t2 cc tl' h' tk', Fr h₀ L h' m → News h₀ L h' ((D, tupO #[.int (a / b) t1, .int (a % b) t2] cc) :: (own ++ tl')) → Tabs tl' → AllLt D (own ++ tl') → Apart own tl' → Q (.ref D) { s with heap := h', toks := tk' }) :
    wpAny (model prog w) (kTop none dp un gd cn cs L ca ccd cl outer) (call (.ref 49) [.int a ta, .int b tb]) Q E s := by
  refine wpAny_call ?_
  k_dflt (walk_at "mine enter")
  k_steps
  have hbn : 0 < Builtin.Int.intBits b := by
    rcases Nat.eq_zero_or_pos (Builtin.Int.intBits b) with h | h
    · have := intBits_le_iff.mp (Nat.le_of_eq h); simp at this; omega
    · exact h
  obtain ⟨hk0, hk1, hk2⟩ := kk_facts hbn hab
  have hab2 := lt_of_bits hk2
  refine int2digitsU _ _ _ _ _ _ _ _ _ _ _ _ _ _ _ own tl _ _ _ a _ _ _ (by assumption) (by assumption) (by assumption) (by assumption) (by assumption) rfl hC hT hA ?_ ?_ ?_ ?_ ?_ ha _ rfl hk0 ?_ hab2 ?_
  · show dp + 1 < 800; omega
  · show un + 3 < 9000; omega
  · omega
  · omega
  · omega
  · omega
  · intro D vs cc tl1 h1 tk1 F1 N1 hT1 I1 hD1 hA1
    dsimp only
    k_steps
    rename_i g1 L1 h0' FG1 B1 X1 T1 h2 h3 h4 Dq h5 l1 h6 I h7 F7 N7 l1b
    refine with_map F7 (fun m0 hm0 F8 => ?_)
    clear F7
    have hlenv : vs.length = (((Builtin.Int.intBits a : Int) + Builtin.Int.intBits b - 1).fdiv (Builtin.Int.intBits b)).toNat := by rw [I1.length, digs_length]
    refine loop_rev (vs := vs) (nn := cc) (l := D) (fun i m nx => ∃ r tr vq cq qs, nx = (Dq, W.listOf vq.toArray cq) :: (D, W.listOf vs.toArray cc) :: (own ++ tl1) ∧ m (Str.ofString "r") = some (.int r tr) ∧
        (∀ z, z ≠ Str.ofString "a_digit" → z ≠ Str.ofString "q_digit" → z ≠ Str.ofString "r" → m z = m0 z) ∧ IntsAre vq qs ∧ DivInv (Builtin.Int.intBits b : Int).toNat a b vs.length i r qs) rfl F8 N7 (by k_mem) ?_ ?_ ?_ ?_ ?_
    · refine List.forall_mem_cons.mpr ⟨by k_ne, List.forall_mem_cons.mpr ⟨by k_ne, ?_⟩⟩
      exact ne_of_allLt l1b.2.2 (Nat.le_refl _)
    · subst hm0
      exact ⟨0, _, [], 0, [], rfl, rfl, fun _ _ _ _ => rfl, .nil, .start hb ha (by rw [hlenv]; exact hab2)⟩
    · rintro i m nx ⟨r, tr, vq, cq, qs, rfl, _⟩
      k_mem
    · rintro i v m1 nx h9 tk9 oI hi hv ⟨r, tr, vq, cq, qs, rfl, hmr, hmz, hIq, hinv⟩ hoff F9 N9
      have F10 := fr_eq F9 (m' := fun z => if z = Str.ofString "a_digit" then some v else if z = Str.ofString "q_digit" then m1 z else if z = Str.ofString "r" then some (.int r tr) else m0 z) (fun z => by
        by_cases e1 : z = Str.ofString "a_digit"
        · simp [e1]
        · by_cases e2 : z = Str.ofString "q_digit"
          · simp [e1, e2]
          · by_cases e3 : z = Str.ofString "r"
            · simp [e1, e2, e3, hmr]
            · simp [e1, e2, e3, hmz z e1 e2 e3])
      clear F9 F8
      obtain ⟨d, hd, td, rfl⟩ : ∃ d, (digs (Builtin.Int.intBits b : Int).toNat vs.length a)[vs.length - 1 - i]? = some d ∧ ∃ td, v = .int d td := by
        have hlt : vs.length - 1 - i < (digs (Builtin.Int.intBits b : Int).toNat vs.length a).length := by rw [digs_length]; omega
        rw [← hlenv] at I1
        obtain ⟨t, hx⟩ := I1.get _ _ (List.getElem?_eq_getElem hlt)
        exact ⟨_, List.getElem?_eq_getElem hlt, t, (Option.some.inj (hx.symm.trans hv)).symm⟩
      obtain ⟨hx0, hx1, hnext⟩ := hinv.turn hb hi hd
      subst hm0
      have hsh0 : (0 : Int) ≤ (Builtin.Int.intBits b : Int) := by omega
      have hbb : b < 2 ^ Builtin.Int.intBits b := lt_of_bits (Nat.le_refl _)
      have hrb : Builtin.Int.intBits r ≤ Builtin.Int.intBits b := bits_of_lt hinv.r0 (by have := hinv.rb; omega)
      have hsh1 : (Builtin.Int.intBits r : Int) + (Builtin.Int.intBits b : Int) ≤ 2 ^ 27 := by omega
      have hxb : Builtin.Int.intBits (r * 2 ^ (Builtin.Int.intBits b : Int).toNat + d) ≤ Builtin.Int.intBits b + Builtin.Int.intBits b := by
        refine bits_of_lt hx0 ?_
        rw [Int.toNat_natCast] at hx1 ⊢
        have := Int.mul_lt_mul_of_pos_right hbb (p2pos (Builtin.Int.intBits b))
        rw [← Int.pow_add] at this
        omega
      k_steps
      refine div2n1n _ _ _ _ _ _ _ _ _ _ _ _ _ _ _ _ _ _ _ _ _ _ _ _ _ (by assumption) (by assumption) (by assumption) (by assumption) (by assumption) rfl ?_ ?_ (by omega) ?_ (noPylong_bits hb2 (by decide)) ?_
      · show dp + 1 < 900; omega
      · show un + 3 < 9000; omega
      · omega
      · intro Dt t1 t2 ct ht tkt Ft Nt ltt
        rw [fdiv_pos (Int.le_of_lt hb), fmod_pos (Int.le_of_lt hb)] at Nt
        dsimp only
        simp only [AllLt, and_true] at ltt
        have hDq := ne_of_allLt l1.2 (Nat.le_refl _)
        have hvq : vq.length ≤ 60 := by rw [hIq.length, hinv.len]; omega
        k_steps
        rename_i h10 F11 N11
        simp only [List.push_toArray] at N11
        refine TurnEnd.intro F11 (news_sub N11 (by walk_at "mine sub")) ?_ ⟨_, t2, vq ++ [_], _, _, rfl, rfl, ?_, ?_, hnext⟩
        · refine List.forall_mem_cons.mpr ⟨by k_ne, List.forall_mem_cons.mpr ⟨by k_ne, ?_⟩⟩
          exact ne_of_allLt l1b.2.2 (Nat.le_refl _)
        · intro z e1 e2 e3
          simp [e1, e2, e3]
        · exact IntsAre.append hIq (.cons _ _ .nil)
    · rintro m1 nx h9 tk9 ⟨r, tr, vq, cq, qs, rfl, hmr, hmz, hIq, hinv⟩ F9 N9
      have F10 := fr_eq F9 (m' := fun z => if z = Str.ofString "a_digit" then m1 z else if z = Str.ofString "q_digit" then m1 z else if z = Str.ofString "r" then some (.int r tr) else m0 z) (fun z => by
        by_cases e1 : z = Str.ofString "a_digit"
        · simp [e1]
        · by_cases e2 : z = Str.ofString "q_digit"
          · simp [e2]
          · by_cases e3 : z = Str.ofString "r"
            · simp [e3, hmr]
            · simp [e1, e2, e3, hmz z e1 e2 e3])
      clear F9 F8
      subst hm0
      obtain ⟨hq, hr⟩ := hinv.done
      have hDq := ne_of_allLt l1.2 (Nat.le_refl _)
      have hvq : vq.length ≤ 60 := by rw [hIq.length, hinv.len]; omega
      k_steps
      refine kl_reverse (its := vq.toArray) (n := cq) (l := vq.reverse) (by assumption) (by assumption) (by simp) (by k_upd) (by size_fits) ?_
      intro h11 F11 N11
      dsimp only
      k_steps
      refine digits2intU _ _ _ _ _ _ _ _ _ _ _ _ _ _ _ ((D, W.listOf vs.toArray cc) :: own) tl1 _ _ _ Dq vq.reverse qs.reverse cq _ _ (by assumption) F11 (by assumption) N11 (by assumption) rfl hC2 hT1 (apart_cons (fun p hp => hDq p (List.mem_append.mpr (.inr hp))) hA1) ?_ ?_ (ints_reverse hIq) ?_ ?_ ?_ ?_ ?_
      · show dp + 1 < 800; omega
      · show un + 3 < 9000; omega
      · rw [List.length_reverse, ← hIq.length]; exact hvq
      · intro q hq9; exact hinv.qb q (List.mem_reverse.mp hq9)
      · omega
      · omega
      · intro tl2 tr2 h12 tk12 F12 N12 hT2 hA2
        subst hr
        rw [hq]
        simp only [List.cons_append] at N12
        dsimp only
        k_steps
        rename_i l9 hkF hkN _ _
        dsimp only at hkF hkN
        refine hret _ _ _ _ _ _ _ hkF (news_sub hkN (by walk_at "mine sub")) hT2 ?_ (apart_tail hA2)
        exact l9.2
end

section
theorem bitNot_is (a : Int) : Builtin.bitNot a = -a - 1 := by
  unfold Builtin.bitNot; omega
theorem not_div {a b : Int} (hb : 0 < b) : Builtin.bitNot (Builtin.bitNot a / b) = a / b ∧ b + Builtin.bitNot (Builtin.bitNot a % b) = a % b := by
  simp only [bitNot_is]
  have h1 := Int.emod_nonneg (-a - 1) (b := b) (by omega)
  have h2 := Int.emod_lt_of_pos (-a - 1) hb
  have h3 := Int.mul_ediv_add_emod (-a - 1) b
  have h4 := (Int.ediv_emod_unique hb (a := a) (r := b + (-((-a - 1) % b) - 1)) (q := -((-a - 1) / b) - 1)).mpr ⟨by rw [Int.mul_sub, Int.mul_neg]; omega, by omega, by omega⟩
  exact ⟨h4.1.symm, h4.2.symm⟩
theorem neg_div {a b : Int} (hb : b < 0) : -a / -b = a.fdiv b ∧ -(-a % -b) = a.fmod b := by
  have h1 : -a / -b = a.fdiv b := by rw [← fdiv_pos (by omega)]; exact Int.neg_fdiv_neg ..
  refine ⟨h1, ?_⟩
  rw [Int.emod_def, h1, Int.fmod_def, Int.neg_mul]; omega
theorem bits_not {a : Int} (ha : a < 0) : Builtin.Int.intBits (Builtin.bitNot a) ≤ Builtin.Int.intBits a := intBits_le_of_natAbs (by rw [bitNot_is]; omega) (Nat.le_refl _)
theorem bits_neg (a : Int) : Builtin.Int.intBits (-a) = Builtin.Int.intBits a := by
  unfold Builtin.Int.intBits; simp
end

section
theorem plain_F6 : True ∧ True := by
  w_top off
  walk1 <;> trivial
set_option maxRecDepth 100000
set_option maxHeartbeats 8000000
theorem fillme6 : (fun (_:OpenLaw) (_ : Params → Frag) => True) PySem.Challenge.rw_un0010_01 hd.heap_1 := by
  k_fill
  trivial

theorem intdivmod1 {prog : Program} {w : World} {p : Program} {loose : List Str} {mean : ExcName → Option Value} {mg mb : Str → Option Value}
   (dp un : Nat) (gd : Option (List Code)) (cn : Str) (cs : Scope) (ca : Addr) (ccd : Value) (cl : List (Str × Addr)) (outer : List Env) (A₀ : Around) (base h₀ : Heap) (L : Addr) (m : Str → Option Value) (own tl : List (Addr × Obj)) (s : Shared)
   (Q E : Value → Shared → Prop) (a b : Int) (ta tb : Tok)
   (B : Below A₀ base outer h₀) (F : Fr h₀ L s.heap m) (X : (hd.heap_1 w.params).In h₀) (N : News h₀ L s.heap (own ++ tl)) (T : Top p loose mean mg mb h₀) (hk : cs.kind = .function)
   (hC : CodeHd base 34 30) (hC2 : CodeHd base 41 37) (hT : Tabs tl) (hA : Apart own tl)
   (hdp : dp < 690) (hun : un < 7990)
   (ha : 0 ≤ a) (hb : 0 < b) (hab : Builtin.Int.intBits a ≤ 50 * Builtin.Int.intBits b) (hb2 : Builtin.Int.intBits b ≤ 200)
   (hret : ∀ D t1 t2 cc tl' h' tk', Fr h₀ L h' m → News h₀ L h' ((D, tupO #[.int (a / b) t1, .int (a % b) t2] cc) :: (own ++ tl')) → Tabs tl' → AllLt D (own ++ tl') → Apart own tl' → Q (.ref D) { s with heap := h', toks := tk' }) :
    wpAny (model prog w) (kTop none dp un gd cn cs L ca ccd cl outer) (call (.ref 56) [.int a ta, .int b tb]) Q E s := by
  refine wpAny_call ?_
  k_dflt (walk_at "mine enter")
  k_steps
  · exfalso; omega
  refine divmodpos _ _ _ _ _ _ _ _ _ _ _ _ _ _ own tl _ _ _ a b _ _ (by assumption) (by assumption) (by assumption) (by assumption) (by assumption) rfl hC hC2 hT hA ?_ ?_ ha hb hab hb2 ?_
  · show dp + 1 < 700; omega
  · show un + 3 < 8000; omega
  · intro D t1 t2 cc tl1 h1 tk1 F1 N1 hT1 hD hA1
    dsimp only
    k_steps
    rename_i hkF hkN _ _
    exact hret _ _ _ _ _ _ _ hkF hkN hT1 hD hA1
theorem intdivmod2 {prog : Program} {w : World} {p : Program} {loose : List Str} {mean : ExcName → Option Value} {mg mb : Str → Option Value}
   (dp un : Nat) (gd : Option (List Code)) (cn : Str) (cs : Scope) (ca : Addr) (ccd : Value) (cl : List (Str × Addr)) (outer : List Env) (A₀ : Around) (base h₀ : Heap) (L : Addr) (m : Str → Option Value) (own tl : List (Addr × Obj)) (s : Shared)
   (Q E : Value → Shared → Prop) (a b : Int) (ta tb : Tok)
   (B : Below A₀ base outer h₀) (F : Fr h₀ L s.heap m) (X : (hd.heap_1 w.params).In h₀) (N : News h₀ L s.heap (own ++ tl)) (T : Top p loose mean mg mb h₀) (hk : cs.kind = .function)
   (hC : CodeHd base 34 30) (hC2 : CodeHd base 41 37) (hT : Tabs tl) (hA : Apart own tl)
   (hdp : dp < 680) (hun : un < 7980)
   (hb : 0 < b) (hab : Builtin.Int.intBits a ≤ 50 * Builtin.Int.intBits b) (hb2 : Builtin.Int.intBits b ≤ 200)
   (hret : ∀ D t1 t2 cc tl' h' tk', Fr h₀ L h' m → News h₀ L h' ((D, tupO #[.int (a / b) t1, .int (a % b) t2] cc) :: (own ++ tl')) → Tabs tl' → AllLt D (own ++ tl') → Apart own tl' → Q (.ref D) { s with heap := h', toks := tk' }) :
    wpAny (model prog w) (kTop none dp un gd cn cs L ca ccd cl outer) (call (.ref 56) [.int a ta, .int b tb]) Q E s := by
  by_cases ha : 0 ≤ a
  · exact intdivmod1 dp un gd cn cs ca ccd cl outer A₀ base h₀ L m own tl s Q E a b ta tb B F X N T hk hC hC2 hT hA (by omega) (by omega) ha hb hab hb2 hret
  refine wpAny_call ?_
  k_dflt (walk_at "mine enter")
  k_steps
  · exfalso; omega
  refine intdivmod1 _ _ _ _ _ _ _ _ _ _ _ _ _ _ own tl _ _ _ _ b _ _ (by assumption) (by assumption) (by assumption) (by assumption) (by assumption) rfl hC hC2 hT hA ?_ ?_ ?_ hb ?_ hb2 ?_
  · show dp + 1 < 690; omega
  · show un + 3 < 7990; omega
  · rw [bitNot_is]; omega
  · exact Nat.le_trans (bits_not (by omega)) hab
  · intro D t1 t2 cc tl1 h1 tk1 F1 N1 hT1 hD hA1
    dsimp only
    k_steps
    rename_i hl hkF hkN _ _
    rw [(not_div (a := a) hb).1, (not_div (a := a) hb).2] at hkN
    exact hret _ _ _ _ _ _ _ hkF (news_sub hkN (by walk_at "mine sub")) hT1 hl.2 hA1
theorem intdivmod3 {prog : Program} {w : World} {p : Program} {loose : List Str} {mean : ExcName → Option Value} {mg mb : Str → Option Value}
   (dp un : Nat) (gd : Option (List Code)) (cn : Str) (cs : Scope) (ca : Addr) (ccd : Value) (cl : List (Str × Addr)) (outer : List Env) (A₀ : Around) (base h₀ : Heap) (L : Addr) (m : Str → Option Value) (own tl : List (Addr × Obj)) (s : Shared)
   (Q E : Value → Shared → Prop) (a b : Int) (ta tb : Tok)
   (B : Below A₀ base outer h₀) (F : Fr h₀ L s.heap m) (X : (hd.heap_1 w.params).In h₀) (N : News h₀ L s.heap (own ++ tl)) (T : Top p loose mean mg mb h₀) (hk : cs.kind = .function)
   (hC : CodeHd base 34 30) (hC2 : CodeHd base 41 37) (hT : Tabs tl) (hA : Apart own tl)
   (hdp : dp < 670) (hun : un < 7970)
   (hb : b ≠ 0) (hab : Builtin.Int.intBits a ≤ 50 * Builtin.Int.intBits b) (hb2 : Builtin.Int.intBits b ≤ 200)
   (hret : ∀ D t1 t2 cc tl' h' tk', Fr h₀ L h' m → News h₀ L h' ((D, tupO #[.int (a.fdiv b) t1, .int (a.fmod b) t2] cc) :: (own ++ tl')) → Tabs tl' → AllLt D (own ++ tl') → Apart own tl' → Q (.ref D) { s with heap := h', toks := tk' }) :
    wpAny (model prog w) (kTop none dp un gd cn cs L ca ccd cl outer) (call (.ref 56) [.int a ta, .int b tb]) Q E s := by
  by_cases hb0 : 0 < b
  · refine intdivmod2 dp un gd cn cs ca ccd cl outer A₀ base h₀ L m own tl s Q E a b ta tb B F X N T hk hC hC2 hT hA (by omega) (by omega) hb0 hab hb2 ?_
    rw [fdiv_pos (Int.le_of_lt hb0), fmod_pos (Int.le_of_lt hb0)] at hret
    exact hret
  refine wpAny_call ?_
  k_dflt (walk_at "mine enter")
  k_steps
  · exfalso; omega
  refine intdivmod2 _ _ _ _ _ _ _ _ _ _ _ _ _ _ own tl _ _ _ _ _ _ _ (by assumption) (by assumption) (by assumption) (by assumption) (by assumption) rfl hC hC2 hT hA ?_ ?_ ?_ ?_ ?_ ?_
  · show dp + 1 < 680; omega
  · show un + 3 < 7980; omega
  · omega
  · rw [bits_neg, bits_neg]; exact hab
  · rw [bits_neg]; exact hb2
  · intro D t1 t2 cc tl1 h1 tk1 F1 N1 hT1 hD hA1
    dsimp only
    k_steps
    rename_i hl hkF hkN _ _
    have hlt : b < 0 := by omega
    rw [(neg_div (a := a) hlt).1, (neg_div (a := a) hlt).2] at hkN
    exact hret _ _ _ _ _ _ _ hkF (news_sub hkN (by walk_at "mine sub")) hT1 hl.2 hA1
end

section
open PySem PySem.W PyProof.Rows PySem.Calls
section
variable {prog : Program} {w : World} {A : Around} {E : Value → Shared → Prop} {s : Shared} {h₀ : Heap} {L : Addr} {m : Str → Option Value} {env : Env}

/-- the source of a comprehension: a range of any step -/
def SrcS (prog : Program) (w : World) (A : Around) (h₀ : Heap) (L : Addr) (m : Str → Option Value) (env : Env) (elt : Expr) (x : Str) (scope : Scope) (cl : List (Str × Addr)) (Fin : Shared → List Value → List (Addr × Obj) → Prop) (xv : Value) (s₁ : Shared) : Prop :=
  ∃ r a b c t u v n news, xv = .ref r ∧ A.handled = none ∧ Fr h₀ L s₁.heap m ∧ News h₀ L s₁.heap news ∧ IsRange s₁.heap r a b c t u v ∧ Builtin.Range.small a b c = true ∧ Builtin.Range.rangeSize a b c = ((n : Nat) : Int) ∧ n ≤ sizeLine ∧
    ∀ g, LCg.CompRest prog w A h₀ L m env elt x scope cl { s₁ with heap := g } (fun _ => True) (fun i v => ∃ t, v = .int (a + (i : Int) * c) t) (Fin { s₁ with heap := g }) n 0 [] news
theorem range_stS {I : Addr} {a c : Int} {n : Nat} : ∀ i (h h' : Heap) (o : Obj) (nw : List (Addr × Obj)), IsRangeIter h I (a + (i : Nat) * c) ((n : Int) - (i : Nat)) c → h.get? I = some o → h'.get? I = some o → (∀ b o, h₀.get? b = some o → h'.get? b = some o) → News h₀ L h' nw → True → IsRangeIter h' I (a + (i : Nat) * c) ((n : Int) - (i : Nat)) c :=
  fun i h h' o nw st e e' _ _ _ => by
    have st' : h.get? I = some _ := st
    show h'.get? I = some _
    rw [e', ← e]; exact st'
theorem ListComp_S {elt iter : Expr} {x : Str} {px : Pos} {scope : Scope} {cl : List (Str × Addr)} {pos : Pos} {Q : Value → Shared → Prop} (Fz0 : Fr h₀ L s.heap m)
    (hclos : closureFor scope env = pure cl) (hcell : ∀ y ∈ scope.names, y.2 ≠ .cell) (hkind : scope.kind = .function)
    (hnames : ∀ y ∈ scope.names, y.2 = .local → scope.names.lookup y.1 = some .local) (hx : scope.names.lookup x = some .local)
    (h : wpAny (model prog w) A (eval iter env) (SrcS prog w A h₀ L m env elt x scope cl (fun s₂ => LCg.FinE h₀ L m s₂ Q)) E s)
    (hs : ∀ x, foldedSetIterable iter env x = pure x := by intro _; rfl) :
    wpAny (model prog w) A (eval (.ListComp elt [⟨.Name x px, iter, [], 0⟩] scope pos) env) Q E s := by
  rw [eval_ListComp]
  refine wpAny_comprehension_free (use := none) rfl hs hclos hkind hnames (wpAny_mono h (fun xv s₁ h₁ => ?_) fun _ _ e => e)
  obtain ⟨r, a, b, c, t, u, v, n, news, rfl, hh, F, N, hr, hsm, hn, hsz, R⟩ := h₁
  refine wpAny_pyIter_range hr hsm ?_
  refine LCg.block_U (Walks.range hh _ a c n) hsz (fun i h st => ⟨_, st⟩) range_stS hcell hkind hx (by show IsRangeIter _ _ _ _ _; rw [hn]; simpa using Heap.get?_push_size _ rfl) (fun b hb => ?_)
    (F.keeps fun _ _ e => Heap.get?_push_of_some _ e) (N.grown fun _ _ e => Heap.get?_push_of_some _ e) (Nat.ne_of_lt F.ns.lt) (next_is_new F) (fun p hp => Nat.ne_of_lt (Heap.lt_size (N p hp).1)) trivial (R _) ?_
  · rw [List.mem_singleton.mp hb]
    show s₁.heap.objs.size < (s₁.heap.push _).objs.size
    rw [Heap.size_push]; exact Nat.lt_succ_self _
  · intro D C h tk m' ys news' F' N' o1 hn hC₀ hD₀ hCL hDL hCD offC fin
    refine ⟨m', hn, fun h'' hs'' => fin D h'' tk (F'.change hs'' hCL hC₀) (fun p hp => ?_) o1⟩
    refine ⟨hs''.extBut _ _ ?_ (N' p hp).1, (N' p hp).2⟩
    rcases List.mem_cons.mp hp with rfl | hp
    · exact Ne.symm hCD
    · exact offC p hp
theorem SrcS.range {elt : Expr} {x : Str} {scope : Scope} {cl : List (Str × Addr)} {Fin : Shared → List Value → List (Addr × Obj) → Prop} {r : Addr} {a b c : Int} {t u v : Tok} {n : Nat} {news : List (Addr × Obj)} {s₁ : Shared}
    (hh : A.handled = none) (F : Fr h₀ L s₁.heap m) (N : News h₀ L s₁.heap news) (hr : IsRange s₁.heap r a b c t u v) (hsm : Builtin.Range.small a b c = true) (hn : Builtin.Range.rangeSize a b c = ((n : Nat) : Int)) (hsz : n ≤ sizeLine)
    (h : ∀ g, LCg.CompRest prog w A h₀ L m env elt x scope cl { s₁ with heap := g } (fun _ => True) (fun i v => ∃ t, v = .int (a + (i : Int) * c) t) (Fin { s₁ with heap := g }) n 0 [] news) :
    SrcS prog w A h₀ L m env elt x scope cl Fin (.ref r) s₁ := ⟨r, a, b, c, t, u, v, n, news, rfl, hh, F, N, hr, hsm, hn, hsz, h⟩

theorem comp_ind {elt : Expr} {x : Str} {scope : Scope} {cl : List (Str × Addr)} {s : Shared} {S : List (Addr × Obj) → Prop} {P : Nat → Value → Prop} {Fin : List Value → List (Addr × Obj) → Prop} {n : Nat} {news : List (Addr × Obj)}
    (K : Nat → List Value → List (Addr × Obj) → Prop) (h0 : K 0 [] news)
    (step : ∀ i ys nx v I oI C oC D m₂ h tk (E' : Value → Shared → Prop), i < n → K i ys nx → P i v → LCg.NsObj oC m₂ → m₂ x = some v → Fr h₀ L h m → News h₀ L h ((I, oI) :: (C, oC) :: (D, LCg.lst ys) :: nx) → LCg.Off3 I C D nx → ((@Ne Nat I C) ∧ (@Ne Nat I D) ∧ (@Ne Nat C D)) →
      wpAny (model prog w) A (eval elt (compEnvC scope cl C env)) (LCg.CompEnd h₀ L m { s with heap := h, toks := tk } I oI C oC D (LCg.lst ys) S (fun y nx' => K (i + 1) (ys ++ [y]) nx')) E' { s with heap := h, toks := tk })
    (fin : ∀ ys nx, K n ys nx → Fin ys nx) : LCg.CompRest prog w A h₀ L m env elt x scope cl s S P Fin n 0 [] news := by
  have all : ∀ k i ys nx, k + i = n → K i ys nx → LCg.CompRest prog w A h₀ L m env elt x scope cl s S P Fin k i ys nx := by
    intro k
    induction k with
    | zero =>
      intro i ys nx hk hK
      have : i = n := by omega
      subst this
      exact LCg.CompRest.zero (fin ys nx hK)
    | succ k ih =>
      intro i ys nx hk hK
      refine LCg.CompRest.succ ?_
      intro v I oI C oC D m₂ h tk E' hP hC hx F N off ne
      refine wpAny_mono (step i ys nx v I oI C oC D m₂ h tk E' (by omega) hK hP hC hx F N off ne) (fun y s₂ h₂ => ?_) fun _ _ e => e
      obtain ⟨h', tk', nx', e, F', N', off', hS, hr⟩ := h₂
      exact ⟨h', tk', nx', e, F', N', off', hS, ih (i + 1) _ _ (by omega) hr⟩
  exact all n 0 [] news rfl h0
end
end

section
theorem plain_F7 : True ∧ True := by
  w_top off
  walk1 <;> trivial
set_option maxRecDepth 100000
set_option maxHeartbeats 8000000
theorem fillme7 : (fun (_:OpenLaw) (_ : Params → Frag) => True) PySem.Challenge.rw_un0010_01 hd.heap_1 := by
  k_fill
  trivial

local macro_rules | `(tactic| walk_at "eval ListComp") => `(tactic| (k_here; k_dflt (refine ListComp_S (Fz0 := by k_asm) (by rfl) (by decide) (by rfl) (by decide) (by rfl) ?_)))
theorem fitsLong {x : Int} (h : -1000000 ≤ x ∧ x ≤ 1000000) : Builtin.Range.rangeFitsLong x = true := by
  unfold Builtin.Range.rangeFitsLong
  rw [Bool.and_eq_true]
  exact ⟨decide_eq_true (by omega), decide_eq_true (by omega)⟩
theorem range_small {a b c : Int} {n : Nat} (hn : Builtin.Range.rangeSize a b c = ((n : Nat) : Int)) (h1 : -1000 ≤ a ∧ a ≤ 1000) (h2 : -1000 ≤ b ∧ b ≤ 1000) (h3 : 0 < c ∧ c ≤ 1000) (h4 : n ≤ 1000) : Builtin.Range.small a b c = true := by
  unfold Builtin.Range.small
  rw [hn, if_pos h3.1, fitsLong (x := a) (by omega), fitsLong (x := b) (by omega), fitsLong (x := c) (by omega), fitsLong (x := (n : Int)) (by omega), fitsLong (x := b + (c - 1)) (by omega), Bool.or_true]
  rfl
theorem lawcell {prog : Program} {w : World} {p : Program} {loose : List Str} {mean : ExcName → Option Value} {mg mb : Str → Option Value}
   (dp un : Nat) (gd : Option (List Code)) (cn : Str) (cs : Scope) (ca : Addr) (ccd : Value) (cl : List (Str × Addr)) (outer : List Env) (A₀ : Around) (base h₀ : Heap) (L : Addr) (m : Str → Option Value) (news : List (Addr × Obj)) (s : Shared)
   (Q E : Value → Shared → Prop) (l : Addr) (vs : List Value) (ns : List Int) (place own : Int) (ta tb : Tok)
   (B : Below A₀ base outer h₀) (F : Fr h₀ L s.heap m) (X : (hd.heap_1 w.params).In h₀) (N : News h₀ L s.heap news) (T : Top p loose mean mg mb h₀) (hk : cs.kind = .function)
   (hl : base.IsList l vs.toArray) (hi : IntsAre vs ns) (hlen : ns.length ≤ 63) (hbits : ∀ n ∈ ns, Builtin.Int.intBits n ≤ 1048576)
   (hpl : 0 ≤ place ∧ place < 5) (hown : -5 ≤ own ∧ own ≤ 1)
   (hdp : dp < 690) (hun : un < 7990)
   (hret : ∀ c t1 h' tk', Fr h₀ L h' m → News h₀ L h' news → -10 ^ 20 < c → c < 10 ^ 20 → Q (.int c t1) { s with heap := h', toks := tk' }) :
    wpAny (model prog w) (kTop none dp un gd cn cs L ca ccd cl outer) (call (.ref 112) [.ref l, .int place ta, .int own tb]) Q E s := by
  refine wpAny_call ?_
  k_dflt (walk_at "mine enterC")
  rename (∀ p ∈ news, p.1 < _) => hl1
  have hl2 := allLt_of hl1
  k_steps
  obtain ⟨n, hn, hn2⟩ : ∃ n : Nat, Builtin.Range.rangeSize place (ns.length : Int) 5 = ((n : Nat) : Int) ∧ ∀ i < n, place + (i : Int) * 5 < (ns.length : Int) := by
    unfold Builtin.Range.rangeSize
    by_cases h : place < (ns.length : Int)
    · refine ⟨(((ns.length : Int) - place - 1) / 5 + 1).toNat, ?_, ?_⟩
      · rw [if_pos (by decide), if_pos h]; omega
      · intro i hi; omega
    · exact ⟨0, by rw [if_pos (by decide), if_neg h]; rfl, fun i hi => absurd hi (Nat.not_lt_zero _)⟩
  have hn3 : n ≤ 63 := by
    have := hn2 (n - 1); omega
  refine SrcS.range rfl (by assumption) (by assumption) (by assumption) ?_ hn ?_ ?_
  · exact range_small hn (by omega) (by omega) (by omega) (by omega)
  · rw [PySem.sizeLine_eq]; omega
  · intro g
    rename_i g1 L1 h0' tk1 FG1 F1 B1 X1 T1 o1 d1 N1 h2 tk2 t1 t2 t3 hr F2 N2 hold
    refine comp_ind (fun i ys nx => nx = (L1 + 1, o1) :: news ∧ ∃ zs, IntsAre ys zs ∧ (∀ z ∈ zs, Builtin.Int.intBits z ≤ 1048576) ∧ zs.length = i) ⟨rfl, [], .nil, by simp, rfl⟩ ?_ ?_
    · rintro i ys nx v I oI C oC D m2 h9 tk9 E9 hi ⟨rfl, zs, hI9, hz, hl9⟩ ⟨t9, rfl⟩ hC9 hx9 F9 N9 off ne
      have hidx := hn2 i hi
      k_steps
      have hlt : (place + (i : Int) * 5).toNat < ns.length := by omega
      refine LCg.CompEnd.intro F9 N9 ((L1 + 1, o1) :: news) (fun p hp => hp) off trivial ⟨rfl, zs ++ [_], IntsAre.append hI9 (.cons _ _ .nil), ?_, by simp [hl9]⟩
      intro z hz9
      rcases List.mem_append.mp hz9 with h | h
      · exact hz z h
      · rw [List.mem_singleton.mp h, List.getD_eq_getElem?_getD, List.getElem?_eq_getElem hlt]
        exact hbits _ (List.getElem_mem hlt)
    · rintro ys nx ⟨rfl, zs, hI9, hz, hl9⟩
      have hmod : ∀ x : Int, 0 ≤ x.fmod (10 ^ Int.toNat 20) ∧ x.fmod (10 ^ Int.toNat 20) < 10 ^ 20 := fun x => by
        rw [fmod_pos (by decide)]
        exact ⟨Int.emod_nonneg _ (by decide), Int.emod_lt_of_pos _ (by decide)⟩
      k_steps
      · rename_i hkF hkN _ _
        have := hmod (-(own + zs.sum))
        exact hret _ _ _ _ hkF (news_sub hkN (by walk_at "mine sub")) (by omega) (by omega)
      · rename_i hkF hkN _ _
        have := hmod (own + zs.sum)
        exact hret _ _ _ _ hkF (news_sub hkN (by walk_at "mine sub")) (by omega) (by omega)
end

section
/-- what t octets from the i-th on tell, six bits each -/
def vv (os : List Int) (i : Nat) : Nat → Int
  | 0 => 0
  | t + 1 => vv os i t * 64 + os.getD (i + t) 0 % 64
theorem vv_bound (os : List Int) (i : Nat) : ∀ t, 0 ≤ vv os i t ∧ vv os i t < 64 ^ t
  | 0 => by simp [vv]
  | t + 1 => by
    have h := vv_bound os i t
    have e : (64 : Int) ^ (t + 1) = 64 ^ t * 64 := Int.pow_succ ..
    simp only [vv]
    have h1 := Int.emod_nonneg (os.getD (i + t) 0) (b := 64) (by decide)
    have h2 := Int.emod_lt_of_pos (os.getD (i + t) 0) (b := 64) (by decide)
    omega
theorem and_apart (a b : Nat) : (a * 64) &&& (b % 64) = 0 := by
  apply Nat.eq_of_testBit_eq
  intro i
  rw [Nat.testBit_and, Nat.zero_testBit, show a * 64 = a <<< 6 by rw [Nat.shiftLeft_eq], Nat.testBit_shiftLeft, show (64 : Nat) = 2 ^ 6 from rfl, Nat.testBit_mod_two_pow]
  by_cases h : i < 6
  · simp [show ¬ 6 ≤ i by omega]
  · simp [h]
theorem or_add {a b : Int} (ha : 0 ≤ a) : Builtin.bitOr (a * 64) (b % 64) = a * 64 + b % 64 := by
  obtain ⟨x, rfl⟩ := Int.eq_ofNat_of_zero_le ha
  obtain ⟨y, hy⟩ := Int.eq_ofNat_of_zero_le (Int.emod_nonneg b (b := 64) (by decide))
  have hy2 : y < 64 := by have := Int.emod_lt_of_pos b (b := 64) (by decide); omega
  have e : Builtin.bitAnd ((x : Int) * 64) (b % 64) = 0 := by
    rw [hy, show ((x : Int) * 64) = ((x * 64 : Nat) : Int) by omega]
    show (((Int.toNat ((x * 64 : Nat) : Int)) &&& (Int.toNat ((y : Nat) : Int)) : Nat) : Int) = 0
    rw [Int.toNat_natCast, Int.toNat_natCast, show y = y % 64 by omega, and_apart]; rfl
  rw [bitOr_and, e]; omega
theorem and63 (x : Int) : Builtin.bitAnd x 63 = x % 64 := bitAnd_m6 x
theorem vv_step {os : List Int} {i t : Nat} : Builtin.bitOr (vv os i t * 64) (Builtin.bitAnd (os.getD (i + t) 0) 63) = vv os i (t + 1) := by
  rw [and63, or_add (vv_bound os i t).1]; rfl
end

section
open PySem PySem.W PyProof.Rows PySem.Calls PySem.Spec
set_option maxRecDepth 100000
/-- an iterator over the list at l, i items taken -/
abbrev liO (l : Addr) (i : Nat) : Obj := { cls := .type "list_iterator", data := .fields #[.ref l, .int (i : Int) 0] }
section
variable {prog : Program} {w : World} {A : Around} {E : Value → Shared → Prop} {s : Shared} {h₀ : Heap} {L l it : Addr} {m : Str → Option Value} {news news' : List (Addr × Obj)} {its : Array Value} {n i : Nat} {v : Value}

theorem li_iter {Q : Value → Shared → Prop} (F : Fr h₀ L s.heap m) (N : News h₀ L s.heap news) (hm : (l, W.listOf its n) ∈ news)
    (h : ∀ (I : Addr) h', Fr h₀ L h' m → News h₀ L h' ((I, liO l 0) :: news) → AllLt I news → Q (.ref I) { s with heap := h' }) :
    wpAny (model prog w) A (call (.builtin "iter") [.ref l]) Q E s := by
  have hl := N _ hm
  refine call_function_entry (by decide +kernel) (by decide +kernel) kdk_entry_iter (kdk_args_iter _) ?_
  unfold Builtin.«iter»
  refine wpAny_bind (m := someArgs "iter" 1 2 _) (wpAny_of_eq (a := [Value.ref l]) (by first | rfl | kernel_rfl!) ?_)
  show wpAny _ _ (pyIter (.ref l) >>= _) _ _ _
  refine wpAny_bind (wpAny_pyIter_list (items := its) ⟨_, hl.1, rfl, n, rfl⟩ ?_)
  exact wpAny_pure ⟨_, rfl, h _ _ (F.push _) (News.push F N _ rfl) (allLt_of fun q hq => Heap.lt_size (N q hq).1)⟩

theorem li_special {Q : Option Value → Shared → Prop} (ho : s.heap.get? it = some (liO l i)) (hl : s.heap.IsList l its) (hx : its[i]? = some v)
    (h : ∀ h', Heap.SameBut it s.heap h' → h'.get? it = some (liO l (i + 1)) → Q (some v) { s with heap := h' }) :
    wpAny (model prog w) A (callSpecial? (.ref it) (Str.ofString "__next__")) Q E s := by
  have hit : s.heap.IsListIter it l i := ⟨_, ho, rfl, rfl⟩
  obtain ⟨ol, hol, _, nl, hdl⟩ := hl
  have hd : (liO l i).data = .fields #[.ref l, .int (i : Int) 0] := rfl
  refine wpAny_callSpecial?_slot (name := Str.ofString "__next__") hit.typeIs slot_listiter_next
    (wpAny_call_entry slot_listiter_next hit.typeIs entry_listiter_next ?_ (args_listiter_next _))
  show wpAny _ _ (field (.ref it) 0 >>= _) _ _ s
  refine wpAny_bind (wpAny_field ho hd (x := .ref l) rfl ?_)
  show wpAny _ _ (if (Value.ref l == Value.none) = true then _ else _) _ _ s
  rw [if_neg (show ¬ ((Value.ref l == Value.none) = true) from Bool.false_ne_true)]
  show wpAny _ _ (field (.ref it) 1 >>= _) _ _ s
  refine wpAny_bind (wpAny_field ho hd (x := .int i 0) rfl ?_)
  show wpAny _ _ (seqItems? (.ref l) >>= _) _ _ s
  refine wpAny_bind (wpAny_seqItems hol hdl ?_)
  simp only [Int.toNat_natCast, hx]
  refine wpAny_bind (wpAny_setField ho hd (by simp) (wpAny_pure ⟨v, rfl, h _ (Heap.SameBut.update ..) ?_⟩))
  exact Heap.get?_update_self _ ho (Obj.isFreed_of_fields (Obj.data_mapFields hd _))

theorem li_next {Q : Value → Shared → Prop} (F : Fr h₀ L s.heap m) (N : News h₀ L s.heap news) (U : Upd it (liO l i) (liO l (i + 1)) news news') (hm : (l, W.listOf its n) ∈ news) (hx : its[i]? = some v)
    (h : ∀ h', Fr h₀ L h' m → News h₀ L h' news' → Q v { s with heap := h' }) :
    wpAny (model prog w) A (call (.builtin "next") [.ref it]) Q E s := by
  obtain ⟨pre, post, rfl, rfl, a, b⟩ := U.split
  have z := N (it, liO l i) (List.mem_append.mpr (.inr (.head _)))
  have hl := N _ hm
  have hit : s.heap.IsListIter it l i := ⟨_, z.1, rfl, rfl⟩
  refine call_function_entry (by decide +kernel) (by decide +kernel) kdk_entry_next (kdk_args_next _) ?_
  unfold Builtin.«next»
  refine wpAny_bind (m := someArgs "next" 1 2 _) (wpAny_of_eq (a := [Value.ref it]) (by first | rfl | kernel_rfl!) ?_)
  dsimp only
  refine wpAny_bind (wpAny_specialOf (name := Str.ofString "__next__") hit.typeIs slot_listiter_next.lookup ?_)
  refine wpAny_ite_split (fun hab => absurd hab (by decide)) (fun _ => ?_)
  refine wpAny_bind (li_special z.1 ⟨_, hl.1, rfl, n, rfl⟩ hx fun h' hs ho' => ?_)
  exact wpAny_pure ⟨_, rfl, h h' (F.change hs z.2.1 z.2.2) (news_set N a b hs ho')⟩
end
end

section
theorem plain_F8 : True ∧ True := by
  w_top off
  walk1 <;> trivial
set_option maxRecDepth 100000
set_option maxHeartbeats 8000000
theorem fillme8 : (fun (_:OpenLaw) (_ : Params → Frag) => True) PySem.Challenge.rw_un0010_01 hd.heap_1 := by
  k_fill
  trivial
local macro_rules | `(tactic| walk_at "exec While BinOp cons nil") => `(tactic| (refine Hold.out ?_))
theorem parsevarint {prog : Program} {w : World} {p : Program} {loose : List Str} {mean : ExcName → Option Value} {mg mb : Str → Option Value}
   (dp un : Nat) (gd : Option (List Code)) (cn : Str) (cs : Scope) (ca : Addr) (ccd : Value) (cl : List (Str × Addr)) (outer : List Env) (A₀ : Around) (base h₀ : Heap) (L : Addr) (m : Str → Option Value) (rest : List (Addr × Obj)) (s : Shared)
   (Q E : Value → Shared → Prop) (it l : Addr) (vs : List Value) (os : List Int) (cc i j : Nat)
   (B : Below A₀ base outer h₀) (F : Fr h₀ L s.heap m) (X : (hd.heap_1 w.params).In h₀) (N : News h₀ L s.heap ((it, liO l i) :: (l, W.listOf vs.toArray cc) :: rest)) (T : Top p loose mean mg mb h₀) (hk : cs.kind = .function)
   (hoff : ∀ p ∈ rest, p.1 ≠ it) (hne : l ≠ it) (hI : IntsAre vs os) (hj : 0 < j) (hj2 : j ≤ 8) (hij : i + j ≤ os.length)
   (hmore : ∀ t, t + 1 < j → Builtin.bitAnd (os.getD (i + t) 0) 64 ≠ 0) (hlast : Builtin.bitAnd (os.getD (i + (j - 1)) 0) 64 = 0)
   (hdp : dp < 690) (hun : un < 7990)
   (hret : ∀ t1 h' tk', Fr h₀ L h' m → News h₀ L h' ((it, liO l (i + j)) :: (l, W.listOf vs.toArray cc) :: rest) → Q (.int (vv os i j) t1) { s with heap := h', toks := tk' }) :
    wpAny (model prog w) (kTop none dp un gd cn cs L ca ccd cl outer) (call (.ref 63) [.ref it]) Q E s := by
  have hget : ∀ t, t < j → ∃ tt, vs.toArray[i + t]? = some (.int (os.getD (i + t) 0) tt) := fun t ht => by
    have hlt : i + t < os.length := by omega
    obtain ⟨tt, hx⟩ := hI.get _ _ (List.getElem?_eq_getElem hlt)
    exact ⟨tt, by rw [List.getElem?_toArray, hx, List.getD_eq_getElem?_getD, List.getElem?_eq_getElem hlt]; rfl⟩
  refine wpAny_call ?_
  k_dflt (walk_at "mine enter")
  k_steps
  obtain ⟨tt0, hx0⟩ := hget 0 hj
  refine li_next (by assumption) (by assumption) (U := by k_upd) (by k_mem) hx0 ?_
  intro h2 F2 N2
  dsimp only
  rw [Nat.add_zero]
  k_steps
  unfold Hold
  rename Fr _ _ _ _ => F7
  rename News _ _ _ _ => N7
  refine with_map F7 (fun m0 hm0 F8 => ?_)
  clear F7
  have h1 : vv os i 1 = Builtin.bitAnd (os.getD i 0) 63 := by rw [and63]; simp [vv]
  refine While_inv (fun n m nx => ∃ t tb tv, n = j - t ∧ 1 ≤ t ∧ t ≤ j ∧ nx = (it, liO l (i + t)) :: (l, W.listOf vs.toArray cc) :: rest ∧ m (Str.ofString "b") = some (.int (os.getD (i + (t - 1)) 0) tb) ∧ m (Str.ofString "val") = some (.int (vv os i t) tv) ∧
      ∀ z, z ≠ Str.ofString "b" → z ≠ Str.ofString "val" → m z = m0 z) F8 N7 (n₀ := j - 1) ?_ ?_
  · subst hm0
    exact ⟨1, _, _, rfl, Nat.le_refl _, hj, rfl, rfl, by rw [h1]; rfl, fun _ _ _ => rfl⟩
  · rintro n m1 nx h9 tk9 F9 N9 ⟨t, tb, tv, rfl, ht1, ht2, rfl, hmb, hmv, hmz⟩
    have F10 := fr_eq F9 (m' := fun z => if z = Str.ofString "b" then some (.int (os.getD (i + (t - 1)) 0) tb) else if z = Str.ofString "val" then some (.int (vv os i t) tv) else m0 z) (fun z => by
      by_cases e1 : z = Str.ofString "b"
      · simp [e1, hmb]
      · by_cases e2 : z = Str.ofString "val"
        · simp only [if_neg e1, if_pos e2]; rw [e2]; exact hmv
        · simp [e1, e2, hmz z e1 e2])
    clear F9 F8
    subst hm0
    have hbv : 0 ≤ vv os i t ∧ vv os i t < 281474976710656 := by
      have h := vv_bound os i t
      have h2 : (64 : Int) ^ t ≤ 64 ^ 8 := by
        have := Nat.pow_le_pow_right (n := 64) (by decide) (show t ≤ 8 by omega)
        have e : ∀ k : Nat, ((64 ^ k : Nat) : Int) = 64 ^ k := fun k => by rw [Int.natCast_pow]; rfl
        rw [← e, ← e]; exact Int.ofNat_le.mpr this
      have h3 : (64 : Int) ^ 8 = 281474976710656 := by decide
      omega
    k_steps
    · rename_i hbit _ _
      have htj : t < j := by
        rcases Nat.lt_or_ge t j with h | h
        · exact h
        · exact absurd hlast (by rw [show j - 1 = t - 1 by omega]; assumption)
      obtain ⟨tt1, hx1⟩ := hget t htj
      refine li_next (by assumption) (by assumption) (U := by k_upd) (by k_mem) hx1 ?_
      intro h3 F3 N3
      dsimp only
      k_steps
      rename_i h4 F4 N4
      rw [show Builtin.bitOr (vv os i t * 2 ^ Int.toNat 6) (Builtin.bitAnd (os.getD (i + t) 0) 63) = vv os i (t + 1) from by rw [show (2 : Int) ^ Int.toNat 6 = 64 from by decide]; exact vv_step] at F4
      refine WhileStep.intro F4 N4 (n' := j - (t + 1)) (by omega) ⟨t + 1, tt1, _, rfl, by omega, by omega, rfl, rfl, rfl, ?_⟩
      intro z e1 e2
      simp [e1, e2]
    · have htj : t = j := by
        rcases Nat.lt_or_ge t j with h | h
        · exact (hmore (t - 1) (by omega) (by assumption)).elim
        · omega
      subst htj
      rename_i hkF hkN _ _
      exact hret _ _ _ hkF hkN
end

section
open PySem PySem.W PyProof.Rows PySem.Builtin PySem.Builtin.Str
/-- the places of a sign -/
def pos (c : Nat) : List Nat → Nat → List Nat
  | [], _ => []
  | a :: r, o => if a = c then o :: pos c r (o + 1) else pos c r (o + 1)
theorem pos_append (c : Nat) : ∀ (l r : List Nat) (o : Nat), pos c (l ++ r) o = pos c l o ++ pos c r (o + l.length)
  | [], r, o => by simp [pos]
  | a :: l, r, o => by
    simp only [List.cons_append, pos, List.length_cons]
    rw [pos_append c l r (o + 1), show o + 1 + l.length = o + (l.length + 1) by omega]
    split <;> rfl
theorem pos_none {c : Nat} : ∀ {l : List Nat} (o : Nat), (∀ a ∈ l, a ≠ c) → pos c l o = []
  | [], _, _ => rfl
  | a :: l, o, h => by
    simp only [pos]
    rw [if_neg (h a List.mem_cons_self)]
    exact pos_none _ fun b hb => h b (List.mem_cons_of_mem _ hb)
theorem occ_pos (x : Str) (c limit : Nat) : ∀ (l : List Nat) (a : Nat) (found : Array Nat) (free : Nat), x.cps.toList.drop a = l → a + l.length = x.cps.toList.length → free ≤ a → found.size + l.length < limit →
    (forIn (List.range' a (l.length + 1)) (found, free) (StrLaws.occBody x ⟨#[c]⟩ x.length limit)).run.fst.toList = found.toList ++ pos c l a
  | [], a, found, free, hd, hl, hf, hs => by
    simp only [List.length_nil, List.range'_succ, List.range'_zero, pos, List.append_nil]
    have h : ¬ (((found.size < limit ∧ free ≤ a) ∧ a + (⟨#[c]⟩ : Str).length ≤ x.length) ∧ subAt x ⟨#[c]⟩ a = true) := by
      rintro ⟨⟨_, h⟩, _⟩
      have e : (⟨#[c]⟩ : Str).length = 1 := rfl
      have e2 : x.length = x.cps.toList.length := by simp [Str.length]
      simp only [List.length_nil] at hl
      omega
    simp [StrLaws.occBody, h]
  | b :: l, a, found, free, hd, hl, hf, hs => by
    have hb : x.cps.toList[a]? = some b := by
      have := congrArg (·[0]?) hd
      simpa using this
    have hd2 : x.cps.toList.drop (a + 1) = l := by
      have := congrArg List.tail hd
      simpa using this
    simp only [List.length_cons] at hl hs
    have hr : List.range' a (l.length + 1 + 1) = a :: List.range' (a + 1) (l.length + 1) := rfl
    simp only [List.length_cons, hr, pos]
    by_cases hc : b = c
    · subst hc
      have h1 := (StrLaws.subAt_one x b a).mpr hb
      have h : (((found.size < limit ∧ free ≤ a) ∧ a + (⟨#[b]⟩ : Str).length ≤ x.length) ∧ subAt x ⟨#[b]⟩ a = true) := ⟨⟨⟨by omega, hf⟩, h1.1⟩, h1.2⟩
      have ih := occ_pos x b limit l (a + 1) (found.push a) (a + (⟨#[b]⟩ : Str).length) hd2 (by omega) (Nat.le_refl _) (by rw [Array.size_push]; omega)
      rw [List.forIn_cons]
      simp only [StrLaws.occBody, if_pos h]
      simp only [if_true]
      show (forIn (List.range' (a + 1) (l.length + 1)) (found.push a, a + (⟨#[b]⟩ : Str).length) (StrLaws.occBody x ⟨#[b]⟩ x.length limit)).run.fst.toList = _
      rw [ih]; simp
    · have h : ¬ (((found.size < limit ∧ free ≤ a) ∧ a + (⟨#[c]⟩ : Str).length ≤ x.length) ∧ subAt x ⟨#[c]⟩ a = true) := by
        rintro ⟨⟨_, h1⟩, h2⟩
        have := (StrLaws.subAt_one x c a).mp ⟨h1, h2⟩
        rw [hb] at this
        exact hc (Option.some.inj this)
      have ih := occ_pos x c limit l (a + 1) found free hd2 (by omega) (by omega) (by omega)
      rw [List.forIn_cons]
      simp only [StrLaws.occBody, if_neg h]
      rw [if_neg hc]
      show (forIn (List.range' (a + 1) (l.length + 1)) (found, free) (StrLaws.occBody x ⟨#[c]⟩ x.length limit)).run.fst.toList = _
      exact ih
theorem occ_all (x : Str) (c : Nat) : occurrences x ⟨#[c]⟩ 0 x.length (x.length + 1) = pos c x.cps.toList 0 := by
  have e : x.length = x.cps.toList.length := by simp [Str.length]
  rw [StrLaws.occ_eq]
  have := occ_pos x c (x.length + 1) x.cps.toList 0 #[] 0 rfl (by omega) (Nat.le_refl _) (by simp [Str.length])
  rw [Nat.sub_zero]
  rw [← e] at this
  rw [this]; simp

theorem find3_at {x : Str} {c : Nat} {i : Int} {k : Nat} (hk : k < x.length) (hf : fromIndex x.length i ≤ k) (hc : x.cps.getD k 0 = c) (hn : ∀ v, fromIndex x.length i ≤ v → v < k → x.cps.getD v 0 ≠ c) : Txt.find3 x ⟨#[c]⟩ i = (k : Int) := by
  rcases StrLaws.find3_spec x c i with ⟨_, h⟩ | ⟨k', h, h1, h2, h3, h4⟩
  · exact absurd hc (h k hf hk)
  · rcases Nat.lt_trichotomy k' k with h5 | h5 | h5
    · exact absurd h3 (hn k' h1 h5)
    · rw [h, h5]
    · exact absurd hc (h4 k hf h5)
theorem find_is (x : Str) (c : Nat) : Txt.find x ⟨#[c]⟩ = Txt.find3 x ⟨#[c]⟩ 0 := by
  unfold Txt.find Txt.find3
  have e : fromIndex x.length 0 = 0 := by simp [fromIndex]
  rw [e]
  cases occurrences x ⟨#[c]⟩ 0 x.length 1 <;> rfl
theorem slice_plain {x : Str} {i j : Int} (h : 0 ≤ i ∧ i ≤ j ∧ j ≤ x.cps.toList.length) : Txt.slice x (some i) (some j) = ⟨((x.cps.toList.drop i.toNat).take (j - i).toNat).toArray⟩ := StrLaws.sliceText_plain h
theorem slice_to {x : Str} {j : Int} (h : 0 ≤ j ∧ j ≤ x.cps.toList.length) : Txt.slice x none (some j) = ⟨((x.cps.toList.drop 0).take (j - 0).toNat).toArray⟩ := StrLaws.sliceText_to h
theorem item_is {x : Str} {i : Int} {c : Nat} (h0 : 0 ≤ i) (h : x.cps.toList[i.toNat]? = some c) : Txt.item x i = ⟨#[c]⟩ := by
  unfold Txt.item Txt.charAt
  rw [StrLaws.at_nonneg h0 (n := c) (by simpa using h)]
  rfl
theorem kind_le {x : Str} {c : Nat} (h : c ∈ x.cps.toList) : Builtin.Str.strKind ⟨#[c]⟩ ≤ Builtin.Str.strKind x := by
  have hc : ∀ n, x.cps.all (· < n) = true → (#[c] : Array Nat).all (· < n) = true := fun n hx => by
    have : decide (c < n) = true := by
      have := Array.all_eq_true'.mp hx c (Array.mem_toList_iff.mp h)
      exact this
    simpa using this
  unfold Builtin.Str.strKind
  by_cases h1 : x.cps.all (· < 256) = true
  · rw [if_pos h1, if_pos (hc 256 h1)]; exact Nat.le_refl _
  · rw [if_neg h1]
    by_cases h2 : x.cps.all (· < 65536) = true
    · rw [if_pos h2]
      split
      · decide
      · rw [if_pos (hc 65536 h2)]; exact Nat.le_refl _
    · rw [if_neg h2]
      split
      · decide
      · split <;> decide
theorem split_one {x : Str} {c : Nat} (h : c ∈ x.cps.toList) : Txt.split x ⟨#[c]⟩ = partsBetween x (pos c x.cps.toList 0) 1 := by
  have hl : 1 ≤ x.length := by
    have : 0 < x.cps.toList.length := List.length_pos_of_mem h
    simp [Str.length] at this ⊢; omega
  have hp : pos c x.cps.toList 0 ≠ [] := by
    obtain ⟨a, b, e⟩ := List.append_of_mem h
    rw [e, pos_append]
    simp [pos]
  unfold Txt.split
  have h1 : (decide (x.length < (⟨#[c]⟩ : Str).length) || decide (Builtin.Str.strKind x < Builtin.Str.strKind ⟨#[c]⟩)) = false := by
    have e : (⟨#[c]⟩ : Str).length = 1 := rfl
    have := kind_le h
    rw [Bool.or_eq_false_iff]
    exact ⟨decide_eq_false (by omega), decide_eq_false (by omega)⟩
  rw [h1, occ_all]
  have h2 : (pos c x.cps.toList 0).isEmpty = false := by simpa using hp
  rw [h2]
  rfl
end

section
open PySem PySem.W PyProof.Rows PySem.Builtin PySem.Builtin.Str
def replyL (M W : Nat) (ds : List Nat) : List Nat := [50, 50, 57, 32, M, 40, M, W, M, M] ++ (ds ++ [M, 41, M])
abbrev reply (M W : Nat) (ds : List Nat) : Str := ⟨(replyL M W ds).toArray⟩
section
variable {M W : Nat} {ds : List Nat}
theorem str_open : Str.ofString "(" = ⟨#[40]⟩ := by decide +kernel
theorem str_close : Str.ofString ")" = ⟨#[41]⟩ := by decide +kernel
theorem str_229 : Str.ofString "229" = ⟨#[50, 50, 57]⟩ := by decide +kernel
theorem replyL_length : (replyL M W ds).length = 13 + ds.length := by simp [replyL]; omega
theorem reply_length : (reply M W ds).length = 13 + ds.length := by
  show (replyL M W ds).toArray.size = _
  rw [List.size_toArray, replyL_length]
theorem replyL_lo {i : Nat} (h : i < 10) : (replyL M W ds)[i]? = [50, 50, 57, 32, M, 40, M, W, M, M][i]? := by
  unfold replyL; rw [List.getElem?_append_left (by simpa using h)]
theorem replyL_mid {i : Nat} (h : i < ds.length) : (replyL M W ds)[10 + i]? = ds[i]? := by
  unfold replyL
  rw [List.getElem?_append_right (by simp), List.getElem?_append_left (by simp; omega)]
  congr 1; simp
theorem replyL_hi {i : Nat} : (replyL M W ds)[10 + ds.length + i]? = [M, 41, M][i]? := by
  unfold replyL
  rw [List.getElem?_append_right (by simp; omega), List.getElem?_append_right (by simp; omega)]
  congr 1; simp; omega
theorem reply_getD {v : Nat} : (reply M W ds).cps.getD v 0 = (replyL M W ds)[v]?.getD 0 := by
  show (replyL M W ds).toArray.getD v 0 = _
  by_cases h : v < (replyL M W ds).length
  · simp [Array.getD, h]
  · simp [Array.getD, h]
theorem reply_ne {c : Nat} (hM : 192 ≤ M) (hW : 192 ≤ W) (hds : ∀ d ∈ ds, 48 ≤ d ∧ d ≤ 57) (hc : c = 40 ∨ c = 41) {v : Nat} (hv : v ≠ 5) (hv2 : v < 11 + ds.length) : (reply M W ds).cps.getD v 0 ≠ c := by
  rw [reply_getD]
  by_cases h1 : v < 10
  · rw [replyL_lo h1]
    have : v = 0 ∨ v = 1 ∨ v = 2 ∨ v = 3 ∨ v = 4 ∨ v = 6 ∨ v = 7 ∨ v = 8 ∨ v = 9 := by omega
    rcases this with rfl | rfl | rfl | rfl | rfl | rfl | rfl | rfl | rfl <;> simp <;> omega
  · obtain ⟨i, rfl⟩ : ∃ i, v = 10 + i := ⟨v - 10, by omega⟩
    by_cases h2 : i < ds.length
    · rw [replyL_mid h2, List.getElem?_eq_getElem h2]
      have := hds _ (List.getElem_mem h2)
      simp only [Option.getD_some]; omega
    · obtain rfl : i = ds.length := by omega
      have := replyL_hi (M := M) (W := W) (ds := ds) (i := 0)
      rw [Nat.add_zero] at this
      rw [this]; simp; omega
theorem reply_find (hM : 192 ≤ M) (hW : 192 ≤ W) (hds : ∀ d ∈ ds, 48 ≤ d ∧ d ≤ 57) : Txt.find (reply M W ds) (Str.ofString "(") = 5 := by
  rw [str_open, find_is]
  refine find3_at (k := 5) (by rw [reply_length]; omega) (by simp [fromIndex]) ?_ ?_
  · rw [reply_getD, replyL_lo (by omega)]; rfl
  · intro v _ hv; exact reply_ne hM hW hds (.inl rfl) (by omega) (by omega)
theorem reply_find3 (hM : 192 ≤ M) (hW : 192 ≤ W) (hds : ∀ d ∈ ds, 48 ≤ d ∧ d ≤ 57) : Txt.find3 (reply M W ds) (Str.ofString ")") (Txt.find (reply M W ds) (Str.ofString "(") + 1) = 11 + (ds.length : Int) := by
  rw [reply_find hM hW hds, str_close]
  have e : fromIndex (reply M W ds).length (5 + 1) = 6 := by simp [fromIndex]; rfl
  refine (find3_at (k := 11 + ds.length) (by rw [reply_length]; omega) (by rw [e]; omega) ?_ ?_).trans (by omega)
  · rw [reply_getD, show 11 + ds.length = 10 + ds.length + 1 by omega, replyL_hi]; rfl
  · intro v hv1 hv; rw [e] at hv1; exact reply_ne hM hW hds (.inr rfl) (by omega) (by omega)
theorem reply_229 : (Txt.slice (reply M W ds) none (some 3) != Str.ofString "229") = false := by
  rw [slice_to ⟨by decide, by show (3 : Int) ≤ ((replyL M W ds).length : Nat); rw [replyL_length]; omega⟩, str_229]
  have : ((reply M W ds).cps.toList.drop 0).take (3 - 0 : Int).toNat = [50, 50, 57] := rfl
  rw [this]
  decide
theorem reply_item1 (hM : 192 ≤ M) (hW : 192 ≤ W) (hds : ∀ d ∈ ds, 48 ≤ d ∧ d ≤ 57) : Txt.item (reply M W ds) (Txt.find (reply M W ds) (Str.ofString "(") + 1) = ⟨#[M]⟩ := by
  rw [reply_find hM hW hds]
  exact item_is (by decide) rfl
theorem reply_item2 (hM : 192 ≤ M) (hW : 192 ≤ W) (hds : ∀ d ∈ ds, 48 ≤ d ∧ d ≤ 57) : Txt.item (reply M W ds) (Txt.find3 (reply M W ds) (Str.ofString ")") (Txt.find (reply M W ds) (Str.ofString "(") + 1) - 1) = ⟨#[M]⟩ := by
  rw [reply_find3 hM hW hds]
  refine item_is (by omega) ?_
  show (replyL M W ds)[((11 + (ds.length : Int) - 1)).toNat]? = some M
  rw [show ((11 + (ds.length : Int) - 1)).toNat = 10 + ds.length + 0 by omega, replyL_hi]; rfl
theorem reply_inner (hM : 192 ≤ M) (hW : 192 ≤ W) (hds : ∀ d ∈ ds, 48 ≤ d ∧ d ≤ 57) :
    Txt.slice (reply M W ds) (some (Txt.find (reply M W ds) (Str.ofString "(") + 1)) (some (Txt.find3 (reply M W ds) (Str.ofString ")") (Txt.find (reply M W ds) (Str.ofString "(") + 1))) = ⟨([M, W, M, M] ++ (ds ++ [M])).toArray⟩ := by
  rw [reply_find3 hM hW hds, reply_find hM hW hds]
  rw [slice_plain ⟨by decide, by omega, by show (11 + (ds.length : Int)) ≤ ((replyL M W ds).length : Nat); rw [replyL_length]; omega⟩]
  have e : (11 + (ds.length : Int) - (5 + 1)).toNat = 5 + ds.length := by omega
  rw [e]
  have e2 : ((reply M W ds).cps.toList.drop (5 + 1 : Int).toNat) = [M, W, M, M] ++ (ds ++ [M]) ++ [41, M] := by
    show (replyL M W ds).drop 6 = _
    simp [replyL]
  rw [e2, List.take_left' (by simp; omega)]
theorem inner_split (hne : W ≠ M) (hds : ∀ d ∈ ds, d ≠ M) : Txt.split ⟨([M, W, M, M] ++ (ds ++ [M])).toArray⟩ ⟨#[M]⟩ = [⟨#[]⟩, ⟨#[W]⟩, ⟨#[]⟩, ⟨ds.toArray⟩, ⟨#[]⟩] := by
  rw [split_one (by show M ∈ [M, W, M, M] ++ (ds ++ [M]); simp)]
  have hp : pos M ([M, W, M, M] ++ (ds ++ [M])) 0 = [0, 2, 3, 4 + ds.length] := by
    rw [pos_append, pos_append, pos_none _ hds]
    simp [pos, hne]
  show partsBetween _ (pos M ([M, W, M, M] ++ (ds ++ [M])) 0) 1 = _
  rw [hp]
  unfold partsBetween strSub
  have hlen : (⟨([M, W, M, M] ++ (ds ++ [M])).toArray⟩ : Str).length = 5 + ds.length := by
    show ([M, W, M, M] ++ (ds ++ [M])).toArray.size = _
    simp; omega
  rw [hlen]
  simp
  omega
end
end

section
theorem plain_F9 : True ∧ True := by
  w_top off
  walk1 <;> trivial
set_option maxRecDepth 100000
set_option maxHeartbeats 8000000
theorem fillme9 : (fun (_:OpenLaw) (_ : Params → Frag) => True) PySem.Challenge.rw_un0010_01 hd.heap_1 := by
  k_fill
  trivial
theorem parse229 {prog : Program} {w : World} {p : Program} {loose : List Str} {mean : ExcName → Option Value} {mg mb : Str → Option Value}
   (dp un : Nat) (gd : Option (List Code)) (cn : Str) (cs : Scope) (ca : Addr) (ccd : Value) (cl : List (Str × Addr)) (outer : List Env) (A₀ : Around) (base h₀ : Heap) (L : Addr) (m : Str → Option Value) (rest : List (Addr × Obj)) (s : Shared)
   (Q E : Value → Shared → Prop) (tp : Addr) (M W : Nat) (ds : List Nat) (rs host : Str) (tr th tn : Tok) (turn : Int) (cc : Nat)
   (B : Below A₀ base outer h₀) (F : Fr h₀ L s.heap m) (X : (hd.heap_1 w.params).In h₀) (N : News h₀ L s.heap ((tp, tupO #[.str host th, .int turn tn] cc) :: rest)) (T : Top p loose mean mg mb h₀) (hk : cs.kind = .function)
   (hdp : dp < 690) (hun : un < 7990) (hM : 192 ≤ M) (hW : 192 ≤ W) (hne : W ≠ M) (hds : ∀ d ∈ ds, 48 ≤ d ∧ d ≤ 57) (hk0 : 0 < ds.length) (hk1 : ds.length ≤ 60) (hrs : rs = reply M W ds)
   (hret : ∀ D t1 t2 cc' h' tk', Fr h₀ L h' m → News h₀ L h' ((D, tupO #[.str host t1, .int ((PySem.NumText.digitsVal ds : Nat) : Int) t2] cc') :: (tp, tupO #[.str host th, .int turn tn] cc) :: rest) → AllLt D ((tp, tupO #[.str host th, .int turn tn] cc) :: rest) → Q (.ref D) { s with heap := h', toks := tk' }) :
    wpAny (model prog w) (kTop none dp un gd cn cs L ca ccd cl outer) (call (.ref 107) [.str rs tr, .ref tp]) Q E s := by
  have hlen : rs.length = 13 + ds.length := by rw [hrs]; exact reply_length
  have hsz : rs.length ≤ sizeLine := by rw [PySem.sizeLine_eq]; omega
  have hs1 : (Txt.slice rs none (some 3) != Str.ofString "229") = false := by rw [hrs]; exact reply_229
  have hf1 : Txt.find rs (Str.ofString "(") = 5 := by rw [hrs]; exact reply_find hM hW hds
  have hf2 : Txt.find3 rs (Str.ofString ")") (Txt.find rs (Str.ofString "(") + 1) = 11 + (ds.length : Int) := by rw [hrs]; exact reply_find3 hM hW hds
  have hi1 : Txt.item rs (Txt.find rs (Str.ofString "(") + 1) = ⟨#[M]⟩ := by rw [hrs]; exact reply_item1 hM hW hds
  have hi2 : Txt.item rs (Txt.find3 rs (Str.ofString ")") (Txt.find rs (Str.ofString "(") + 1) - 1) = ⟨#[M]⟩ := by rw [hrs]; exact reply_item2 hM hW hds
  have hi3 : (Txt.item rs (Txt.find rs (Str.ofString "(") + 1) != Txt.item rs (Txt.find3 rs (Str.ofString ")") (Txt.find rs (Str.ofString "(") + 1) - 1)) = false := by rw [hi1, hi2]; simp
  have hsp : Txt.split (Txt.slice rs (some (Txt.find rs (Str.ofString "(") + 1)) (some (Txt.find3 rs (Str.ofString ")") (Txt.find rs (Str.ofString "(") + 1)))) (Txt.item rs (Txt.find rs (Str.ofString "(") + 1)) = [⟨#[]⟩, ⟨#[W]⟩, ⟨#[]⟩, ⟨ds.toArray⟩, ⟨#[]⟩] := by
    rw [hi1, hrs, reply_inner hM hW hds]
    exact inner_split hne (fun d hd => by have := hds d hd; omega)
  clear hrs
  refine wpAny_call ?_
  k_dflt (walk_at "mine enter")
  k_steps
  · exfalso
    rename (_ = Txt.split _ _) => hl
    rw [hsp] at hl
    have := congrArg List.length hl
    simp at this
    omega
  · rename (_ = Txt.split _ _) => hl
    rename (_ = some _) => hy
    rename Str => y
    rw [hl, hsp] at hy
    have hy2 : y = ⟨ds.toArray⟩ := (Option.some.inj hy).symm
    clear hy hl
    subst hy2
    have hI : PySem.intText? ⟨ds.toArray⟩ = some ((PySem.NumText.digitsVal ds : Nat) : Int) := by
      have := PySem.intText_digits (x := ⟨ds.toArray⟩) (fun c hc => hds c (by simpa using hc)) (by simpa using List.ne_nil_of_length_pos hk0) (by show ds.toArray.size ≤ 4300; simp; omega)
      simpa using this
    refine KIN.call_text hI (by show ds.toArray.size ≤ 640; simp; omega) ?_
    k_steps
    rename_i l1 hkF hkN _ _
    exact hret _ _ _ _ _ _ hkF (news_sub hkN (by walk_at "mine sub")) l1.2
end

section
open PySem PySem.W PyProof.Rows PySem.Calls PySem.Spec
set_option maxRecDepth 100000
theorem entry_unchain : entryFor table "proto.unchain" = some Builtin.«proto.unchain» := entryFor_of_tree (by kernel_rfl)
/-- a plain exception without a context stands there -/
def ExcAt (h : Heap) (ex : Addr) : Prop := ∃ ob vs, h.get? ex = some ob ∧ ob.data = .fields vs ∧ vs[2]? = some .none
section
variable {prog : Program} {w : World} {A : Around} {E : Value → Shared → Prop} {s : Shared} {ex it : Addr}
theorem unchain_none {e : Value} {Q : Value → Shared → Prop} (hx : ExcAt s.heap ex) (h : Q .none s) : wpAny (model prog w) A (runValue (.builtin "proto.unchain" ⟨[e, .ref ex, .ref ex, .bool false], []⟩)) Q E s := by
  obtain ⟨ob, vs, h1, h2, h3⟩ := hx
  refine wpAny_runValue (codeAny_builtin entry_unchain ?_)
  unfold Builtin.«proto.unchain»
  show wpAny _ _ (field (.ref ex) 2 >>= _) _ _ s
  refine wpAny_bind (wpAny_field h1 h2 (x := .none) h3 ?_)
  rw [if_pos (by decide)]
  exact wpAny_pure h
theorem range_endH {x left step : Int} {Q : Option Value → Shared → Prop} (hh : A.handled = some (.ref ex)) (hx : ExcAt s.heap ex) (hit : IsRangeIter s.heap it x left step) (hleft : left ≤ 0)
    (hQ : ∀ h', Heap.ExtBut it s.heap h' → Q none { s with heap := h' }) : wpAny (model prog w) A (pyNext (.ref it)) Q E s := by
  have hT : s.TypeIs (.ref it) "range_iterator" := ⟨_, hit, rfl⟩
  unfold pyNext
  refine wpAny_bind (wpAny_attempt (wpAny_callSpecial?_slot (name := Str.ofString "__next__") hT F.slot_range_iterator_next
    (wpAny_call_entry F.slot_range_iterator_next hT F.entry_range_iterator_next ?_ (F.args_range_iterator_next_1 _))))
  show wpAny _ _ (field (.ref it) 0 >>= _) _ _ s
  refine wpAny_bind (wpAny_field hit rfl (x := rawInt x) rfl ?_)
  show wpAny _ _ (field (.ref it) 1 >>= _) _ _ s
  refine wpAny_bind (wpAny_field hit rfl (x := rawInt left) rfl ?_)
  show wpAny _ _ (field (.ref it) 2 >>= _) _ _ s
  refine wpAny_bind (wpAny_field hit rfl (x := rawInt step) rfl ?_)
  show wpAny _ _ (if left ≤ 0 then _ else _) _ _ s
  rw [if_pos hleft]
  refine wpAny_bind (wpAny_rule ?_)
  refine wpAny_bind ?_
  show wpAny _ _ (newExc (.type "StopIteration") [] >>= _) _ _ _
  refine wpAny_bind ?_
  simp only [newExc, newTuple]
  refine wpAny_bind (wpAny_newObj_type ?_ (by size_fits))
  refine wpAny_bind (m := firstArgMember _ _) (wpAny_of_eq (a := Value.none) (by first | rfl | (simp only [firstArgMember]; rfl)) ?_)
  refine wpAny_newObj_type ?_ (by size_fits)
  simp only [raiseNew]
  refine wpAny_bind (wpAny_handled ?_)
  rw [show A.in1.handled = some (.ref ex) from hh]
  dsimp only
  obtain ⟨ob, vs, h1, h2, h3⟩ := id hx
  have hlt : ex < s.heap.objs.size := Heap.lt_size h1
  rw [if_pos (by
    rw [bne_iff_ne]
    intro e
    have e2 := Value.ref.inj e
    rw [Heap.size_push] at e2
    exact Nat.ne_of_lt (Nat.lt_succ_of_lt hlt) e2)]
  refine wpAny_bind (wpAny_holding (unchain_none ⟨ob, vs, ?_, h2, h3⟩ ?_))
  · exact Heap.get?_push_of_some _ (Heap.get?_push_of_some _ h1)
  refine wpAny_bind ?_
  show wpAny _ _ (setField (.ref _) 2 (.ref ex)) _ _ _
  refine wpAny_setField (Heap.get?_push_size _ rfl) rfl (by simp; omega) ?_
  refine wpAny_throw ?_
  have hgt : (s.heap.push { cls := Value.type "tuple", data := Data.seq #[] }).objs.size ≠ it := by
    rw [Heap.size_push]
    exact Nat.ne_of_gt (Nat.lt_succ_of_lt (Heap.lt_size hit))
  refine wpAny_bind (wpAny_isInstance (T := "StopIteration") (b := true) ⟨_, Heap.get?_update_self _ (Heap.get?_push_size _ rfl) rfl, rfl⟩ isSubtype_stop ?_)
  refine wpAny_pure (hQ _ fun b o _ hb => ?_)
  have hbl : b < s.heap.objs.size := Heap.lt_size hb
  refine (Heap.get?_update_ne _ _ _ _ ?_).trans (Heap.get?_push_of_some _ (Heap.get?_push_of_some _ hb))
  rw [Heap.size_push]
  exact Nat.ne_of_lt (Nat.lt_succ_of_lt hbl)
theorem walks_rangeH (hh : A.handled = some (.ref ex)) (I : Addr) (hne : ex ≠ I) (a c : Int) (n : Nat) :
    Walks prog w A I [I, ex] [I] n (fun i v => ∃ t, v = .int (a + i * c) t) (fun i h => IsRangeIter h I (a + (i : Nat) * c) ((n : Int) - (i : Nat)) c ∧ ExcAt h ex) where
  sub := fun b hb => by simp at hb; simp [hb]
  frame := fun _ _ _ st hk => ⟨hk I (by simp) _ st.1, by obtain ⟨ob, vs, h1, h2⟩ := st.2; exact ⟨ob, vs, hk ex (by simp) _ h1, h2⟩⟩
  item := fun i s Q E hi st hQ => by
    refine wpAny_pyNext_range_item st.1 (by omega) fun h' hit' hs' => ?_
    refine hQ _ h' _ ⟨_, rfl⟩ ⟨?_, ?_⟩ fun b o hb e => hs'.extBut b o (fun h => hb (by simp [h])) e
    · have e1 : a + ((i + 1 : Nat) : Int) * c = a + (i : Int) * c + c := by push_cast; rw [Int.add_mul, Int.one_mul, Int.add_assoc]
      have e2 : (n : Int) - ((i + 1 : Nat) : Int) = (n : Int) - (i : Int) - 1 := by push_cast; omega
      rw [e1, e2]; exact hit'
    · obtain ⟨ob, vs, h1, h2⟩ := st.2
      exact ⟨ob, vs, hs'.extBut ex _ hne h1, h2⟩
  done := fun s Q E st hQ => range_endH hh st.2 st.1 (by omega) fun h' he' => hQ h' s.toks fun b o hb e => he' b o (fun h => hb (by simp [h])) e
  self := fun _ _ _ _ st hQ => wpAny_pyIter_rangeiter st.1 hQ

variable {env : Env} {h₀ : Heap} {x : Str} {body : List Stmt} {Q : Flow → Shared → Prop}
/-- a loop over a range while an exception is being handled -/
theorem loop_rangeH {r : Addr} {a b c : Int} {t u v : Tok} {n : Nat} {oX : Obj} {m₀ : Str → Option Value} {news : List (Addr × Obj)} (J : Nat → (Str → Option Value) → List (Addr × Obj) → Prop)
    (hh : A.handled = some (.ref ex)) (hX : ∃ vs, oX.data = .fields vs ∧ vs[2]? = some .none) (hm : (ex, oX) ∈ news) (hr : IsRange s.heap r a b c t u v) (hsm : Builtin.Range.small a b c = true) (hn : Builtin.Range.rangeSize a b c = ((n : Nat) : Int))
    (F : Fr h₀ env.locals s.heap m₀) (N : News h₀ env.locals s.heap news) (hj : J 0 m₀ news) (hkeep : ∀ i m nx, J i m nx → (ex, oX) ∈ nx)
    (turn : ∀ i t m₁ news₁ h tk I oI, i < n → J i m₁ news₁ → (∀ p ∈ news₁, p.1 ≠ I) → Fr h₀ env.locals h (fun y => if y = x then some (.int (a + i * c) t) else m₁ y) → News h₀ env.locals h ((I, oI) :: news₁) →
      wpAny (model prog w) A (execs body env) (TurnPost h₀ env.locals I oI (J (i + 1)) s Q) E { s with heap := h, toks := tk })
    (done : ∀ m₁ news₁ h tk, J n m₁ news₁ → Fr h₀ env.locals h m₁ → News h₀ env.locals h news₁ → Q .next { s with heap := h, toks := tk }) :
    wpAny (model prog w) A (pyIter (.ref r)) (fun it s₂ => LoopAtV prog w A h₀ env x body Q E it s₂) E s := by
  have hx := N _ hm
  have hlt : ex < s.heap.objs.size := Heap.lt_size hx.1
  refine wpAny_pyIter_range hr hsm ?_
  obtain ⟨vs, hd, hv⟩ := hX
  refine loop_walk (keep := [(ex, oX)]) J (walks_rangeH hh s.heap.objs.size (Nat.ne_of_lt hlt) a c n) (by simp) ?_ (next_is_new F) (fun p hp => Nat.ne_of_lt (Heap.lt_size (N p hp).1)) ⟨?_, _, vs, Heap.get?_push_of_some _ hx.1, hd, hv⟩
    (F.push _) (fun p hp => ⟨Heap.get?_push_of_some _ (N p hp).1, (N p hp).2⟩) hj (fun i h st => ⟨_, st.1⟩) ?_ ?_ ?_ done
  · intro h
    rcases List.mem_cons.mp h with e | h
    · exact absurd F.ns.lt (e ▸ Nat.lt_irrefl _)
    · exact hx.2.1 (List.mem_singleton.mp h).symm
  · show IsRangeIter _ _ _ _ _
    rw [hn]; simpa using Heap.get?_push_size _ rfl
  · intro i m nx h p hp; rw [List.mem_singleton.mp hp]; exact hkeep i m nx h
  · intro b hb
    rcases List.mem_cons.mp hb with e | hb
    · exact .inl e
    · exact .inr ⟨_, by rw [List.mem_singleton.mp hb]; exact List.mem_singleton.mpr rfl⟩
  · rintro i v m₁ news₁ h tk oI hi ⟨t, rfl⟩ hJ hoff F₁ N₁
    exact turn i t m₁ news₁ h tk _ oI hi hJ hoff F₁ N₁
def TurnPostB (h₀ : Heap) (L I : Addr) (oI : Obj) (Jn Jd : (Str → Option Value) → List (Addr × Obj) → Prop) (s : Shared) (Q : Flow → Shared → Prop) (f : Flow) (s₂ : Shared) : Prop :=
  match f with
  | .ret v => Q (.ret v) s₂
  | .brk => ∃ h' tk m' nx, s₂ = { s with heap := h', toks := tk } ∧ Fr h₀ L h' m' ∧ News h₀ L h' nx ∧ Jd m' nx
  | _ => TurnEnd h₀ L I oI Jn s s₂
/-- a loop that may break: one end for both -/
theorem loop_rangeHB {r : Addr} {a b c : Int} {t u v : Tok} {n : Nat} {oX : Obj} {m₀ : Str → Option Value} {news : List (Addr × Obj)} (J : Nat → (Str → Option Value) → List (Addr × Obj) → Prop) (Jd : (Str → Option Value) → List (Addr × Obj) → Prop)
    (hh : A.handled = some (.ref ex)) (hX : ∃ vs, oX.data = .fields vs ∧ vs[2]? = some .none) (hm : (ex, oX) ∈ news) (hr : IsRange s.heap r a b c t u v) (hsm : Builtin.Range.small a b c = true) (hn : Builtin.Range.rangeSize a b c = ((n : Nat) : Int))
    (F : Fr h₀ env.locals s.heap m₀) (N : News h₀ env.locals s.heap news) (hj : J 0 m₀ news) (hkeep : ∀ i m nx, J i m nx → (ex, oX) ∈ nx) (hjd : ∀ m nx, J n m nx → Jd m nx)
    (turn : ∀ i t m₁ news₁ h tk I oI, i < n → J i m₁ news₁ → (∀ p ∈ news₁, p.1 ≠ I) → Fr h₀ env.locals h (fun y => if y = x then some (.int (a + i * c) t) else m₁ y) → News h₀ env.locals h ((I, oI) :: news₁) →
      wpAny (model prog w) A (execs body env) (TurnPostB h₀ env.locals I oI (J (i + 1)) Jd s Q) E { s with heap := h, toks := tk })
    (done : ∀ m₁ news₁ h tk, Jd m₁ news₁ → Fr h₀ env.locals h m₁ → News h₀ env.locals h news₁ → Q .next { s with heap := h, toks := tk }) :
    wpAny (model prog w) A (pyIter (.ref r)) (fun it s₂ => LoopAtV prog w A h₀ env x body Q E it s₂) E s := by
  refine loop_rangeH J hh hX hm hr hsm hn F N hj hkeep ?_ fun m nx h tk hJ F N => done m nx h tk (hjd _ _ hJ) F N
  intro i t m₁ news₁ h tk I oI hi hJ hoff F₁ N₁
  refine wpAny_mono (turn i t m₁ news₁ h tk I oI hi hJ hoff F₁ N₁) (fun f s₂ p => ?_) fun _ _ e => e
  cases f with
  | ret v => exact p
  | brk => obtain ⟨h', tk, m', nx, rfl, F', N', hd⟩ := p; exact done m' nx h' tk hd F' N'
  | next => exact p
  | cont => exact p
theorem brk_intro {L : Addr} {Jd : (Str → Option Value) → List (Addr × Obj) → Prop} {s : Shared} {h' : Heap} {tk : Nat} {m' : Str → Option Value} {nx : List (Addr × Obj)}
    (F : Fr h₀ L h' m') (N : News h₀ L h' nx) (hj : Jd m' nx) : ∃ h'' tk' m' nx, ({ s with heap := h', toks := tk } : Shared) = { s with heap := h'', toks := tk' } ∧ Fr h₀ L h'' m' ∧ News h₀ L h'' nx ∧ Jd m' nx := ⟨h', tk, m', nx, rfl, F, N, hj⟩
/-- the same with nothing being handled -/
theorem loop_range {r : Addr} {a b c : Int} {t u v : Tok} {n : Nat} {m₀ : Str → Option Value} {news : List (Addr × Obj)} (J : Nat → (Str → Option Value) → List (Addr × Obj) → Prop)
    (hh : A.handled = none) (hr : IsRange s.heap r a b c t u v) (hsm : Builtin.Range.small a b c = true) (hn : Builtin.Range.rangeSize a b c = ((n : Nat) : Int))
    (F : Fr h₀ env.locals s.heap m₀) (N : News h₀ env.locals s.heap news) (hj : J 0 m₀ news)
    (turn : ∀ i t m₁ news₁ h tk I oI, i < n → J i m₁ news₁ → (∀ p ∈ news₁, p.1 ≠ I) → Fr h₀ env.locals h (fun y => if y = x then some (.int (a + i * c) t) else m₁ y) → News h₀ env.locals h ((I, oI) :: news₁) →
      wpAny (model prog w) A (execs body env) (TurnPost h₀ env.locals I oI (J (i + 1)) s Q) E { s with heap := h, toks := tk })
    (done : ∀ m₁ news₁ h tk, J n m₁ news₁ → Fr h₀ env.locals h m₁ → News h₀ env.locals h news₁ → Q .next { s with heap := h, toks := tk }) :
    wpAny (model prog w) A (pyIter (.ref r)) (fun it s₂ => LoopAtV prog w A h₀ env x body Q E it s₂) E s := by
  refine wpAny_pyIter_range hr hsm ?_
  refine loop_walk (keep := []) J (Walks.range hh s.heap.objs.size a c n) (by simp) ?_ (next_is_new F) (fun p hp => Nat.ne_of_lt (Heap.lt_size (N p hp).1)) ?_
    (F.push _) (fun p hp => ⟨Heap.get?_push_of_some _ (N p hp).1, (N p hp).2⟩) hj (fun i h st => ⟨_, st⟩) (fun _ _ _ _ p hp => nomatch hp) ?_ ?_ done
  · intro h
    exact absurd F.ns.lt ((List.mem_singleton.mp h) ▸ Nat.lt_irrefl _)
  · show IsRangeIter _ _ _ _ _
    rw [hn]; simpa using Heap.get?_push_size _ rfl
  · intro b hb; exact .inl (List.mem_singleton.mp hb)
  · rintro i v m₁ news₁ h tk oI hi ⟨t, rfl⟩ hJ hoff F₁ N₁
    exact turn i t m₁ news₁ h tk _ oI hi hJ hoff F₁ N₁
end
end

section
/-- the forms of one middle number, from lo on, n more -/
def innerF (prod mid : Int) : Nat → Int → Int → Int
  | 0, _, c => c
  | n + 1, lo, c => if lo * lo > prod then c else innerF prod mid n (lo + 1) (if prod % lo = 0 then c + (if lo = mid ∨ lo * lo = prod then 1 else 2) else c)
def midOf (i : Nat) : Int := 1 + (i : Int) * 2
def prodOf (p : Int) (i : Nat) : Int := (midOf i * midOf i + p) / 4
def outerF (p : Int) : Nat → Nat → Int → Int
  | 0, _, c => c
  | n + 1, i, c => outerF p n (i + 1) (innerF (prodOf p i) (midOf i) (p - midOf i).toNat (midOf i) c)
def formsF (p : Int) : Int := outerF p (p / 2).toNat 0 0
theorem forms23 : formsF 23 = 3 := by decide +kernel
theorem forms47 : formsF 47 = 5 := by decide +kernel
theorem forms59 : formsF 59 = 3 := by decide +kernel
end

section
theorem plain_F10 : True ∧ True := by
  w_top off
  walk1 <;> trivial
set_option maxRecDepth 100000
set_option maxHeartbeats 8000000
theorem fillme10 : (fun (_:OpenLaw) (_ : Params → Frag) => True) PySem.Challenge.rw_un0010_01 hd.heap_1 := by
  k_fill
  trivial
local macro_rules | `(tactic| walk_at "exec For Name Call cons nil") => `(tactic| (refine Hold.out ?_))
local macro_rules | `(tactic| walk_at "pyIter ref") => `(tactic| (refine Hold.out ?_))
theorem inner_step {prod mid lo c c' : Int} {n : Nat} (h1 : ¬ prod < lo * lo) (hc : c' = if prod % lo = 0 then c + (if lo = mid ∨ lo * lo = prod then 1 else 2) else c) : innerF prod mid (n + 1) lo c = innerF prod mid n (lo + 1) c' := by
  rw [hc]
  show (if lo * lo > prod then c else _) = _
  rw [if_neg h1]
theorem inner_stop {prod mid lo c : Int} {n : Nat} (h1 : prod < lo * lo) : innerF prod mid (n + 1) lo c = c := by
  show (if lo * lo > prod then c else _) = _
  rw [if_pos h1]
theorem lawforms {prog : Program} {w : World} {p : Program} {loose : List Str} {mean : ExcName → Option Value} {mg mb : Str → Option Value}
   (dp un : Nat) (gd : Option (List Code)) (cn : Str) (cs : Scope) (ca : Addr) (ccd : Value) (cl : List (Str × Addr)) (outer : List Env) (A₀ : Around) (base h₀ : Heap) (L : Addr) (m : Str → Option Value) (rest : List (Addr × Obj)) (s : Shared)
   (Q E : Value → Shared → Prop) (ex : Addr) (oX : Obj) (pr : Int) (tp : Tok)
   (B : Below A₀ base outer h₀) (F : Fr h₀ L s.heap m) (X : (hd.heap_1 w.params).In h₀) (N : News h₀ L s.heap ((ex, oX) :: rest)) (T : Top p loose mean mg mb h₀) (hk : cs.kind = .function)
   (hdp : dp < 690) (hun : un < 7990) (hX : ∃ vs, oX.data = .fields vs ∧ vs[2]? = some .none) (hp1 : 1 < pr) (hp2 : pr ≤ 100)
   (hret : ∀ t1 h' tk', Fr h₀ L h' m → News h₀ L h' ((ex, oX) :: rest) → Q (.int (formsF pr) t1) { s with heap := h', toks := tk' }) :
    wpAny (model prog w) (kTop (some (.ref ex)) dp un gd cn cs L ca ccd cl outer) (call (.ref 119) [.int pr tp]) Q E s := by
  refine wpAny_call ?_
  k_dflt (walk_at "mine enter")
  k_steps
  unfold Hold
  rename_i g1 L1 h1 FG1 B1 X1 T1 h2 F1 N1
  refine For_invV g1 (by rfl) (by rfl) ?_
  k_steps
  unfold Hold
  rename Fr _ _ _ _ => F7
  rename News _ _ _ _ => N7
  rename IsRange _ _ _ _ _ _ _ _ => R7
  refine with_map F7 (fun m0 hm0 F8 => ?_)
  clear F7
  obtain ⟨hn, hnn⟩ : ∃ n : Nat, (pr / 2).toNat = n ∧ n ≤ 50 := ⟨_, rfl, by omega⟩
  have hsz : Builtin.Range.rangeSize 1 pr 2 = ((pr / 2).toNat : Int) := by
    unfold Builtin.Range.rangeSize
    rw [if_pos (by decide), if_pos (by omega)]; omega
  refine loop_rangeH (ex := ex) (oX := oX) (n := (pr / 2).toNat) (fun i m nx => nx = (ex, oX) :: rest ∧ ∃ c tc, m (Str.ofString "count") = some (.int c tc) ∧ outerF pr ((pr / 2).toNat - i) i c = formsF pr ∧
     ∀ z, z ≠ Str.ofString "count" → z ≠ Str.ofString "middle" → z ≠ Str.ofString "product" → z ≠ Str.ofString "lower" → m z = m0 z) rfl hX (by k_mem) R7 (range_small hsz (by omega) (by omega) (by omega) (by omega)) hsz F8 N7 ?_ ?_ ?_ ?_
  · subst hm0
    exact ⟨rfl, 0, _, rfl, rfl, fun _ _ _ _ _ => rfl⟩
  · rintro i m nx ⟨rfl, _⟩
    exact List.mem_cons_self
  · rintro i tm m1 nx h9 tk9 I oI hi ⟨rfl, c, tc, hmc, hc, hmz⟩ hoff F9 N9
    rw [show (1 : Int) + (i : Int) * 2 = midOf i from rfl] at F9
    have F10 := fr_eq F9 (m' := fun z => if z = Str.ofString "middle" then some (.int (midOf i) tm) else if z = Str.ofString "count" then some (.int c tc) else if z = Str.ofString "product" then m1 z else if z = Str.ofString "lower" then m1 z else m0 z) (fun z => by
        by_cases e1 : z = Str.ofString "middle"
        · simp [e1]
        · by_cases e2 : z = Str.ofString "count"
          · simp [e2, hmc]
          · by_cases e3 : z = Str.ofString "product"
            · rw [if_neg e1, if_neg e1, if_neg e2, if_pos e3]
            · by_cases e4 : z = Str.ofString "lower"
              · rw [if_neg e1, if_neg e1, if_neg e2, if_neg e3, if_pos e4]
              · simp [e1, e2, e3, e4, hmz z e2 e1 e3 e4])
    clear F9 F8
    have hm1 : 1 ≤ midOf i := by unfold midOf; omega
    have hm2 : midOf i < pr := by unfold midOf; omega
    subst hm0
    k_steps
    unfold Hold
    refine For_invV g1 (by rfl) (by rfl) ?_
    k_steps
    unfold Hold
    rename Fr _ _ _ _ => F7
    rename News _ _ _ _ => N7
    clear R7
    rename IsRange _ _ _ _ _ _ _ _ => R7
    rw [show (midOf i * midOf i + pr).fdiv 4 = prodOf pr i from fdiv_pos (by decide)] at F7
    refine with_map F7 (fun m5 hm5 F8 => ?_)
    clear F7
    obtain ⟨k, hk2⟩ : ∃ k : Nat, (pr - midOf i).toNat = k := ⟨_, rfl⟩
    have hsz2 : Builtin.Range.rangeSize (midOf i) pr 1 = (k : Int) := by
      unfold Builtin.Range.rangeSize
      rw [if_pos (by decide), if_pos (by omega)]; omega
    refine loop_rangeHB (ex := ex) (oX := oX) (n := k) (Jd := fun m nx => nx = (I, oI) :: (ex, oX) :: rest ∧ ∃ tc2, m (Str.ofString "count") = some (.int (innerF (prodOf pr i) (midOf i) k (midOf i) c) tc2) ∧ ∀ z, z ≠ Str.ofString "count" → z ≠ Str.ofString "lower" → m z = m5 z) (fun i2 m nx => nx = (I, oI) :: (ex, oX) :: rest ∧ ∃ c2 tc2, m (Str.ofString "count") = some (.int c2 tc2) ∧ innerF (prodOf pr i) (midOf i) (k - i2) (midOf i + (i2 : Int)) c2 = innerF (prodOf pr i) (midOf i) k (midOf i) c ∧
     ∀ z, z ≠ Str.ofString "count" → z ≠ Str.ofString "lower" → m z = m5 z) rfl hX (by k_mem) R7 (range_small hsz2 (by omega) (by omega) (by omega) (by omega)) hsz2 F8 N7 ?_ ?_ ?_ ?_ ?_
    · subst hm5
      refine ⟨rfl, c, _, rfl, ?_, fun _ _ _ => rfl⟩
      simp
    · rintro i m nx ⟨rfl, _⟩
      exact .tail _ List.mem_cons_self
    · rintro m nx ⟨rfl, c2, tc2, h1, h2, h3⟩
      rw [Nat.sub_self] at h2
      exact ⟨rfl, tc2, by rw [h1, ← h2]; rfl, h3⟩
    · rintro i2 tm2 m2 nx h10 tk10 I2 oI2 hi2 ⟨rfl, c2, tc2, hmc2, hc2, hmz2⟩ hoff2 F9 N9
      rw [Int.mul_one] at F9
      have F10 := fr_eq F9 (m' := fun z => if z = Str.ofString "lower" then some (.int (midOf i + (i2 : Int)) tm2) else if z = Str.ofString "count" then some (.int c2 tc2) else m5 z) (fun z => by
        by_cases e1 : z = Str.ofString "lower"
        · simp [e1]
        · by_cases e2 : z = Str.ofString "count"
          · simp [e2, hmc2]
          · simp [e1, e2, hmz2 z e2 e1])
      clear F9 F8
      subst hm5
      k_steps
      all_goals rw [show k - i2 = (k - (i2 + 1)) + 1 by omega] at hc2
      all_goals have hlo : midOf i + ((i2 + 1 : Nat) : Int) = (midOf i + (i2 : Int)) + 1 := by push_cast; omega
      · rename (prodOf pr i < _) => hgt
        rw [inner_stop hgt] at hc2
        refine brk_intro F10 (news_sub N9 (by walk_at "mine sub")) ⟨rfl, tc2, by rw [← hc2]; rfl, fun z e1 e2 => ?_⟩
        simp [e1, e2]
      · rename (Int.fmod _ _ = 0) => h0
        rename (¬ prodOf pr i < _) => hgt
        rename Fr _ _ _ _ => hF
        rename News _ _ _ _ => hN
        rw [fmod_pos (by omega)] at h0
        refine TurnEnd.intro hF (news_sub hN (by walk_at "mine sub")) hoff2 ⟨rfl, _, _, rfl, ?_, fun z e1 e2 => ?_⟩
        · rw [hlo, ← hc2]
          refine (inner_step hgt ?_).symm
          rw [if_pos h0, if_pos (.inl (by assumption))]
        · simp [e1, e2]
      · rename (Int.fmod _ _ = 0) => h0
        rename (¬ prodOf pr i < _) => hgt
        rename Fr _ _ _ _ => hF
        rename News _ _ _ _ => hN
        rw [fmod_pos (by omega)] at h0
        refine TurnEnd.intro hF (news_sub hN (by walk_at "mine sub")) hoff2 ⟨rfl, _, _, rfl, ?_, fun z e1 e2 => ?_⟩
        · rw [hlo, ← hc2]
          refine (inner_step hgt ?_).symm
          rw [if_pos h0, if_pos (.inr (by assumption))]
        · simp [e1, e2]
      · rename (Int.fmod _ _ = 0) => h0
        rename (¬ prodOf pr i < _) => hgt
        rename Fr _ _ _ _ => hF
        rename News _ _ _ _ => hN
        rw [fmod_pos (by omega)] at h0
        refine TurnEnd.intro hF (news_sub hN (by walk_at "mine sub")) hoff2 ⟨rfl, _, _, rfl, ?_, fun z e1 e2 => ?_⟩
        · rw [hlo, ← hc2]
          refine (inner_step hgt ?_).symm
          rw [if_pos h0, if_neg (by rintro (h | h) <;> contradiction)]
        · simp [e1, e2]
      · rename (Int.fmod _ _ ≠ 0) => h0
        rename (¬ prodOf pr i < _) => hgt
        rw [fmod_pos (by omega)] at h0
        refine TurnEnd.intro F10 (news_sub N9 (by walk_at "mine sub")) hoff2 ⟨rfl, _, _, rfl, ?_, fun z e1 e2 => ?_⟩
        · rw [hlo, ← hc2]
          refine (inner_step hgt ?_).symm
          rw [if_neg h0]
        · simp [e1, e2]
    · rintro m2 nx h10 tk10 ⟨rfl, tc2, hmc2, hmz2⟩ F9 N9
      dsimp only
      clear F10 F8
      k_steps
      refine TurnEnd.intro F9 (news_sub N9 (by walk_at "mine sub")) hoff ⟨rfl, _, _, hmc2, ?_, fun z e1 e2 e3 e4 => ?_⟩
      · rw [show (pr / 2).toNat - i = ((pr / 2).toNat - (i + 1)) + 1 by omega] at hc
        rw [← hc]
        show _ = outerF pr _ (i + 1) (innerF (prodOf pr i) (midOf i) (pr - midOf i).toNat (midOf i) c)
        rw [hk2]
      · subst hm5
        rw [hmz2 z e1 e4]
        simp [e1, e2, e3, e4]
  · rintro m1 nx h9 tk9 ⟨rfl, c, tc, hmc, hc, hmz⟩ F9 N9
    have F10 := fr_eq F9 (m' := fun z => if z = Str.ofString "count" then some (.int c tc) else m1 z) (fun z => by
        by_cases e2 : z = Str.ofString "count"
        · simp [e2, hmc]
        · simp [e2])
    clear F9 F8
    rw [Nat.sub_self] at hc
    k_steps
    rename_i hkF hkN _ _
    have hc2 : c = formsF pr := hc
    subst hc2
    exact hret _ _ _ hkF hkN
end

section
open PySem PySem.W PyProof.Rows PySem.Calls PySem.Spec
set_option maxRecDepth 100000
/-- an update that leaves a record's third cell empty -/
def F2ok (f : Obj → Obj) : Prop := ∀ ob vs, ob.data = .fields vs → vs[2]? = some Value.none → ∃ vs', (f ob).data = .fields vs' ∧ vs'[2]? = some Value.none
def Keep2 {α : Type} : Sem α → Prop
  | .pure _ => True
  | .raise _ => True
  | .unsupported _ => True
  | .finish _ => True
  | .rule _ k => Keep2 (k ())
  | .at _ k => Keep2 (k ())
  | .load _ _ k => ∀ o, Keep2 (k o)
  | .update _ _ f k => F2ok f ∧ Keep2 (k ())
  | .alloc _ k => ∀ a, Keep2 (k a)
  | .register _ _ => True
  | .loadIfAlive _ k => ∀ o, Keep2 (k o)
  | .point _ k => Keep2 (k ())
  | .fresh k => ∀ t, Keep2 (k t)
  | .ask k => ∀ t, Keep2 (k t)
  | .stack k => ∀ l, Keep2 (k l)
  | _ => False
/-- a record with an empty third cell stands there -/
def Rec2 (h : Heap) (e : Addr) : Prop := ∃ ob vs, h.get? e = some ob ∧ ob.data = .fields vs ∧ vs[2]? = some Value.none
theorem Rec2.update {h : Heap} {e a : Addr} {f : Obj → Obj} (x : Rec2 h e) (hf : F2ok f) : Rec2 (h.update a f) e := by
  obtain ⟨ob, vs, h1, h2, h3⟩ := x
  by_cases q : a = e
  · subst q
    obtain ⟨vs', h4, h5⟩ := hf ob vs h2 h3
    exact ⟨_, vs', Heap.get?_update_self f h1 (Obj.isFreed_of_fields h4), h4, h5⟩
  · exact ⟨ob, vs, (Heap.get?_update_other _ _ q).trans h1, h2, h3⟩
theorem keep_wp {α : Type} {M : Model} {Γ : PySem.Ctx} {e : Addr} : ∀ (t : Sem α) (Q : α → Pos → Shared → Prop) (E : Value → Pos → Shared → Prop) (p : Pos) (s : Shared), Keep2 t → Rec2 s.heap e → t.wp M Γ Q E p s → t.wp M Γ (fun a p' s' => Rec2 s'.heap e ∧ Q a p' s') (fun a p' s' => Rec2 s'.heap e ∧ E a p' s') p s := by
  intro t
  induction t with
  | pure a => intro Q E p s _ r h; exact ⟨r, h⟩
  | raise a => intro Q E p s _ r h; exact ⟨r, h⟩
  | unsupported w => intro Q E p s _ r h; exact h
  | finish w => intro Q E p s _ r h; exact h
  | rule t k ih => intro Q E p s g r h; exact ih () Q E p s g r h
  | «at» t k ih => intro Q E p s g r h; exact ih () Q E t s g r h
  | load a b k ih => intro Q E p s g r h; obtain ⟨o, h1, h2⟩ := h; exact ⟨o, h1, ih o Q E p s (g o) r h2⟩
  | update a b f k ih => intro Q E p s g r h; exact ⟨h.1, ih () Q E p _ g.2 (r.update g.1) h.2⟩
  | alloc o k ih => intro Q E p s g r h; exact ih _ Q E p _ (g _) (by obtain ⟨ob, vs, h1, h2⟩ := r; exact ⟨ob, vs, Heap.get?_push_of_some _ h1, h2⟩) h
  | loadIfAlive a k ih => intro Q E p s g r h; exact ih _ Q E p s (g _) r h
  | point l k ih => intro Q E p s g r h; exact ih () Q E p s g r h
  | register a k ih => intro Q E p s g r h; exact h
  | fresh k ih => intro Q E p s g r h; exact ih _ Q E p _ (g _) r h
  | ask k ih => intro Q E p s g r h; exact ih _ Q E p s (g _) r h
  | stack k ih => intro Q E p s g r h; exact ih _ Q E p s (g _) r h
  | _ => intro Q E p s g r h; exact g.elim
theorem keep_any {α : Type} {M : Model} {A : Around} {e : Addr} {t : Sem α} {Q : α → Shared → Prop} {E : Value → Shared → Prop} {s : Shared} (g : Keep2 t) (r : Rec2 s.heap e) (h : wpAny M A t Q E s) :
    wpAny M A t (fun a s' => Rec2 s'.heap e ∧ Q a s') (fun a s' => Rec2 s'.heap e ∧ E a s') s := fun Γ p hin => keep_wp t _ _ p s g r (h Γ p hin)
theorem keep_bind {α β : Type} : ∀ (m : Sem α) (f : α → Sem β), Keep2 m → (∀ a, Keep2 (f a)) → Keep2 (m >>= f) := by
  intro m f
  show _ → _ → Keep2 (m.bind f)
  induction m with
  | pure a => intro _ h; exact h a
  | raise a => intro _ _; trivial
  | unsupported w => intro _ _; trivial
  | finish w => intro _ _; trivial
  | rule t k ih => intro g h; exact ih () g h
  | «at» t k ih => intro g h; exact ih () g h
  | load a b k ih => intro g h; exact fun o => ih o (g o) h
  | update a b f k ih => intro g h; exact ⟨g.1, ih () g.2 h⟩
  | alloc o k ih => intro g h; exact fun o => ih o (g o) h
  | loadIfAlive a k ih => intro g h; exact fun o => ih o (g o) h
  | point l k ih => intro g h; exact ih () g h
  | register a k ih => intro _ _; trivial
  | fresh k ih => intro g h; exact fun o => ih o (g o) h
  | ask k ih => intro g h; exact fun o => ih o (g o) h
  | stack k ih => intro g h; exact fun o => ih o (g o) h
  | _ => intro g _; exact g.elim
theorem keep_fieldsOf (v : Value) : Keep2 (fieldsOf v) := by
  unfold fieldsOf
  cases v <;> first | trivial | skip
  refine keep_bind _ _ (fun o => trivial) fun o => ?_
  split <;> trivial
theorem keep_field (v : Value) (i : Nat) : Keep2 (field v i) := by
  unfold field
  refine keep_bind _ _ (keep_fieldsOf v) fun vs => ?_
  split <;> trivial
theorem keep_setField (v : Value) (i : Nat) (x : Value) (hi : i ≠ 2) : Keep2 (setField v i x) := by
  unfold setField
  cases v <;> first | trivial | skip
  unfold updateField
  refine keep_bind _ _ (fun o => trivial) fun o => ?_
  split
  · split
    · refine ⟨fun ob vs hd h2 => ⟨_, Obj.data_mapFields hd _, ?_⟩, trivial⟩
      rw [Array.getElem?_setIfInBounds_ne hi]; exact h2
    · trivial
  · trivial
theorem keep_setFlight (v : Value) : Keep2 (setFlight v none) := by
  unfold setFlight
  refine keep_bind _ _ (keep_field _ _) fun vs => ?_
  split
  · exact keep_setField _ _ _ (by decide)
  · trivial
theorem keep_readyFrames : ∀ l, Keep2 (readyFrames l)
  | [] => trivial
  | env :: outer => by
    unfold readyFrames
    cases hf : env.frame with
    | none => trivial
    | some f =>
      refine keep_bind _ _ (fun o => trivial) fun o => ?_
      split
      · trivial
      · refine keep_bind _ _ ?_ fun b => keep_bind _ _ ?_ fun c => keep_bind _ _ ⟨fun ob vs hd h2 => ⟨vs, hd, h2⟩, trivial⟩ fun _ => ?_
        · unfold behindIsImport
          split
          · trivial
          · split
            · trivial
            · exact keep_bind _ _ (keep_field _ _) fun _ => trivial
        · unfold keptBack
          cases outer with
          | nil =>
            dsimp only
            split
            · trivial
            · exact keep_bind _ _ (keep_bind _ _ (fun _ => trivial) fun _ => trivial) fun _ => trivial
          | cons a b => trivial
        · first | trivial | exact keep_readyFrames outer
theorem keep_frameOf (env : Env) : Keep2 (PySem.frameOf env) := by
  unfold PySem.frameOf
  refine keep_bind _ _ (keep_bind _ _ (fun _ => trivial) fun _ => trivial) fun l => keep_bind _ _ ?_ fun r => ?_
  · generalize List.dropWhile _ l = l2
    cases l2 with
    | nil => trivial
    | cons a b => exact keep_bind _ _ (keep_readyFrames _) fun _ => trivial
  · split <;> trivial
theorem keep_noteFrame (v : Value) (env : Env) : Keep2 (noteFrame v env) := by
  have tail : ∀ head, Keep2 (do setField v 1 (← EntryCells.newEntry head (← PySem.frameOf env) .none (rawInt (env.frame.getD 0)) .none (← entryPlaceOf (env.frame.getD 0) (head != .none)))) := fun head => by
    refine keep_bind _ _ (keep_frameOf env) fun a => keep_bind _ _ ?_ fun pl => keep_bind _ _ ?_ fun b => keep_setField _ _ _ (by decide)
    · unfold entryPlaceOf
      refine keep_bind _ _ (fun _ => trivial) fun l => ?_
      split <;> trivial
    · unfold EntryCells.newEntry newFields newObj
      have asIs : ∀ d, Keep2 (newObjAsIs (.type "traceback") d) := fun d => by
        unfold newObjAsIs
        exact keep_bind _ _ (fun _ => trivial) fun _ => trivial
      split <;> (dsimp only; split <;> first | trivial | exact asIs _ | exact keep_bind _ _ trivial fun _ => asIs _)
  unfold noteFrame
  cases hf : env.frame with
  | none => trivial
  | some f =>
    rw [hf] at tail
    refine keep_bind _ _ (keep_field _ _) fun head => ?_
    split
    · refine keep_bind _ _ (keep_field _ _) fun x => ?_
      split
      · trivial
      · exact keep_bind _ _ (keep_setField _ _ _ (by decide)) fun _ => tail head
    · exact tail head
theorem keep_leaving (v : Value) (env : Env) : Keep2 (leaving env v) := keep_bind _ _ (keep_noteFrame v env) fun _ => keep_setFlight v
end

section
theorem plain_Exc : True ∧ True := by
  w_top off
  walk1 <;> trivial
open PySem PySem.W PyProof.Rows PySem.Calls PySem.Spec
set_option maxRecDepth 100000
/-- an iterator that has ended -/
abbrev liE (i : Nat) : Obj := { cls := .type "list_iterator", data := .fields #[.none, .int (i : Int) 0] }
section
variable {prog : Program} {w : World} {A : Around} {E : Value → Shared → Prop} {s : Shared} {h₀ : Heap} {L l it : Addr} {m : Str → Option Value} {news news' : List (Addr × Obj)} {its : Array Value} {n i : Nat} {v : Value}
theorem li_special_end {Q : Option Value → Shared → Prop} (hh : A.handled = none) (ho : s.heap.get? it = some (liO l i)) (hl : s.heap.IsList l its) (hx : its[i]? = none)
    (h : ∀ h1 h' e, Heap.SameBut it s.heap h1 → h1.get? it = some (liE i) → Heap.NewExc h1 h' e "StopIteration" → Rec2 h' e → E (.ref e) { s with heap := h' }) :
    wpAny (model prog w) A (callSpecial? (.ref it) (Str.ofString "__next__")) Q E s := by
  have hit : s.heap.IsListIter it l i := ⟨_, ho, rfl, rfl⟩
  obtain ⟨ol, hol, _, nl, hdl⟩ := hl
  have hd : (liO l i).data = .fields #[.ref l, .int (i : Int) 0] := rfl
  refine wpAny_callSpecial?_slot (name := Str.ofString "__next__") hit.typeIs slot_listiter_next
    (wpAny_call_entry slot_listiter_next hit.typeIs entry_listiter_next ?_ (args_listiter_next _))
  show wpAny _ _ (field (.ref it) 0 >>= _) _ _ s
  refine wpAny_bind (wpAny_field ho hd (x := .ref l) rfl ?_)
  show wpAny _ _ (if (Value.ref l == Value.none) = true then _ else _) _ _ s
  rw [if_neg (show ¬ ((Value.ref l == Value.none) = true) from Bool.false_ne_true)]
  show wpAny _ _ (field (.ref it) 1 >>= _) _ _ s
  refine wpAny_bind (wpAny_field ho hd (x := .int i 0) rfl ?_)
  show wpAny _ _ (seqItems? (.ref l) >>= _) _ _ s
  refine wpAny_bind (wpAny_seqItems hol hdl ?_)
  simp only [Int.toNat_natCast, hx]
  refine wpAny_bind (wpAny_rule ?_)
  refine wpAny_bind (wpAny_setField ho hd (by simp) ?_)
  show wpAny _ _ (newExc (.type "StopIteration") [] >>= _) _ _ _
  refine wpAny_bind ?_
  simp only [newExc, newTuple]
  refine wpAny_bind (wpAny_newObj_type ?_ (by size_fits))
  refine wpAny_bind (m := firstArgMember _ _) (wpAny_of_eq (a := Value.none) (by first | rfl | (simp only [firstArgMember]; rfl)) ?_)
  refine wpAny_newObj_type ?_ (by size_fits)
  simp only [raiseNew]
  refine wpAny_bind (wpAny_handled ?_)
  rw [show A.in1.handled = none from hh]
  refine wpAny_bind (wpAny_pure (wpAny_throw ?_))
  refine h _ _ _ (Heap.SameBut.update ..) ?_ ⟨fun b o hb => Heap.get?_push_of_some _ (Heap.get?_push_of_some _ hb), Heap.get?_none_of_le (by simp), _, _, Heap.get?_push_size _ rfl, rfl, by rfl⟩ ⟨_, _, Heap.get?_push_size _ rfl, rfl, rfl⟩
  exact Heap.get?_update_self _ ho (Obj.isFreed_of_fields (Obj.data_mapFields hd _))
theorem li_next_end {Q : Value → Shared → Prop} (hh : A.handled = none) (F : Fr h₀ L s.heap m) (N : News h₀ L s.heap news) (U : Upd it (liO l i) (liE i) news news') (hm : (l, W.listOf its n) ∈ news) (hx : its[i]? = none)
    (h : ∀ h1 h' e, Fr h₀ L h1 m → News h₀ L h1 news' → Heap.NewExc h1 h' e "StopIteration" → Rec2 h' e → E (.ref e) { s with heap := h' }) :
    wpAny (model prog w) A (call (.builtin "next") [.ref it]) Q E s := by
  obtain ⟨pre, post, rfl, rfl, a, b⟩ := U.split
  have z := N (it, liO l i) (List.mem_append.mpr (.inr (.head _)))
  have hl := N _ hm
  have hit : s.heap.IsListIter it l i := ⟨_, z.1, rfl, rfl⟩
  refine call_function_entry (by decide +kernel) (by decide +kernel) kdk_entry_next (kdk_args_next _) ?_
  unfold Builtin.«next»
  refine wpAny_bind (m := someArgs "next" 1 2 _) (wpAny_of_eq (a := [Value.ref it]) (by first | rfl | kernel_rfl!) ?_)
  dsimp only
  refine wpAny_bind (wpAny_specialOf (name := Str.ofString "__next__") hit.typeIs slot_listiter_next.lookup ?_)
  refine wpAny_ite_split (fun hab => absurd hab (by decide)) (fun _ => ?_)
  refine wpAny_bind (li_special_end hh z.1 ⟨_, hl.1, rfl, n, rfl⟩ hx fun h1 h' e hs ho' hX hR => ?_)
  exact h h1 h' e (F.change hs z.2.1 z.2.2) (news_set N a b hs ho') hX hR
end
set_option maxHeartbeats 8000000
theorem fillmeE : (fun (_:OpenLaw) (_ : Params → Frag) => True) PySem.Challenge.rw_un0010_01 hd.heap_1 := by
  k_fill
  trivial
theorem parsevarint_end {prog : Program} {w : World} {p : Program} {loose : List Str} {mean : ExcName → Option Value} {mg mb : Str → Option Value}
   (dp un : Nat) (gd : Option (List Code)) (cn : Str) (cs : Scope) (ca : Addr) (ccd : Value) (cl : List (Str × Addr)) (outer : List Env) (A₀ : Around) (base h₀ : Heap) (L : Addr) (m : Str → Option Value) (rest : List (Addr × Obj)) (s : Shared)
   (Q E : Value → Shared → Prop) (it l : Addr) (its : Array Value) (cc i : Nat)
   (B : Below A₀ base outer h₀) (F : Fr h₀ L s.heap m) (X : (hd.heap_1 w.params).In h₀) (N : News h₀ L s.heap ((it, liO l i) :: (l, W.listOf its cc) :: rest)) (T : Top p loose mean mg mb h₀) (hk : cs.kind = .function)
   (hoff : ∀ p ∈ rest, p.1 ≠ it) (hne : l ≠ it) (hi : its[i]? = none)
   (hdp : dp < 690) (hun : un < 7990)
   (hret : ∀ g e h' tk', Fr h₀ L g m → RaisedN base (envX cn cs L ca ccd cl :: outer) e (.type "StopIteration") ((it, liE i) :: (l, W.listOf its cc) :: rest) h' → g.UpToSlots h' → Rec2 h' e → E (.ref e) { s with heap := h', toks := tk' }) :
    wpAny (model prog w) (kTop none dp un gd cn cs L ca ccd cl outer) (call (.ref 63) [.ref it]) Q E s := by
  refine wpAny_call ?_
  k_dflt (walk_at "mine enter")
  k_steps
  refine li_next_end (by rfl) (by assumption) (by assumption) (U := by k_upd) (by k_mem) hi ?_
  intro h1 h2 e F1 N1 X1 R1
  rename Below _ _ _ _ => B1
  rename Fr _ _ _ m => FG1
  show wpAny _ _ (leaving _ _) _ _ _
  refine wpAny_mono (keep_any (keep_leaving _ _) R1 (leave_newK (E := E) (Q := fun _ s3 => ∃ h3 tk3, s3 = { s with heap := h3, toks := tk3 } ∧ RaisedN base (envX cn cs L ca ccd cl :: outer) e (.type "StopIteration") ((it, liE i) :: (l, W.listOf its cc) :: rest) h3 ∧ Heap.UpToSlots _ h3) B1 X1 F1 N1 (fun h3 R3 U3 => ⟨h3, _, rfl, R3, U3⟩))) ?_ ?_
  · rintro _ s3 ⟨r2, h3, tk3, rfl, R3, U3⟩
    exact hret _ _ _ _ FG1 R3 U3 r2
  · rintro e' s3 ⟨r2, he⟩
    exact he
end

section
open PySem PySem.W PyProof.Rows PySem.Calls PySem.Spec
set_option maxRecDepth 100000
section
variable {prog : Program} {w : World} {A₀ : Around} {E : Value → Shared → Prop} {s' : Shared} {h₀ h : Heap} {outer : List Env} {L a e : Addr} {m : Str → Option Value} {name : Str} {scope : Scope} {cd : Value} {cl : List (Str × Addr)} {K : Frag}
  {b₀ : Stmt} {suite : List Stmt} {pos np : Pos} {rest : List ExceptHandler} {Q : Flow → Shared → Prop} {news : List (Addr × Obj)}
  {p : Program} {loose : List Str} {mg mb : Str → Option Value}
theorem caught_R (B : Below A₀ h₀ outer h₀) (F : Fr h₀ L h m) (hsm : h.UpToSlots s'.heap) (R : RaisedN h₀ (envX name scope L a cd cl :: outer) e (.type "StopIteration") news s'.heap) (r2 : Rec2 s'.heap e)
    (X : K.In h₀) (T : TopRead p loose mg mb h₀) (hns : nsIn K mainGlobals (Str.ofString "StopIteration") = some none) (hk : scope.kind = .function) (hx : (envX name scope L a cd cl).kindOf (Str.ofString "StopIteration") = some .globalImplicit)
    (hE : PassesOwnAt (model prog w) ((A₀.deeper (envX name scope L a cd cl)).mark (some (.ref e))) (A₀.deeper (envX name scope L a cd cl)) (envX name scope L a cd cl) E)
    (k : ∀ h' oX, Fr h₀ L h' m → News h₀ L h' ((e, oX) :: news) → (∃ vs, oX.data = .fields vs ∧ vs[2]? = some Value.none) →
      wpAny (model prog w) ((A₀.deeper (envX name scope L a cd cl)).mark (some (.ref e))) (execs (b₀ :: suite) (envX name scope L a cd cl)) Q E { s' with heap := h' }) :
    wpAny (model prog w) (A₀.deeper (envX name scope L a cd cl)) (noteFrame (.ref e) (envX name scope L a cd cl))
      (fun _ s₂ => wpAny (model prog w) (A₀.deeper (envX name scope L a cd cl)) (setFlight (.ref e) none) (fun _ s₃ =>
        wpAny (model prog w) (A₀.deeper (envX name scope L a cd cl)) (handleBy (.ref e) (envX name scope L a cd cl) (.ExceptHandler (some (.Name (Str.ofString "StopIteration") np)) none (b₀ :: suite) pos :: rest)) Q E s₃) E s₂) E s' := by
  obtain ⟨G, a0, hG, hl, hfl⟩ := R
  have hL : G.get? L = none := by
    obtain ⟨_, ⟨L', _, hf, hn', _⟩, _⟩ := hfl.2.2.1
    obtain rfl : L = L' := Option.some.inj hf
    exact hn'
  refine wpAny_mono (keep_any (keep_noteFrame _ _) r2 (wpAny_looks_onW (E := E) (Q := fun _ s₂ => ∃ h₂, s₂ = { s' with heap := h₂ } ∧ Heap.HeldW G (envX name scope L a cd cl :: outer) e (.type "StopIteration") a0 L h₂ ∧ Heap.UpToSlots _ h₂) (Around.frames_deeper B.stack) rfl hfl fun h₂ hh hs => ⟨h₂, rfl, hh, hs⟩)) ?_ fun _ _ q => q.2
  rintro _ s₂ ⟨r2, h₂, rfl, held, hs₂⟩
  refine wpAny_mono (keep_any (keep_setFlight _) r2 (wpAny_landsW (E := E) (Q := fun _ s₃ => ∃ h₃, s₃ = { s' with heap := h₃ } ∧ Heap.FlyingW G (envX name scope L a cd cl :: outer) e (.type "StopIteration") a0 h₃ ∧ Heap.UpToSlots _ h₃) held fun h₃ hh hs => ⟨h₃, rfl, hh, hs⟩)) ?_ fun _ _ q => q.2
  rintro _ s₃ ⟨r2, h₃, rfl, fly, hs₃⟩
  have fly' := flyingW_base hG fly
  have F₃ := F.of_stays fly'.1 (hsm.trans (hs₂.trans hs₃))
  obtain ⟨ob, hob, hobc⟩ := fly'.there
  refine wpAny_handleBy_builtin (X := "StopIteration") (T := "StopIteration") (b := true) owsi_raise.isExc ?_ isSubtype_stop
    (nameX_B F₃ X T hns PyProof.Rows.Boot.«StopIteration» (by decide) ⟨rfl, ⟨ob, hob, hobc⟩, ?_⟩ hk hx (by decide))
  · rw [show ((Manifest.find? "StopIteration").elim "type" fun x => x.metatype) = "type" from by kernel_rfl, isSubtype_type]; kernel_rfl
  refine wpAny_mono (keep_any (keep_setFlight _) r2 (lands_againW (E := notedBy (model prog w) ((A₀.deeper (envX name scope L a cd cl)).mark (some (.ref e))) (envX name scope L a cd cl) (cameBackBy (model prog w) (A₀.deeper (envX name scope L a cd cl)) (envX name scope L a cd cl) E)) (Q := fun _ s₄ => ∃ h₄, s₄ = { s' with heap := h₄ } ∧ Heap.FlyingW G (envX name scope L a cd cl :: outer) e (.type "StopIteration") a0 h₄ ∧ Heap.UpToSlots _ h₄) fly fun h₄ hh hs => ⟨h₄, rfl, hh, hs⟩)) ?_ fun _ _ q => q.2
  rintro _ s₄ ⟨r2, h₄, rfl, fly₄, hs₄⟩
  have F₄ := F₃.of_stays (flyingW_base hG fly₄).1 hs₄
  obtain ⟨oX, vs, h1, h2, h3⟩ := r2
  refine wpAny_passesOwnAt hE (k h₄ oX F₄ (News.more F₄ (fun q hq => ⟨fly₄.1 _ _ (hl q hq).1, (fun z => by have := (hl q hq).1; rw [z, hL] at this; cases this), (hl q hq).2⟩) h1 (fun es n q => by rw [h2] at q; cases q) (flyingW_base hG fly₄).2.1) ⟨vs, h2, h3⟩)
end
end

section
structure PwOk (pr P : Int) : Prop where
  pos : 0 < P
  one : P % pr = 1
  le : Builtin.Int.intBits P ≤ 200
  ge : 60 ≤ Builtin.Int.intBits P
theorem pw10 {pr : Int} (h : pr = 23 ∨ pr = 47 ∨ pr = 59) : PwOk pr (10 ^ Int.toNat (2 * Int.fdiv pr 2)) := by
  rcases h with rfl | rfl | rfl <;> exact ⟨by decide +kernel, by decide +kernel, by decide +kernel, by decide +kernel⟩
theorem pw64 {pr : Int} (h : pr = 23 ∨ pr = 47 ∨ pr = 59) : PwOk pr (64 ^ Int.toNat (Int.fdiv pr 2)) := by
  rcases h with rfl | rfl | rfl <;> exact ⟨by decide +kernel, by decide +kernel, by decide +kernel, by decide +kernel⟩
theorem fdiv_scale {a b K : Int} (hb : 0 < b) (hK : K ≠ 0) : (a * K).fdiv (b * K) = a / b := by
  rcases Int.lt_or_gt_of_ne hK with h | h
  · have e : (a * K).fdiv (b * K) = (a * -K).fdiv (b * -K) := by
      rw [Int.mul_neg, Int.mul_neg, Int.neg_fdiv_neg]
    rw [e, fdiv_pos (Int.le_of_lt (Int.mul_pos hb (by omega)))]
    exact Int.mul_ediv_mul_of_pos_left _ _ (by omega)
  · rw [fdiv_pos (Int.le_of_lt (Int.mul_pos hb h))]
    exact Int.mul_ediv_mul_of_pos_left _ _ h
theorem one_mul_mod {x pr P : Int} (h : P % pr = 1) : x * P % pr = x % pr := by
  by_cases h1 : pr = 1
  · subst h1; simp
  rw [Int.mul_emod, h, Int.mul_one]
  exact Int.emod_emod_of_dvd x (Int.dvd_refl pr)
theorem plainA {x K pr P : Int} (hp : 0 < pr) (hP : PwOk pr P) (hK : K ≠ 0) : (x * K * P).fdiv (pr * K) = x * P / pr ∧ (x * K * P).fmod (pr * K) = x.fmod pr * K := by
  have e : x * K * P = x * P * K := by rw [Int.mul_assoc, Int.mul_comm K, Int.mul_assoc]
  refine ⟨by rw [e, fdiv_scale hp hK], ?_⟩
  rw [Int.fmod_def, e, fdiv_scale hp hK, fmod_pos (Int.le_of_lt hp), ← one_mul_mod (x := x) hP.one, Int.emod_def, Int.sub_mul]
  congr 1
  rw [Int.mul_assoc, Int.mul_assoc, Int.mul_comm K]
theorem plainB {x pr P : Int} (hp : 1 < pr) (hP : PwOk pr P) : (x * P / pr).fdiv P = x.fdiv pr ∧ (x * P / pr).fmod P = x % pr * ((P - 1) / pr) := by
  have hd : pr * ((P - 1) / pr) = P - 1 := by
    refine Int.mul_ediv_cancel' (Int.dvd_of_emod_eq_zero ?_)
    rw [Int.sub_emod, hP.one, Int.emod_eq_of_lt (by omega) hp]; simp
  have h0 := Int.emod_nonneg x (b := pr) (by omega)
  have h1 := Int.emod_lt_of_pos x (b := pr) (by omega)
  have h2 := Int.mul_ediv_add_emod x pr
  generalize x / pr = w at h2
  generalize hr : x % pr = r at h0 h1 h2
  generalize (P - 1) / pr = d at hd
  have hq : x * P / pr = w * P + r * d := by
    refine ((Int.ediv_emod_unique (by omega) (r := r) (q := w * P + r * d)).mpr ⟨?_, h0, h1⟩).1
    have e1 : P = pr * d + 1 := by omega
    have e2 : r * P = r * (pr * d) + r := by
      conv => lhs; rw [e1]
      rw [Int.mul_add, Int.mul_one]
    rw [← h2, Int.add_mul, Int.mul_add, e2, Int.mul_assoc pr w P, ← Int.mul_assoc pr r d, Int.mul_comm pr r, Int.mul_assoc r pr d]
    omega
  have hPp := hP.pos
  have hd0 : 0 ≤ d := by
    by_cases h : d < 0
    · have := Int.mul_lt_mul_of_pos_left h (show 0 < pr by omega)
      omega
    · omega
  have hrd : 0 ≤ r * d := Int.mul_nonneg h0 hd0
  have hrd2 : r * d < P := by
    have := Int.mul_le_mul_of_nonneg_right (show r ≤ pr by omega) hd0
    omega
  have hu := (Int.ediv_emod_unique hPp (a := w * P + r * d) (r := r * d) (q := w)).mpr ⟨by rw [Int.mul_comm P w]; omega, hrd, hrd2⟩
  rw [fdiv_pos (Int.le_of_lt hPp), fmod_pos (Int.le_of_lt hPp), hq, hu.1, hu.2]
  refine ⟨?_, rfl⟩
  rw [fdiv_pos (by omega)]
  have := (Int.ediv_emod_unique (show 0 < pr by omega) (a := x) (r := r) (q := w)).mpr ⟨by omega, h0, h1⟩
  exact this.1.symm
theorem bitsX {x : Int} (h : -10 ^ 20 ≤ x ∧ x ≤ 10 ^ 20) : Builtin.Int.intBits x ≤ 67 := intBits_le_iff.mpr (by omega)
theorem bitsK {K : Int} (h : -2 ^ 67 ≤ K ∧ K ≤ 2 ^ 67) : Builtin.Int.intBits K ≤ 68 := intBits_le_iff.mpr (by omega)
theorem bitsPr {pr : Int} (h : pr = 23 ∨ pr = 47 ∨ pr = 59) : Builtin.Int.intBits pr ≤ 6 := by rcases h with rfl | rfl | rfl <;> decide +kernel
theorem bits_ge {x : Int} {k : Nat} (h : 2 ^ k ≤ x.natAbs) : k ≤ Builtin.Int.intBits x := by
  rcases Nat.lt_or_ge (Builtin.Int.intBits x) k with h2 | h2
  · have := intBits_le_iff.mp (Nat.le_refl (Builtin.Int.intBits x))
    have h3 := Nat.pow_le_pow_right (n := 2) (by decide) (Nat.le_of_lt h2)
    omega
  · exact h2
theorem bitsPK {pr K : Int} (h : pr = 23 ∨ pr = 47 ∨ pr = 59) (hK : 2 ^ 45 ≤ K ∨ K ≤ -2 ^ 45) : 45 ≤ Builtin.Int.intBits (pr * K) := by
  refine bits_ge ?_
  rcases h with rfl | rfl | rfl <;> omega
/-- all that a turn of the powers needs -/
structure TurnOk (x K pr P : Int) : Prop where
  m1 : IntMulOk x K
  m2 : IntMulOk (x * K) P
  m3 : IntMulOk pr K
  m4 : IntMulOk (x.fmod pr) K
  nz : pr * K ≠ 0
  ab : Builtin.Int.intBits (x * K * P) ≤ 50 * Builtin.Int.intBits (pr * K)
  b2 : Builtin.Int.intBits (pr * K) ≤ 200
  qb : Builtin.Int.intBits (x * P / pr) ≤ 50 * Builtin.Int.intBits P
  pn : P ≠ 0
theorem turnOk {x K pr P : Int} (h : pr = 23 ∨ pr = 47 ∨ pr = 59) (hx : -10 ^ 20 ≤ x ∧ x ≤ 10 ^ 20) (hK : 2 ^ 45 ≤ K ∨ K ≤ -2 ^ 45) (hK2 : -2 ^ 67 ≤ K ∧ K ≤ 2 ^ 67) (hP : PwOk pr P) : TurnOk x K pr P where
  m1 := .of_le (bitsX hx) (bitsK hK2) (by decide)
  m2 := .of_le (intBits_mul_le (bitsX hx) (bitsK hK2)) hP.le (by decide)
  m3 := .of_le (bitsPr h) (bitsK hK2) (by decide)
  m4 := .of_le (intBits_fmod_le (bitsX hx) (bitsPr h)) (bitsK hK2) (by decide)
  nz := by rcases h with rfl | rfl | rfl <;> omega
  ab := by
    have h1 := intBits_mul_le (intBits_mul_le (bitsX hx) (bitsK hK2)) hP.le
    have h2 := bitsPK h hK
    omega
  b2 := by
    have := intBits_mul_le (bitsPr h) (bitsK hK2)
    omega
  qb := by
    have hp : 0 ≤ pr := by omega
    have := intBits_fdiv_le (y := pr) (intBits_mul_le (bitsX hx) hP.le)
    rw [fdiv_pos hp] at this
    have := hP.ge
    omega
  pn := by have := hP.pos; omega
end

section
def Off (tl : List (Addr × Obj)) (as : List Addr) : Prop := ∀ a ∈ as, ∀ p ∈ tl, p.1 ≠ a
theorem Off.of {own tl : List (Addr × Obj)} (h : Apart own tl) : Off tl (own.map (·.1)) := fun a ha p hp => by
  obtain ⟨q, hq, rfl⟩ := List.mem_map.mp ha
  exact h q hq p hp
theorem Off.apart {own tl : List (Addr × Obj)} (h : Off tl (own.map (·.1))) : Apart own tl := fun q hq p hp => h q.1 (List.mem_map.mpr ⟨q, hq, rfl⟩) p hp
theorem Off.sub {tl : List (Addr × Obj)} {as bs : List Addr} (h : Off tl as) (k : ∀ b ∈ bs, b ∈ as) : Off tl bs := fun b hb => h b (k b hb)
theorem Off.at {tl : List (Addr × Obj)} {as : List Addr} {a : Addr} (h : Off tl as) (k : a ∈ as) : ∀ p ∈ tl, p.1 ≠ a := h a k
theorem Off.more {tl : List (Addr × Obj)} {as : List Addr} {a : Addr} (h : Off tl as) (k : ∀ p ∈ tl, p.1 ≠ a) : Off tl (a :: as) := fun b hb => by
  rcases List.mem_cons.mp hb with rfl | hb
  · exact k
  · exact h b hb
/-- the period of a power -/
def per (x pr P : Int) : Int := x % pr * ((P - 1) / pr)
theorem with_led {P : Prop} {g h : Heap} {L l1 l2 a4 a5 a6 : Addr} {o1 o4 o5 o6 : Obj} {vs : List Value} {n : Nat} {c : Addr × Obj} {tl : List (Addr × Obj)} (N : News g L h ((l1, o1) :: (l2, W.listOf vs.toArray n) :: c :: (a4, o4) :: (a5, o5) :: (a6, o6) :: tl))
    (k : ∀ l1' o1' l2' o4' o5' o6', l1' = l1 → o1' = o1 → l2' = l2 → o4' = o4 → o5' = o5 → o6' = o6 → News g L h ((l1', o1') :: (l2', W.listOf vs.toArray n) :: (a4, o4') :: (a5, o5') :: (a6, o6') :: tl) → P) : P := by
  refine k _ _ _ _ _ _ rfl rfl rfl rfl rfl rfl (fun p hp => N p ?_)
  simp only [List.mem_cons] at hp ⊢
  rcases hp with h | h | h | h | h | h <;> simp [h]
end

section
open PySem PySem.W PyProof.Rows PySem.Calls PySem.Spec
set_option maxRecDepth 100000
section
variable {prog : Program} {w : World} {A : Around} {E : Value → Shared → Prop} {s : Shared} {env : Env} {h₀ : Heap} {x : Str} {body : List Stmt} {Q : Flow → Shared → Prop}
/-- a loop over a tuple of the call's own -/
theorem loop_tup {t : Addr} {vs : List Value} {nn : Nat} {m₀ : Str → Option Value} {news : List (Addr × Obj)} (J : Nat → (Str → Option Value) → List (Addr × Obj) → Prop)
    (hh : A.handled = none) (F : Fr h₀ env.locals s.heap m₀) (N : News h₀ env.locals s.heap news) (hm : (t, tupO vs.toArray nn) ∈ news) (hj : J 0 m₀ news) (hkeep : ∀ i m nx, J i m nx → (t, tupO vs.toArray nn) ∈ nx)
    (turn : ∀ i v m₁ news₁ h tk I oI, i < vs.length → vs[i]? = some v → J i m₁ news₁ → (∀ p ∈ news₁, p.1 ≠ I) → Fr h₀ env.locals h (fun y => if y = x then some v else m₁ y) → News h₀ env.locals h ((I, oI) :: news₁) →
      wpAny (model prog w) A (execs body env) (TurnPost h₀ env.locals I oI (J (i + 1)) s Q) E { s with heap := h, toks := tk })
    (done : ∀ m₁ news₁ h tk, J vs.length m₁ news₁ → Fr h₀ env.locals h m₁ → News h₀ env.locals h news₁ → Q .next { s with heap := h, toks := tk }) :
    wpAny (model prog w) A (pyIter (.ref t)) (fun it s₂ => LoopAtV prog w A h₀ env x body Q E it s₂) E s := by
  have hl := N _ hm
  have hlt : t < s.heap.objs.size := Heap.lt_size hl.1
  have hts : s.heap.IsTuple t vs.toArray := ⟨_, hl.1, rfl, nn, rfl⟩
  refine wpAny_pyIter_tuple hts ?_
  have W9 := Walks.tuple (prog := prog) (w := w) hh s.heap.objs.size t (Nat.ne_of_lt hlt) vs.toArray
  have hlen : vs.toArray.size = vs.length := by simp
  rw [hlen] at W9
  refine loop_walk (keep := [(t, tupO vs.toArray nn)]) J W9 (by simp) ?_ (next_is_new F) (fun p hp => Nat.ne_of_lt (Heap.lt_size (N p hp).1)) ⟨?_, _, Heap.get?_push_of_some _ hl.1, rfl, nn, rfl⟩
    (F.push _) (fun p hp => ⟨Heap.get?_push_of_some _ (N p hp).1, (N p hp).2⟩) hj ?_ ?_ ?_ ?_ done
  · intro h
    rcases List.mem_cons.mp h with e | h
    · exact absurd F.ns.lt (e ▸ Nat.lt_irrefl _)
    · exact hl.2.1 (List.mem_singleton.mp h).symm
  · exact ⟨_, Heap.get?_push_size _ rfl, rfl, rfl⟩
  · rintro i h ⟨⟨o, ho, _⟩, _⟩; exact ⟨o, ho⟩
  · intro i m nx h p hp; rw [List.mem_singleton.mp hp]; exact hkeep i m nx h
  · intro b hb
    rcases List.mem_cons.mp hb with e | hb
    · exact .inl e
    · exact .inr ⟨_, by rw [List.mem_singleton.mp hb]; exact List.mem_singleton.mpr rfl⟩
  · intro i v m₁ news₁ h tk oI hi hP
    exact turn i v m₁ news₁ h tk _ oI hi (by simpa using hP)
end
end

section
open PySem PySem.W PyProof.Rows PySem.NumText
def DigL (l : List Nat) : Prop := ∀ d ∈ l, 48 ≤ d ∧ d ≤ 57
theorem dv_acc : ∀ (b : List Nat) (x : Nat), b.foldl (fun v c => v * 10 + (c - 48)) x = x * 10 ^ b.length + b.foldl (fun v c => v * 10 + (c - 48)) 0
  | [], x => by simp
  | c :: b, x => by
    rw [List.foldl_cons, List.foldl_cons, dv_acc b, dv_acc b (0 * 10 + (c - 48)), List.length_cons, Nat.pow_succ, Nat.add_mul, Nat.zero_mul, Nat.zero_add, Nat.add_assoc]
    congr 1
    rw [Nat.mul_assoc, Nat.mul_comm 10]
theorem dv_append (a b : List Nat) : digitsVal (a ++ b) = digitsVal a * 10 ^ b.length + digitsVal b := by
  show (a ++ b).foldl _ 0 = _
  rw [List.foldl_append, dv_acc b]; rfl
theorem dv_lt : ∀ {l : List Nat}, DigL l → digitsVal l < 10 ^ l.length
  | [], _ => by decide
  | c :: l, h => by
    have h1 := dv_lt (l := l) (fun d hd => h d (.tail _ hd))
    have h2 := h c (.head _)
    have e := dv_append [c] l
    have e2 : digitsVal [c] = c - 48 := by show 0 * 10 + (c - 48) = _; omega
    rw [show c :: l = [c] ++ l from rfl, e, e2, List.length_append, Nat.pow_add]
    have h3 : c - 48 + 1 ≤ 10 := by omega
    have := Nat.mul_le_mul_right (10 ^ l.length) h3
    rw [Nat.add_mul] at this
    simp only [List.length_singleton, Nat.pow_one]
    omega
/-- a slice of figures as a number -/
theorem dv_slice {l : List Nat} (h : DigL l) (a n b : Nat) (hl : l.length = a + n + b) : digitsVal ((l.drop a).take n) = digitsVal l / 10 ^ b % 10 ^ n := by
  have e : l = l.take a ++ ((l.drop a).take n ++ (l.drop a).drop n) := by rw [List.take_append_drop, List.take_append_drop]
  have hd : DigL ((l.drop a).take n) := fun d hd => h d (List.mem_of_mem_drop (List.mem_of_mem_take hd))
  have hd2 : DigL ((l.drop a).drop n) := fun d hd => h d (List.mem_of_mem_drop (List.mem_of_mem_drop hd))
  have l1 : ((l.drop a).take n).length = n := by simp; omega
  have l2 : ((l.drop a).drop n).length = b := by simp; omega
  have b1 := dv_lt hd
  have b2 := dv_lt hd2
  rw [l1] at b1
  rw [l2] at b2
  conv => rhs; rw [e]
  rw [dv_append, dv_append, l2, List.length_append, l1, l2, Nat.pow_add, ← Nat.mul_assoc, ← Nat.add_assoc, ← Nat.add_mul]
  have hp : 0 < 10 ^ b := Nat.pow_pos (by decide)
  rw [Nat.add_comm _ (digitsVal ((l.drop a).drop n)), Nat.add_mul_div_right _ _ hp, Nat.div_eq_of_lt b2, Nat.zero_add, Nat.add_comm, Nat.add_mul_mod_self_right, Nat.mod_eq_of_lt b1]
end

section
open PySem PySem.W PyProof.Rows PySem.NumText
/-- a number of k figures, j times over -/
def repN (k n : Nat) : Nat → Nat
  | 0 => 0
  | j + 1 => n * 10 ^ (k * j) + repN k n j
def per10 (p r : Nat) : Nat := r * ((10 ^ (p - 1) - 1) / p)
def per64 (p r : Nat) : Nat := r * ((64 ^ (p / 2) - 1) / p)
def portN (p r j t : Nat) : Nat := repN (p - 1) (per10 p r) j / 10 ^ (2 * j * (p / 2 - 1 - t)) % 10 ^ (2 * j)
def isSq (p r : Nat) : Bool := (List.range (p / 2)).any fun k => (k + 1) * (k + 1) % p == r
def hN (p : Nat) : Int := if p = 47 then 5 else 3
def formsS (p r : Nat) : Int := if isSq p r then hN p else - hN p
def sumP (p r j : Nat) : Nat → Int
  | 0 => 0
  | t + 1 => sumP p r j t + ((portN p r j t : Nat) : Int)
def sumD (p r j : Nat) : Nat → Int
  | 0 => 0
  | t + 1 => sumD p r j t + (((portN p r j t % 10 ^ j : Nat) : Int) - ((portN p r j t / 10 ^ j : Nat) : Int))
def okJ (p r j : Nat) : Bool := 2 * sumP p r j (p / 2) == ((p / 2 : Nat) - formsS p r) * (100 ^ j - 1) && sumD p r j (p / 2) == formsS p r * (10 ^ j + 1)
def okAllJ (p : Nat) : Bool := (List.range (p - 1)).all fun r => okJ p (r + 1) 1 && okJ p (r + 1) 3 && okJ p (r + 1) 5 && okJ p (r + 1) 7 && okJ p (r + 1) 9
theorem okJ23 : okAllJ 23 = true := by decide +kernel
theorem okJ47 : okAllJ 47 = true := by decide +kernel
theorem okJ59 : okAllJ 59 = true := by decide +kernel
end

section
open PySem PySem.W PyProof.Rows PySem.NumText
/-- the t highest figures to the base 64 of the i-th number -/
def numT (q n m i : Nat) : Nat → Nat
  | 0 => 0
  | t + 1 => numT q n m i t * 64 + n / 64 ^ (q - 1 - (i * m + t) % q) % 64
def sumN (q n m : Nat) : Nat → Int
  | 0 => 0
  | i + 1 => sumN q n m i + ((numT q n m i m : Nat) : Int)
def okM (p r m : Nat) : Bool := 2 * sumN (p / 2) (per64 p r) m (p / 2) == ((p / 2 : Nat) - formsS p r) * (64 ^ m - 1)
def okAllM (p : Nat) : Bool := (List.range (p - 1)).all fun r => okM p (r + 1) 1 && okM p (r + 1) 2 && okM p (r + 1) 3 && okM p (r + 1) 4
theorem okM23 : okAllM 23 = true := by decide +kernel
theorem okM47 : okAllM 47 = true := by decide +kernel
theorem okM59 : okAllM 59 = true := by decide +kernel
end

section
theorem per10_is {x pr : Int} (h : pr = 23 ∨ pr = 47 ∨ pr = 59) : per x pr (10 ^ Int.toNat (2 * Int.fdiv pr 2)) = ((per10 pr.toNat (x % pr).toNat : Nat) : Int) := by
  have h0 := Int.emod_nonneg x (b := pr) (by omega)
  unfold per per10
  rw [Int.natCast_mul, Int.toNat_of_nonneg h0]
  congr 1
  rcases h with rfl | rfl | rfl <;> decide +kernel
theorem per64_is {x pr : Int} (h : pr = 23 ∨ pr = 47 ∨ pr = 59) : per x pr (64 ^ Int.toNat (Int.fdiv pr 2)) = ((per64 pr.toNat (x % pr).toNat : Nat) : Int) := by
  have h0 := Int.emod_nonneg x (b := pr) (by omega)
  unfold per per64
  rw [Int.natCast_mul, Int.toNat_of_nonneg h0]
  congr 1
  rcases h with rfl | rfl | rfl <;> decide +kernel
theorem per10_lt {p r : Nat} (h : p = 23 ∨ p = 47 ∨ p = 59) (hr : r < p) : per10 p r < 10 ^ (p - 1) := by
  unfold per10
  rcases h with rfl | rfl | rfl <;> exact Nat.lt_of_le_of_lt (Nat.mul_le_mul_right _ (Nat.le_sub_one_of_lt hr)) (by decide +kernel)
theorem per64_lt {p r : Nat} (h : p = 23 ∨ p = 47 ∨ p = 59) (hr : r < p) : per64 p r < 64 ^ (p / 2) := by
  unfold per64
  rcases h with rfl | rfl | rfl <;> exact Nat.lt_of_le_of_lt (Nat.mul_le_mul_right _ (Nat.le_sub_one_of_lt hr)) (by decide +kernel)
end

section
open PySem PySem.W PyProof.Rows PySem.NumText
theorem flat_fold (x : Array Nat) : ∀ (n : Nat) (acc : Array Nat), ((List.replicate n x).foldl (· ++ ·) acc).toList = acc.toList ++ (List.replicate n x.toList).flatten
  | 0, acc => by simp
  | n + 1, acc => by
    rw [List.replicate_succ, List.foldl_cons, flat_fold x n, List.replicate_succ, List.flatten_cons, Array.toList_append, List.append_assoc]
theorem mul_list (x : Str) (n : Nat) : (Txt.mul x (n : Int)).cps.toList = (List.replicate n x.cps.toList).flatten := by
  unfold Txt.mul
  by_cases h1 : (n : Int) < 1
  · have : n = 0 := by omega
    subst this
    rw [if_pos h1]; rfl
  · rw [if_neg h1]
    by_cases h2 : ((n : Int) == 1 || x.length == 0) = true
    · rw [if_pos h2, Bool.or_eq_true, beq_iff_eq, beq_iff_eq] at *
      rcases h2 with h | h
      · have : n = 1 := by omega
        subst this
        simp
      · have e : x.cps.toList = [] := List.length_eq_zero_iff.mp (by rw [Array.length_toList]; exact h)
        rw [e]; simp
    · rw [if_neg h2]
      show ((List.replicate (n : Int).toNat x.cps).foldl (· ++ ·) #[]).toList = _
      rw [flat_fold, Int.toNat_natCast]; rfl
theorem dv_zeros (l : List Nat) : ∀ k, digitsVal (List.replicate k 48 ++ l) = digitsVal l
  | 0 => rfl
  | k + 1 => by
    rw [List.replicate_succ, List.cons_append]
    show digitsVal ([48] ++ (List.replicate k 48 ++ l)) = _
    rw [dv_append, dv_zeros l k]
    show (0 * 10 + (48 - 48)) * _ + _ = _
    omega
theorem flat_len (b : List Nat) : ∀ j, (List.replicate j b).flatten.length = b.length * j
  | 0 => rfl
  | j + 1 => by rw [List.replicate_succ, List.flatten_cons, List.length_append, flat_len b j, Nat.mul_succ]; omega
theorem dv_rep (b : List Nat) : ∀ j, digitsVal (List.replicate j b).flatten = repN b.length (digitsVal b) j
  | 0 => rfl
  | j + 1 => by
    rw [List.replicate_succ, List.flatten_cons, dv_append, dv_rep b j, flat_len]; rfl
structure FigOk (fg : Str) (k n j : Nat) : Prop where
  len : fg.length = k * j
  dig : DigL fg.cps.toList
  val : digitsVal fg.cps.toList = repN k n j
theorem num_len {k n : Nat} (hk : 0 < k) (hn : n < 10 ^ k) : (Str.ofString (toString ((n : Nat) : Int))).length ≤ k := by
  have e := KIN.signs_num n
  have := congrArg List.length e
  rw [List.length_map] at this
  have h := (Nat.length_toDigits_le_iff (b := 10) (n := n) (by decide) hk).mpr hn
  show (Str.ofString (toString ((n : Nat) : Int))).cps.size ≤ k
  rw [← Array.length_toList]
  omega
theorem figOk {k n j : Nat} (hk : 0 < k) (hn : n < 10 ^ k) {fs : Str} (hfs : fs = Str.ofString (toString ((n : Nat) : Int))) {z : Int} (hz : z = (k : Int) - (fs.length : Int)) {J : Int} (hJ : J = (j : Int)) : FigOk (Txt.mul (Txt.mul (Str.ofString "0") z ++ fs) J) k n j := by
  have hl := num_len hk hn
  rw [← hfs] at hl
  obtain ⟨p, hp⟩ : ∃ p : Nat, z = (p : Int) := ⟨k - fs.length, by omega⟩
  have hpk : p + fs.length = k := by omega
  subst hp hJ
  clear hz
  have e0 : (Str.ofString "0").cps.toList = [48] := by decide +kernel
  have eb : (Txt.mul (Str.ofString "0") (p : Int) ++ fs).cps.toList = List.replicate p 48 ++ fs.cps.toList := by
    rw [PySem.Str.cps_append, Array.toList_append, mul_list, e0]
    congr 1
    clear hpk hl
    induction p with
    | zero => rfl
    | succ p ih => rw [List.replicate_succ, List.flatten_cons, ih]; rfl
  have hd : DigL fs.cps.toList := by
    rw [hfs, KIN.signs_num]
    intro d hd
    obtain ⟨c, hc, rfl⟩ := List.mem_map.mp hd
    have := Nat.isDigit_of_mem_toDigits (b := 10) (by decide) (by decide) hc
    simp only [Char.isDigit, Bool.and_eq_true, decide_eq_true_eq] at this
    exact this
  have hv : digitsVal fs.cps.toList = n := by rw [hfs, KIN.signs_num, KIN.val_back]
  have hlb : (List.replicate p 48 ++ fs.cps.toList).length = k := by
    rw [List.length_append, List.length_replicate, Array.length_toList]
    exact hpk
  constructor
  · show (Txt.mul (Txt.mul (Str.ofString "0") (p : Int) ++ fs) (j : Int)).cps.size = _
    rw [← Array.length_toList, mul_list, flat_len, eb, hlb]
  · rw [mul_list, eb]
    intro d hd2
    obtain ⟨l, hl2, hd3⟩ := List.mem_flatten.mp hd2
    rw [(List.mem_replicate.mp hl2).2] at hd3
    rcases List.mem_append.mp hd3 with h | h
    · rw [(List.mem_replicate.mp h).2]; decide
    · exact hd d h
  · rw [mul_list, dv_rep, eb, hlb, dv_zeros, hv]
end

section
open PySem PySem.W PyProof.Rows PySem.NumText
def portsL (p r j i : Nat) : List Int := (List.range i).map fun t => ((portN p r j t : Nat) : Int)
theorem portsL_succ {p r j i : Nat} : portsL p r j (i + 1) = portsL p r j i ++ [((portN p r j i : Nat) : Int)] := by
  unfold portsL
  rw [List.range_succ, List.map_append]; rfl
theorem with_led2 {P : Prop} {g h : Heap} {L l1 l2 a4 a5 a6 : Addr} {o1 o2 o4 o5 o6 : Obj} {c : Addr × Obj} {tl : List (Addr × Obj)} (N : News g L h ((l1, o1) :: c :: (l2, o2) :: (a4, o4) :: (a5, o5) :: (a6, o6) :: tl))
    (k : ∀ l1', l1' = l1 → News g L h ((l1', o1) :: (l2, o2) :: (a4, o4) :: (a5, o5) :: (a6, o6) :: tl) → P) : P := by
  refine k _ rfl (fun p hp => N p ?_)
  simp only [List.mem_cons] at hp ⊢
  rcases hp with h | h | h | h | h | h <;> simp [h]
/-- the figures of one port -/
def pieceL (fg : Str) (j i : Nat) : List Nat := (fg.cps.toList.drop (2 * j * i)).take (2 * j)
theorem piece_dig {fg : Str} {k n j i : Nat} (F : FigOk fg k n j) : DigL (pieceL fg j i) := fun d hd => F.dig d (List.mem_of_mem_drop (List.mem_of_mem_take hd))
theorem piece_fit {p j i : Nat} (hp : p % 2 = 1) (hi : i < p / 2) : (p - 1) * j = 2 * j * i + 2 * j + 2 * j * (p / 2 - 1 - i) := by
  have e : p - 1 = 2 * (i + 1 + (p / 2 - 1 - i)) := by omega
  generalize p / 2 - 1 - i = b at e ⊢
  rw [e]
  simp only [Nat.mul_add, Nat.add_mul, Nat.mul_one]
  rw [Nat.mul_right_comm 2 i j, Nat.mul_right_comm 2 b j]
theorem piece_len {fg : Str} {p n j i : Nat} (F : FigOk fg (p - 1) n j) (hp : p % 2 = 1) (hi : i < p / 2) : (pieceL fg j i).length = 2 * j := by
  have h1 : fg.cps.toList.length = (p - 1) * j := F.len
  have h2 := piece_fit (j := j) hp hi
  unfold pieceL
  rw [List.length_take, List.length_drop]
  omega
theorem piece_val {fg : Str} {p r j i : Nat} (F : FigOk fg (p - 1) (per10 p r) j) (hp : p % 2 = 1) (hi : i < p / 2) : digitsVal (pieceL fg j i) = portN p r j i := by
  have h1 : fg.cps.toList.length = (p - 1) * j := F.len
  have h2 := piece_fit (j := j) hp hi
  unfold pieceL portN
  rw [dv_slice F.dig (2 * j * i) (2 * j) (2 * j * (p / 2 - 1 - i)) (by omega), F.val]
theorem piece_slice {fg : Str} {p n j i : Nat} (F : FigOk fg (p - 1) n j) (hp : p % 2 = 1) (hi : i < p / 2) : Txt.slice fg (some (2 * (j : Int) * (i : Int))) (some (2 * (j : Int) * ((i : Int) + 1))) = ⟨(pieceL fg j i).toArray⟩ := by
  have h1 : fg.cps.toList.length = (p - 1) * j := F.len
  have h2 := piece_fit (j := j) hp hi
  have e1 : 2 * (j : Int) * (i : Int) = ((2 * j * i : Nat) : Int) := by push_cast; rfl
  have e2 : 2 * (j : Int) * ((i : Int) + 1) = ((2 * j * i + 2 * j : Nat) : Int) := by push_cast; rw [Int.mul_add, Int.mul_one]
  rw [e1, e2, slice_plain ⟨by omega, by omega, by omega⟩]
  unfold pieceL
  rw [Int.toNat_natCast, show (((2 * j * i + 2 * j : Nat) : Int) - ((2 * j * i : Nat) : Int)).toNat = 2 * j by omega]
theorem reply_is {M W : Nat} {ds : List Nat} : Str.ofString "229 " ++ ⟨#[M]⟩ ++ Str.ofString "(" ++ ⟨#[M]⟩ ++ ⟨#[W]⟩ ++ ⟨#[M]⟩ ++ ⟨#[M]⟩ ++ ⟨ds.toArray⟩ ++ ⟨#[M]⟩ ++ Str.ofString ")" ++ ⟨#[M]⟩ = reply M W ds := by
  have e1 : Str.ofString "229 " = ⟨#[50, 50, 57, 32]⟩ := by decide +kernel
  rw [e1, str_open, str_close]
  refine PySem.Str.ext' ?_
  simp only [PySem.Str.cps_append]
  apply Array.toList_inj.mp
  simp [replyL]
end

section
theorem per64_ge {p r : Nat} (h : p = 23 ∨ p = 47 ∨ p = 59) (hr : 0 < r) : 64 ^ (p / 2 - 1) ≤ per64 p r := by
  unfold per64
  have : (64 ^ (p / 2) - 1) / p ≤ r * ((64 ^ (p / 2) - 1) / p) := Nat.le_mul_of_pos_left _ hr
  refine Nat.le_trans ?_ this
  rcases h with rfl | rfl | rfl <;> decide +kernel
theorem pow64 (k : Nat) : 64 ^ k = 2 ^ (6 * k) := by rw [Nat.pow_mul]
theorem bits64 {p r : Nat} (h : p = 23 ∨ p = 47 ∨ p = 59) (hr : 0 < r) (hrp : r < p) : 6 * (p / 2 - 1) + 1 ≤ Builtin.Int.intBits ((per64 p r : Nat) : Int) ∧ Builtin.Int.intBits ((per64 p r : Nat) : Int) ≤ 6 * (p / 2) := by
  have h1 := per64_ge h hr
  have h2 := per64_lt h hrp
  rw [pow64] at h1 h2
  constructor
  · rcases Nat.lt_or_ge (6 * (p / 2 - 1)) (Builtin.Int.intBits ((per64 p r : Nat) : Int)) with h3 | h3
    · exact h3
    · have := intBits_le_iff.mp h3
      omega
  · exact intBits_le_iff.mpr (by rw [Int.natAbs_natCast]; exact h2)
theorem kk64 {p r : Nat} (h : p = 23 ∨ p = 47 ∨ p = 59) (hr : 0 < r) (hrp : r < p) : Int.fdiv ((Builtin.Int.intBits ((per64 p r : Nat) : Int) : Int) + 6 - 1) 6 = ((p / 2 : Nat) : Int) := by
  have := bits64 h hr hrp
  rw [fdiv_pos (by decide)]
  omega
theorem digs_at (n : Nat) : ∀ (k : Nat) (x : Int) (i : Nat), i < k → (digs n k x)[i]? = some (x / 2 ^ (n * i) % 2 ^ n)
  | k + 1, x, 0, _ => by simp [digs]
  | k + 1, x, i + 1, h => by
    show (digs n k (x / 2 ^ n))[i]? = _
    rw [digs_at n k _ i (by omega), ediv_ediv' (Int.le_of_lt (p2pos n)), ← Int.pow_add, show n + n * i = n * (i + 1) by rw [Nat.mul_succ]; omega]
/-- the figure at a place -/
def fig (q x pl : Nat) : Nat := x / 64 ^ (q - 1 - pl % q) % 64
theorem digR {q x i : Nat} (h : i < q) : (digs 6 q (x : Int)).reverse[i]? = some ((fig q x i : Nat) : Int) := by
  rw [List.getElem?_reverse (by rw [digs_length]; exact h), digs_length, digs_at 6 q _ _ (by omega)]
  unfold fig
  rw [Nat.mod_eq_of_lt h, pow64]
  congr 1
theorem flat_get {α : Type} {l : List α} : ∀ {m pl : Nat}, pl < l.length * m → (List.replicate m l).flatten[pl]? = l[pl % l.length]?
  | 0, pl, h => by simp at h
  | m + 1, pl, h => by
    rw [List.replicate_succ, List.flatten_cons]
    rcases Nat.lt_or_ge pl l.length with h1 | h1
    · rw [List.getElem?_append_left h1, Nat.mod_eq_of_lt h1]
    · rw [List.getElem?_append_right h1, flat_get (by rw [Nat.mul_succ] at h; omega), Nat.mod_eq_sub_mod h1]
theorem flat_len2 {α : Type} (b : List α) : ∀ j, (List.replicate j b).flatten.length = b.length * j
  | 0 => rfl
  | j + 1 => by rw [List.replicate_succ, List.flatten_cons, List.length_append, flat_len2 b j, Nat.mul_succ]; omega
theorem digM {q x m pl : Nat} (h : pl < q * m) : (List.replicate m (digs 6 q (x : Int)).reverse).flatten[pl]? = some ((fig q x pl : Nat) : Int) := by
  have hl : (digs 6 q (x : Int)).reverse.length = q := by rw [List.length_reverse, digs_length]
  rw [flat_get (by rw [hl]; exact h), hl, digR (Nat.mod_lt _ (Nat.pos_of_mul_pos_right (Nat.lt_of_le_of_lt (Nat.zero_le _) h)))]
  unfold fig
  rw [Nat.mod_mod]
end

section
/-- the octet at a place -/
def octN (q x m dd pl : Nat) : Nat := fig q x pl + 128 * ((dd + pl) % 2) + (if (pl + 1) % m = 0 then 0 else 64)
def octsL (q x m dd n : Nat) : List Int := (List.range n).map fun pl => ((octN q x m dd pl : Nat) : Int)
theorem octsL_succ {q x m dd n : Nat} : octsL q x m dd (n + 1) = octsL q x m dd n ++ [((octN q x m dd n : Nat) : Int)] := by
  unfold octsL
  rw [List.range_succ, List.map_append]; rfl
theorem octsL_len {q x m dd n : Nat} : (octsL q x m dd n).length = n := by
  unfold octsL
  rw [List.length_map, List.length_range]
theorem octsL_get {q x m dd n k : Nat} (h : k < n) : (octsL q x m dd n).getD k 0 = ((octN q x m dd k : Nat) : Int) := by
  have h2 : k < (octsL q x m dd n).length := by rw [octsL_len]; exact h
  rw [List.getD_eq_getElem?_getD, List.getElem?_eq_getElem h2]
  simp [octsL]
theorem fig_lt {q x pl : Nat} : fig q x pl < 64 := Nat.mod_lt _ (by decide)
theorem octN_mod {q x m dd pl : Nat} : octN q x m dd pl % 64 = fig q x pl := by
  have := fig_lt (q := q) (x := x) (pl := pl)
  unfold octN
  split <;> omega
theorem octN_lt {q x m dd pl : Nat} : octN q x m dd pl < 256 := by
  have := fig_lt (q := q) (x := x) (pl := pl)
  unfold octN
  split <;> omega
theorem and64 : ∀ x, x < 256 → x &&& 64 = x / 64 % 2 * 64 := by decide +kernel
theorem octN_bit {q x m dd pl : Nat} : Builtin.bitAnd ((octN q x m dd pl : Nat) : Int) 64 = if (pl + 1) % m = 0 then 0 else 64 := by
  have h := fig_lt (q := q) (x := x) (pl := pl)
  show (((Int.toNat ((octN q x m dd pl : Nat) : Int)) &&& 64 : Nat) : Int) = _
  rw [Int.toNat_natCast, and64 _ octN_lt]
  unfold octN
  split <;> omega
theorem vv_octs {q x m dd n i : Nat} : ∀ t, i * m + t ≤ n → vv (octsL q x m dd n) (i * m) t = ((numT q x m i t : Nat) : Int)
  | 0, _ => rfl
  | t + 1, h => by
    show vv (octsL q x m dd n) (i * m) t * 64 + (octsL q x m dd n).getD (i * m + t) 0 % 64 = ((numT q x m i t * 64 + fig q x (i * m + t) : Nat) : Int)
    rw [vv_octs t (by omega), octsL_get (by omega), ← octN_mod (m := m) (dd := dd)]
    push_cast
    rfl
theorem more_octs {q x m dd i t : Nat} (hi : i < q) (ht : t + 1 < m) : Builtin.bitAnd ((octsL q x m dd (q * m)).getD (i * m + t) 0) 64 ≠ 0 := by
  have h1 := Nat.mul_le_mul_right m (show i + 1 ≤ q by omega)
  rw [Nat.succ_mul] at h1
  rw [octsL_get (by omega), octN_bit, if_neg]
  · decide
  · rw [Nat.add_assoc, Nat.mul_comm i m, Nat.mul_add_mod, Nat.mod_eq_of_lt ht]; omega
theorem last_octs {q x m dd i : Nat} (hi : i < q) (hm : 0 < m) : Builtin.bitAnd ((octsL q x m dd (q * m)).getD (i * m + (m - 1)) 0) 64 = 0 := by
  have h1 := Nat.mul_le_mul_right m (show i + 1 ≤ q by omega)
  rw [Nat.succ_mul] at h1
  rw [octsL_get (by omega), octN_bit, if_pos]
  rw [show i * m + (m - 1) + 1 = m * (i + 1) by rw [Nat.mul_succ, Nat.mul_comm]; omega, Nat.mul_mod_right]
def numsL (q x m n : Nat) : List Int := (List.range n).map fun i => ((numT q x m i m : Nat) : Int)
theorem numsL_succ {q x m n : Nat} : numsL q x m (n + 1) = numsL q x m n ++ [((numT q x m n m : Nat) : Int)] := by
  unfold numsL
  rw [List.range_succ, List.map_append]; rfl
theorem numsL_sum {q x m : Nat} : ∀ n, (numsL q x m n).sum = sumN q x m n
  | 0 => rfl
  | n + 1 => by
    rw [numsL_succ, List.sum_append, numsL_sum n]
    simp [sumN]
end

section
def sqL (p n : Nat) : List Int := (List.range n).map fun k => (((k + 1) * (k + 1) % p : Nat) : Int)
theorem sqL_succ {p n : Nat} : sqL p (n + 1) = sqL p n ++ [(((n + 1) * (n + 1) % p : Nat) : Int)] := by
  unfold sqL
  rw [List.range_succ, List.map_append]; rfl
theorem sqL_mem {p r : Nat} : ((r : Nat) : Int) ∈ sqL p (p / 2) ↔ isSq p r = true := by
  unfold sqL isSq
  rw [List.any_eq_true, List.mem_map]
  constructor
  · rintro ⟨k, hk, e⟩
    exact ⟨k, hk, by rw [beq_iff_eq]; exact Int.ofNat.inj e⟩
  · rintro ⟨k, hk, e⟩
    rw [beq_iff_eq] at e
    exact ⟨k, hk, by rw [e]⟩
theorem mulSmall {a b : Nat} (ha : a ≤ 1000) (hb : b ≤ 1000) : IntMulOk (a : Int) (b : Int) := .of_le (m := 10) (n := 10) (intBits_le_iff.mpr (by omega)) (intBits_le_iff.mpr (by omega)) (by decide)
theorem sq_any {p r : Nat} : ((sqL p (p / 2)).any fun x => x == ((r : Nat) : Int)) = isSq p r := by
  have h := sqL_mem (p := p) (r := r)
  cases hb : isSq p r with
  | true =>
    rw [List.any_eq_true]
    exact ⟨_, h.mpr hb, by simp⟩
  | false =>
    rw [List.any_eq_false]
    intro x hx e
    rw [beq_iff_eq] at e
    rw [e] at hx
    have := h.mp hx
    rw [hb] at this
    cases this
theorem sq_val {p k : Nat} (hp : 0 < p) : (((k : Nat) : Int) * ((k : Nat) : Int)).fmod (p : Int) = ((k * k % p : Nat) : Int) := by
  rw [fmod_pos (by omega)]; push_cast; rfl
end

section
theorem portsL_sum {p r j : Nat} : ∀ n, (portsL p r j n).sum = sumP p r j n
  | 0 => rfl
  | n + 1 => by
    rw [portsL_succ, List.sum_append, portsL_sum n]
    simp [sumP]
def difL (p r j n : Nat) : List Int := (List.range n).map fun t => ((portN p r j t % 10 ^ j : Nat) : Int) - ((portN p r j t / 10 ^ j : Nat) : Int)
theorem difL_succ {p r j n : Nat} : difL p r j (n + 1) = difL p r j n ++ [((portN p r j n % 10 ^ j : Nat) : Int) - ((portN p r j n / 10 ^ j : Nat) : Int)] := by
  unfold difL
  rw [List.range_succ, List.map_append]; rfl
theorem difL_sum {p r j : Nat} : ∀ n, (difL p r j n).sum = sumD p r j n
  | 0 => rfl
  | n + 1 => by
    rw [difL_succ, List.sum_append, difL_sum n]
    simp [sumD]
theorem portN_lt {p r j t : Nat} : portN p r j t < 10 ^ (2 * j) := Nat.mod_lt _ (Nat.pow_pos (by decide))
theorem ten_le {j : Nat} (hj : j ≤ 9) : 10 ^ (2 * j) ≤ 1000000000000000000 := by
  have := Nat.pow_le_pow_right (n := 10) (by decide) (show 2 * j ≤ 18 by omega)
  exact Nat.le_trans this (by decide)
theorem portsL_bits {p r j n : Nat} (hj : j ≤ 9) : ∀ z ∈ portsL p r j n, Builtin.Int.intBits z ≤ 1048576 := by
  intro z hz
  obtain ⟨t, _, rfl⟩ := List.mem_map.mp hz
  refine Nat.le_trans (m := 60) (intBits_le_iff.mpr ?_) (by decide)
  have h1 := portN_lt (p := p) (r := r) (j := j) (t := t)
  have h2 := ten_le hj
  rw [Int.natAbs_natCast]; omega
theorem difL_bits {p r j n : Nat} (hj : j ≤ 9) : ∀ z ∈ difL p r j n, Builtin.Int.intBits z ≤ 1048576 := by
  intro z hz
  obtain ⟨t, _, rfl⟩ := List.mem_map.mp hz
  refine Nat.le_trans (m := 60) (intBits_le_iff.mpr ?_) (by decide)
  have h1 := portN_lt (p := p) (r := r) (j := j) (t := t)
  have h2 := ten_le hj
  have h3 := Nat.mod_le (portN p r j t) (10 ^ j)
  have h4 := Nat.div_le_self (portN p r j t) (10 ^ j)
  generalize portN p r j t % 10 ^ j = a at *
  generalize portN p r j t / 10 ^ j = b at *
  generalize portN p r j t = c at *
  generalize 10 ^ (2 * j) = d at *
  have : ((a : Int) - (b : Int)).natAbs ≤ 1000000000000000000 := by omega
  exact Nat.lt_of_le_of_lt this (by decide)
theorem numT_lt {q n m i : Nat} : ∀ t, numT q n m i t < 64 ^ t
  | 0 => by simp [numT]
  | t + 1 => by
    have h1 := numT_lt (q := q) (n := n) (m := m) (i := i) t
    have h2 : n / 64 ^ (q - 1 - (i * m + t) % q) % 64 < 64 := Nat.mod_lt _ (by decide)
    show numT q n m i t * 64 + n / 64 ^ (q - 1 - (i * m + t) % q) % 64 < 64 ^ (t + 1)
    rw [Nat.pow_succ]
    omega
theorem numsL_bits {q n m k : Nat} (hm : m ≤ 4) : ∀ z ∈ numsL q n m k, Builtin.Int.intBits z ≤ 1048576 := by
  intro z hz
  obtain ⟨t, _, rfl⟩ := List.mem_map.mp hz
  refine Nat.le_trans (m := 60) (intBits_le_iff.mpr ?_) (by decide)
  have h1 := numT_lt (q := q) (n := n) (m := m) (i := t) m
  have h2 := Nat.pow_le_pow_right (n := 64) (by decide) hm
  have h3 : (64 : Nat) ^ 4 = 16777216 := by decide
  rw [Int.natAbs_natCast]; omega
theorem formsS_le (p r : Nat) : -5 ≤ formsS p r ∧ formsS p r ≤ 5 := by
  unfold formsS hN
  split <;> split <;> decide
theorem okJ_get {p r j : Nat} (h : p = 23 ∨ p = 47 ∨ p = 59) (h0 : 0 < r) (h1 : r < p) (hj : j = 1 ∨ j = 3 ∨ j = 5 ∨ j = 7 ∨ j = 9) : 2 * sumP p r j (p / 2) = ((p / 2 : Nat) - formsS p r) * (100 ^ j - 1) ∧ sumD p r j (p / 2) = formsS p r * (10 ^ j + 1) := by
  have ha : okAllJ p = true := by
    rcases h with rfl | rfl | rfl
    · exact okJ23
    · exact okJ47
    · exact okJ59
  have hb := List.all_eq_true.mp ha (r - 1) (List.mem_range.mpr (by omega))
  simp only [Bool.and_eq_true, show r - 1 + 1 = r by omega] at hb
  obtain ⟨⟨⟨⟨b1, b2⟩, b3⟩, b4⟩, b5⟩ := hb
  have hc : okJ p r j = true := by rcases hj with rfl | rfl | rfl | rfl | rfl <;> assumption
  unfold okJ at hc
  rw [Bool.and_eq_true, beq_iff_eq, beq_iff_eq] at hc
  exact hc
theorem okM_get {p r m : Nat} (h : p = 23 ∨ p = 47 ∨ p = 59) (h0 : 0 < r) (h1 : r < p) (hm1 : 1 ≤ m) (hm : m ≤ 4) : 2 * sumN (p / 2) (per64 p r) m (p / 2) = ((p / 2 : Nat) - formsS p r) * (64 ^ m - 1) := by
  have ha : okAllM p = true := by
    rcases h with rfl | rfl | rfl
    · exact okM23
    · exact okM47
    · exact okM59
  have hb := List.all_eq_true.mp ha (r - 1) (List.mem_range.mpr (by omega))
  simp only [Bool.and_eq_true, show r - 1 + 1 = r by omega] at hb
  obtain ⟨⟨⟨b1, b2⟩, b3⟩, b4⟩ := hb
  have hm2 : m = 1 ∨ m = 2 ∨ m = 3 ∨ m = 4 := by omega
  have hc : okM p r m = true := by rcases hm2 with rfl | rfl | rfl | rfl <;> assumption
  unfold okM at hc
  rw [beq_iff_eq] at hc
  exact hc
theorem mulPow {a b : Int} (ha : -100 ≤ a ∧ a ≤ 100) (hb : -10000000000000000000 ≤ b ∧ b ≤ 10000000000000000000) : IntMulOk a b := .of_le (m := 10) (n := 64) (intBits_le_iff.mpr (by omega)) (intBits_le_iff.mpr (by omega)) (by decide)
theorem pow100 {j : Nat} (hj : j ≤ 9) : (1 : Int) ≤ 100 ^ j ∧ (100 : Int) ^ j ≤ 1000000000000000000 := by
  have h1 := Nat.pow_le_pow_right (n := 100) (by decide) hj
  have h2 : 0 < 100 ^ j := Nat.pow_pos (by decide)
  have h3 : (100 : Nat) ^ 9 = 1000000000000000000 := by decide
  have e : ((100 ^ j : Nat) : Int) = 100 ^ j := Int.natCast_pow 100 j
  omega
theorem pow10 {j : Nat} (hj : j ≤ 9) : (1 : Int) ≤ 10 ^ j ∧ (10 : Int) ^ j ≤ 1000000000 := by
  have h1 := Nat.pow_le_pow_right (n := 10) (by decide) hj
  have h2 : 0 < 10 ^ j := Nat.pow_pos (by decide)
  have h3 : (10 : Nat) ^ 9 = 1000000000 := by decide
  have e : ((10 ^ j : Nat) : Int) = 10 ^ j := Int.natCast_pow 10 j
  omega
theorem pow64i {m : Nat} (hm : m ≤ 4) : (1 : Int) ≤ 64 ^ m ∧ (64 : Int) ^ m ≤ 16777216 := by
  have h1 := Nat.pow_le_pow_right (n := 64) (by decide) hm
  have h2 : 0 < 64 ^ m := Nat.pow_pos (by decide)
  have h3 : (64 : Nat) ^ 4 = 16777216 := by decide
  have e : ((64 ^ m : Nat) : Int) = 64 ^ m := Int.natCast_pow 64 m
  omega
/-- twice a number that is half of a known product -/
theorem mulTwo {S a b : Int} (e : 2 * S = a * b) (ha : -100 ≤ a ∧ a ≤ 100) (hb : -10000000000000000000 ≤ b ∧ b ≤ 10000000000000000000) : IntMulOk 2 S := by
  have h1 : Builtin.Int.intBits a ≤ 10 := intBits_le_iff.mpr (by omega)
  have h2 : Builtin.Int.intBits b ≤ 64 := intBits_le_iff.mpr (by omega)
  have h3 := intBits_le_iff.mp (Nat.le_trans (intBits_mul_le h1 h2) (Nat.le_refl _))
  rw [← e] at h3
  have h4 : Builtin.Int.intBits S ≤ 74 := intBits_le_iff.mpr (by omega)
  exact .of_le (m := 2) (n := 74) (by decide +kernel) h4 (by decide)
theorem dif_val {a j : Nat} : ((a : Nat) : Int).fmod (10 ^ (j : Int).toNat) - ((a : Nat) : Int).fdiv (10 ^ (j : Int).toNat) = ((a % 10 ^ j : Nat) : Int) - ((a / 10 ^ j : Nat) : Int) := by
  have e : (10 : Int) ^ j = ((10 ^ j : Nat) : Int) := (Int.natCast_pow 10 j).symm
  have h : (0 : Int) ≤ ((10 ^ j : Nat) : Int) := Int.natCast_nonneg _
  rw [Int.toNat_natCast, e, fmod_pos h, fdiv_pos h]; push_cast; rfl
end

section
theorem grown_of {tl news : List (Addr × Obj)} {g h : Heap} {L : Addr} (hT : Tabs tl) (N : News g L h news) (hs : ∀ p ∈ tl, p ∈ news) : GrownAll [(41, 37), (34, 30)] h := by
  obtain ⟨l30, l37, rfl, h30, h37, _⟩ := hT
  have k37 : GrownAt 37 h := by
    rcases h37 with rfl | ⟨c, oc, vs, t, rfl, _⟩
    · exact GrownAt.of N (hs _ (List.mem_append_right _ List.mem_cons_self))
    · exact GrownAt.of N (hs _ (List.mem_append_right _ List.mem_cons_self))
  have k30 : GrownAt 30 h := by
    rcases h30 with rfl | ⟨c, oc, vs, t, rfl, _⟩
    · exact GrownAt.of N (hs _ (List.mem_append_left _ List.mem_cons_self))
    · exact GrownAt.of N (hs _ (List.mem_append_left _ List.mem_cons_self))
  exact ⟨k37, k30, trivial⟩
end

section
set_option maxRecDepth 100000
set_option maxHeartbeats 80000000
theorem plain_X : True ∧ True := by
  w_top off
  walk1 <;> trivial

local macro_rules | `(tactic| walk_at "mine om") => `(tactic| first | (law_clear; omega) | omega)
local macro_rules | `(tactic| walk_at "call ref") => `(tactic| (refine Hold.out ?_))
local macro_rules | `(tactic| walk_at "subscriptTail") => `(tactic| ((with_reducible show wpAny _ _ (subscriptTail (Expr.Tuple _ _ _) _ (Value.ref _) (Value.int _ _)) _ _ _); refine Hold.out ?_))
local macro_rules | `(tactic| walk_at "mine cell") => `(tactic| (unfold Hold; refine lawcell _ _ _ _ _ _ _ _ _ _ _ _ _ _ _ _ _ _ _ _ _ _ _ _ _ (by assumption) (by assumption) (by assumption) (by assumption) (by assumption) rfl (by assumption) (by assumption) (by assumption) (by assumption) (by decide) (by decide) (by decide) (by decide) ?_))
def Marker : Prop := True
/-- a fact that the closing arithmetic is not to see -/
def Hide (p : Prop) : Prop := p
theorem hide_int {p : Int} (h : Hide (p = 23 ∨ p = 47 ∨ p = 59)) : 23 ≤ p ∧ p ≤ 59 := by unfold Hide at h; omega
theorem hide_nat {p : Nat} (h : Hide ((p : Int) = 23 ∨ (p : Int) = 47 ∨ (p : Int) = 59)) : Hide (p = 23 ∨ p = 47 ∨ p = 59) ∧ 23 ≤ p ∧ p ≤ 59 ∧ p % 2 = 1 := by unfold Hide at *; omega
theorem hide_j {j : Nat} (h : Hide (j = 1 ∨ j = 3 ∨ j = 5 ∨ j = 7 ∨ j = 9)) : 1 ≤ j ∧ j ≤ 9 := by unfold Hide at h; omega
theorem with_leave {α : Type} {M : Model} {A A' : Around} {t : Sem α} {Q : α → Shared → Prop} {env : Env} {Q1 : Value → Shared → Prop} {E1 : Value → Shared → Prop} {s : Shared}
    (k : ∀ Q1' E1', Q1' = Q1 → E1' = E1 → wpAny M A t Q (fun e s' => wpAny M A' (PySem.leaving env e) (fun _ s'' => Q1' e s'') E1' s') s) : wpAny M A t Q (fun e s' => wpAny M A' (PySem.leaving env e) (fun _ s'' => Q1 e s'') E1 s') s := k _ _ rfl rfl
theorem TurnPost.intro {h₀ : Heap} {L I : Addr} {oI : Obj} {Jn : (Str → Option Value) → List (Addr × Obj) → Prop} {s : Shared} {Q : Flow → Shared → Prop} {h' : Heap} {g : Array GenState} {d : Drawn} {tk : Nat} {o : OsState} {m' : Str → Option Value} {nx : List (Addr × Obj)}
    (F : Fr h₀ L h' m') (N : News h₀ L h' ((I, oI) :: nx)) (ho : ∀ p ∈ nx, p.1 ≠ I) (hj : Jn m' nx) (e1 : s.gens = g) (e2 : s.drawn = d) (e3 : s.os = o) : TurnPost h₀ L I oI Jn s Q .next { heap := h', gens := g, drawn := d, toks := tk, os := o } := by
  subst e1 e2 e3
  exact TurnEnd.intro F N ho hj
theorem with_post {α : Type} {M : Model} {A : Around} {t : Sem α} {Q : α → Shared → Prop} {E : Value → Shared → Prop} {s : Shared} (k : ∀ Q', Q' = Q → wpAny M A t Q' E s) : wpAny M A t Q E s := k _ rfl
theorem fr_set {g h : Heap} {L : Addr} {x : Str} {v : Option Value} {m m2 : Str → Option Value} (F : Fr g L h (fun y => if y = x then v else m y)) (hm : ∀ z, z ≠ x → m z = m2 z) : Fr g L h (fun y => if y = x then v else m2 y) := fr_eq F (fun z => by
  by_cases e : z = x
  · simp only [if_pos e]
  · simp only [if_neg e]; exact hm z e)
def Join (P : Heap → Prop) (S : Shared) (f : Flow) (s₂ : Shared) : Prop := f = .next ∧ ∃ h tk, s₂ = { S with heap := h, toks := tk } ∧ P h
theorem Join.intro {P : Heap → Prop} {S : Shared} {h : Heap} {tk : Nat} (p : P h) : Join P S .next { S with heap := h, toks := tk } := ⟨rfl, h, tk, rfl, p⟩
def JoinV (P : Value → Heap → Prop) (S : Shared) (v : Value) (s₂ : Shared) : Prop := ∃ h tk, s₂ = { S with heap := h, toks := tk } ∧ P v h
theorem JoinV.intro {P : Value → Heap → Prop} {S : Shared} {v : Value} {h : Heap} {tk : Nat} (p : P v h) : JoinV P S v { S with heap := h, toks := tk } := ⟨h, tk, rfl, p⟩
theorem with_news {P : Prop} {g h : Heap} {L : Addr} {l : List (Addr × Obj)} (N : News g L h l) (k : ∀ l', l' = l → News g L h l' → P) : P := k l rfl N
local macro_rules | `(tactic| walk_at "exec If Compare cons nil") => `(tactic| ((fail_if_success (with_reducible rename Marker => mk9)); refine Hold.out ?_))
local macro_rules | `(tactic| walk_at "eval IfExp") => `(tactic| ((fail_if_success (with_reducible rename Marker => mk9)); refine Hold.out ?_))
theorem swap5 {P : Prop} {g h : Heap} {L : Addr} {a b c x y : Addr × Obj} (N : News g L h [a, b, c, x, y]) (k : ∀ tl, tl = [y, x] → News g L h (a :: b :: c :: tl) → P) : P :=
  k _ rfl (news_sub N (fun p hp => by simp only [List.mem_cons, List.not_mem_nil, or_false] at hp ⊢; rcases hp with h | h | h | h | h <;> simp [h]))
theorem apart_nil (b : List (Addr × Obj)) : Apart [] b := fun _ h => nomatch h
local macro_rules | `(tactic| walk_at "mine apart") => `(tactic| ((repeat refine apart_cons (by first | with_reducible assumption | exact ne_of_allLt (by with_reducible assumption) (by first | exact Nat.le_refl _ | omega)) ?_); exact apart_nil _))
local macro_rules | `(tactic| walk_at "mine split") => `(tactic| (repeat (with_reducible rename _ ∧ _ => hz; rcases hz with ⟨_, _⟩)))
local macro_rules | `(tactic| walk_at "binaryOp Mult int int") => `(tactic| with_reducible refine mul_int ?_ (by with_reducible assumption))
local macro_rules | `(tactic| walk_at "exec For Name Tuple cons nil") => `(tactic| (refine Hold.out ?_))
local macro_rules | `(tactic| walk_at "exec For Name Call cons nil") => `(tactic| (refine Hold.out ?_))
local macro_rules | `(tactic| walk_at "pyIter ref") => `(tactic| (refine Hold.out ?_))
structure Kept (P : Prop) : Type where
  of : P
noncomputable def s1 : {P : Prop // Kept P → PySem.Challenge.rw_un0010_01.Holds} := by
  refine' ⟨_, fun hKept => hd ?_⟩
  case refine'_2 =>
    w_top off
    k_go0
    refine with_post (fun Q0 hQ0 => ?_)
    refine with_leave (fun Q1 E1 hQ1 hE1 => ?_)
    rename (PyData.layable0 _ = true) => hlay
    rename IntsAre _ _ => hI
    rename List Int => ns
    rename Shared => S1
    obtain ⟨H1, gn1, dr1, tq1, os1⟩ := S1
    dsimp only at *
    have hbits : ∀ n ∈ ns, Builtin.Int.intBits n ≤ 1048576 := fun n hn => intBits_le_of_item hn hlay
    have hlen : ns.length ≤ 63 := by
      rename (¬ _ < _) => hh
      walk_at "mine om"
    rename News _ _ _ _ => N9
    refine swap5 N9 (fun tl htl N8 => ?_)
    clear N9
    have hTabs : Tabs tl := by
      subst htl
      exact ⟨[_], [_], rfl, .inl rfl, .inl rfl, fun q hq p hp => by rw [List.mem_singleton.mp hq, List.mem_singleton.mp hp]; decide⟩
    have hLt : AllLt H1.objs.size tl := by
      subst htl
      rename (_ < H1.objs.size ∧ _) => h0
      exact ⟨h0.2, h0.1, trivial⟩
    have hnL : ∀ p ∈ tl, p.1 ≠ H1.objs.size := ne_of_allLt hLt (Nat.le_refl _)
    clear htl
    k_steps
    walk_at "mine cell"
    intro c0 t0 hp0 tk0 F0 N0 lo0 hi0
    dsimp only
    k_steps
    unfold Hold
    have hfm : 0 ≤ (if c0 < 0 then -c0 else c0).fmod 3 ∧ (if c0 < 0 then -c0 else c0).fmod 3 < 3 := by
      rw [fmod_pos (by decide)]; walk_at "mine om"
    refine item_anyT (ns := [23, 47, 59]) (News.isTup (by assumption) (by k_mem)) (.cons _ _ (.cons _ _ (.cons _ _ .nil))) hfm.1 hfm.2 (by walk_at "mine om") ?_
    intro t1
    obtain ⟨pr, hpe, hpr⟩ : ∃ pr : Int, List.getD [23, 47, 59] ((if c0 < 0 then -c0 else c0).fmod 3).toNat 0 = pr ∧ Hide (pr = 23 ∨ pr = 47 ∨ pr = 59) := by
      refine ⟨_, rfl, ?_⟩
      unfold Hide
      generalize (if c0 < 0 then -c0 else c0).fmod 3 = k at hfm
      have : k = 0 ∨ k = 1 ∨ k = 2 := by walk_at "mine om"
      rcases this with rfl | rfl | rfl <;> decide
    rw [hpe]
    clear hpe hfm lo0 hi0
    obtain ⟨hp1, hp2⟩ := hide_int hpr
    try dsimp only
    k_steps
    walk_at "mine cell"
    intro x0 t0 hp0 tk0 F0 N0 lo0 hi0
    dsimp only
    k_steps
    unfold Hold
    rename Fr _ _ _ _ => F7
    rename News _ _ _ _ => N7
    refine with_map F7 (fun m0 hm0 F8 => with_news N7 (fun led hled N8 => ?_))
    refine wpAny_mono (Q := Join (fun h1 => ∃ x1 t1, (-10 ^ 20 ≤ x1 ∧ x1 ≤ 10 ^ 20) ∧ x1 % pr ≠ 0 ∧ Fr (ghostOf H1 [(41, 37), (34, 30)]) H1.objs.size h1 (fun z => if z = Str.ofString "x" then some (.int x1 t1) else m0 z) ∧ News (ghostOf H1 [(41, 37), (34, 30)]) H1.objs.size h1 led) ⟨H1, gn1, dr1, tq1, os1⟩) ?_ ?_ (fun _ _ e => e)
    · clear F8 N8
      subst hm0 hled
      have mk : Marker := trivial
      k_steps
      · rename (Int.fmod _ _ = 0) => h0
        rw [fmod_pos (by walk_at "mine om")] at h0
        rename Fr _ _ _ _ => F9
        rename News _ _ _ _ => N9
        refine Join.intro ⟨x0 + 1, _, ⟨?_, ?_⟩, ?_, fr_set F9 (fun z _ => rfl), news_sub N9 (by walk_at "mine sub")⟩
        · walk_at "mine om"
        · walk_at "mine om"
        · rcases hpr with rfl | rfl | rfl <;> walk_at "mine om"
      · rename (Int.fmod _ _ ≠ 0) => h0
        rw [fmod_pos (by walk_at "mine om")] at h0
        rename Fr _ _ _ _ => F9
        rename News _ _ _ _ => N9
        refine Join.intro ⟨x0, _, ⟨?_, ?_⟩, h0, fr_set F9 (fun z e => (if_neg e).symm), news_sub N9 (by walk_at "mine sub")⟩
        · walk_at "mine om"
        · walk_at "mine om"
    · clear F7 N7
      rintro f s₂ ⟨rfl, h1, tk1, rfl, x1, t1, hx1, hxp, F1, N1⟩
      subst hm0 hled
      clear F8 N8
      dsimp only
      k_steps
      walk_at "mine cell"
      intro f0 t2 hp2 tk2 F2 N2 lo2 hi2
      dsimp only
      k_steps
      unfold Hold
      rename Fr _ _ _ _ => F7
      rename News _ _ _ _ => N7
      refine with_map F7 (fun m0 hm0 F8 => with_news N7 (fun led hled N8 => ?_))
      refine wpAny_mono (Q := JoinV (fun v h1 => ∃ K tk, v = .int K tk ∧ (2 ^ 45 ≤ K ∨ K ≤ -2 ^ 45) ∧ (-2 ^ 67 ≤ K ∧ K ≤ 2 ^ 67) ∧ Fr (ghostOf H1 [(41, 37), (34, 30)]) H1.objs.size h1 m0 ∧ News (ghostOf H1 [(41, 37), (34, 30)]) H1.objs.size h1 led) ⟨H1, gn1, dr1, tq1, os1⟩) ?_ ?_ (fun _ _ e => e)
      · clear F8 N8
        subst hm0 hled
        have mk : Marker := trivial
        k_steps
        all_goals rename Fr _ _ _ _ => F9
        all_goals rename News _ _ _ _ => N9
        all_goals refine JoinV.intro ⟨_, _, rfl, ?_, ?_, F9, N9⟩
        · right; simp; walk_at "mine om"
        · have : (2 : Int) ^ Int.toNat 45 = 35184372088832 := by decide
          walk_at "mine om"
        · left; simp; walk_at "mine om"
        · have : (2 : Int) ^ Int.toNat 45 = 35184372088832 := by decide
          walk_at "mine om"
      · clear F7 N7
        rintro v s₂ ⟨h3, tk3, rfl, K, tK, rfl, hK, hKb, F3, N3⟩
        have hK0 : K ≠ 0 := by walk_at "mine om"
        replace hK : Hide (2 ^ 45 ≤ K ∨ K ≤ -2 ^ 45) := hK
        subst hm0 hled
        clear F8 N8
        dsimp only
        k_steps
        walk_at "mine cell"
        intro c3 t3 hp3 tk3 F3 N3 lo3 hi3
        dsimp only
        k_steps
        walk_at "mine cell"
        intro c4 t4 hp4 tk4 F4 N4 lo4 hi4
        dsimp only
        k_steps
        have hW1 := turnOk hpr hx1 hK hKb (pw10 hpr)
        have hW2 := turnOk hpr hx1 hK hKb (pw64 hpr)
        have m1 := hW1.m1
        have m2 := hW1.m2
        have m3 := hW1.m3
        have m4 := hW1.m4
        k_steps
        unfold Hold
        refine For_invV (ghostOf H1 [(41, 37), (34, 30)]) (by rfl) (by rfl) ?_
        k_steps
        unfold Hold
        rename Fr _ _ _ _ => F7
        rename News _ _ _ _ => N7
        refine with_map F7 (fun m0 hm0 F8 => with_led N7 (fun lt ot lp oR oJ oP q1 q2 q3 q4 q5 q6 N8 => ?_))
        subst q1 q3
        have hoff0 : Off tl [lt, lp, H1.objs.size + 1 + 1 + 1, H1.objs.size + 1 + 1, H1.objs.size + 1] := by
          walk_at "mine split"
          have a0 : Off tl [] := fun _ h => nomatch h
          refine ((((a0.more ?_).more ?_).more ?_).more ?_).more ?_
          all_goals first | exact ne_of_allLt (by with_reducible assumption) (Nat.le_refl _) | exact ne_of_allLt hLt (by walk_at "mine om")
        have hlt0 : lp ≠ lt := by
          show @Ne Nat lp lt
          walk_at "mine om"
        obtain ⟨ta, tb, hot⟩ : ∃ ta tb, ot = tupO [Value.int (10 ^ Int.toNat (2 * Int.fdiv pr 2)) ta, .int (64 ^ Int.toNat (Int.fdiv pr 2)) tb].toArray 0 := ⟨_, _, q2⟩
        refine loop_tup (vs := [Value.int (10 ^ Int.toNat (2 * Int.fdiv pr 2)) ta, .int (64 ^ Int.toNat (Int.fdiv pr 2)) tb]) (nn := 0) (fun i m nx => ∃ tl' vq nq, nx = (lt, ot) :: (lp, W.listOf vq.toArray nq) :: (H1.objs.size + 1 + 1 + 1, oR) :: (H1.objs.size + 1 + 1, oJ) :: (H1.objs.size + 1, oP) :: tl' ∧ Tabs tl' ∧ Off tl' [lt, lp, H1.objs.size + 1 + 1 + 1, H1.objs.size + 1 + 1, H1.objs.size + 1] ∧ IntsAre vq ([per x1 pr (10 ^ Int.toNat (2 * Int.fdiv pr 2)), per x1 pr (64 ^ Int.toNat (Int.fdiv pr 2))].take i) ∧
            ∀ z, z ≠ Str.ofString "power" → z ≠ Str.ofString "quotient" → z ≠ Str.ofString "rest" → z ≠ Str.ofString "whole" → z ≠ Str.ofString "period" → m z = m0 z) rfl F8 N8 ?_ ?_ ?_ ?_ ?_
        · rw [hot]
          exact List.mem_cons_self
        · exact ⟨tl, [], 0, rfl, hTabs, hoff0, .nil, fun _ _ _ _ _ _ => rfl⟩
        · rintro i m nx ⟨tl', vq, nq, rfl, _⟩
          rw [hot]
          exact List.mem_cons_self
        · rintro i v m1 nx h9 tk9 I oI hi hv ⟨tl1, vq, nq, rfl, hT1, hO1, hI1, hmz⟩ hoff F9 N9
          obtain ⟨P, tP, rfl, hPok, hW, htake⟩ : ∃ P tP, v = .int P tP ∧ PwOk pr P ∧ TurnOk x1 K pr P ∧ ([per x1 pr (10 ^ Int.toNat (2 * Int.fdiv pr 2)), per x1 pr (64 ^ Int.toNat (Int.fdiv pr 2))].take (i + 1)) = ([per x1 pr (10 ^ Int.toNat (2 * Int.fdiv pr 2)), per x1 pr (64 ^ Int.toNat (Int.fdiv pr 2))].take i) ++ [per x1 pr P] := by
            have hi2 : i = 0 ∨ i = 1 := by
              have : i < 2 := hi
              walk_at "mine om"
            rcases hi2 with rfl | rfl
            · exact ⟨_, _, (Option.some.inj hv).symm, pw10 hpr, hW1, rfl⟩
            · exact ⟨_, _, (Option.some.inj hv).symm, pw64 hpr, hW2, rfl⟩
          have F10 := fr_eq F9 (m' := fun z => if z = Str.ofString "power" then some (.int P tP) else if z = Str.ofString "quotient" then m1 z else if z = Str.ofString "rest" then m1 z else if z = Str.ofString "whole" then m1 z else if z = Str.ofString "period" then m1 z else m0 z) (fun z => by
            by_cases a1 : z = Str.ofString "power"
            · simp only [if_pos a1]
            · simp only [if_neg a1]
              by_cases a2 : z = Str.ofString "quotient"
              · rw [if_pos a2]
              · rw [if_neg a2]
                by_cases a3 : z = Str.ofString "rest"
                · rw [if_pos a3]
                · rw [if_neg a3]
                  by_cases a4 : z = Str.ofString "whole"
                  · rw [if_pos a4]
                  · rw [if_neg a4]
                    by_cases a5 : z = Str.ofString "period"
                    · rw [if_pos a5]
                    · rw [if_neg a5]; exact hmz z a1 a2 a3 a4 a5)
          clear F9 F8 F7 N7 m2
          subst hm0 q4 q5 q6
          have m2 := hW.m2
          k_steps
          unfold Hold
          refine intdivmod3 _ _ _ _ _ _ _ _ _ _ _ _ _ _ [(I, oI), (lt, ot), (lp, W.listOf vq.toArray nq), (H1.objs.size + 1 + 1 + 1, oR), (H1.objs.size + 1 + 1, oJ), (H1.objs.size + 1, oP)] tl1 _ _ _ _ _ _ _ (by assumption) (by assumption) (by assumption) (by assumption) (by assumption) rfl (by assumption) (by assumption) hT1 (Off.apart (hO1.more (fun p hp => hoff p (.tail _ (.tail _ (.tail _ (.tail _ (.tail _ hp)))))))) (by decide) (by decide) hW.nz hW.ab hW.b2 ?_
          intro D1 u1 u2 cc1 tl2 h2 tk2 F2 N2 hT2 hD2 hA2
          rw [(plainA (by walk_at "mine om") hPok (by walk_at "mine om")).1, (plainA (by walk_at "mine om") hPok (by walk_at "mine om")).2] at N2
          simp only [List.cons_append, List.nil_append] at N2
          simp only [List.cons_append, List.nil_append, AllLt] at hD2
          have hO2 := Off.of hA2
          dsimp only
          k_steps
          unfold Hold
          rename News _ _ _ _ => N7
          have N8 := news_sub (l' := (I, oI) :: (lt, ot) :: (lp, W.listOf vq.toArray nq) :: (H1.objs.size + 1 + 1 + 1, oR) :: (H1.objs.size + 1 + 1, oJ) :: (H1.objs.size + 1, oP) :: tl2) N7 (by walk_at "mine sub")
          clear N7
          refine intdivmod3 _ _ _ _ _ _ _ _ _ _ _ _ _ _ [(I, oI), (lt, ot), (lp, W.listOf vq.toArray nq), (H1.objs.size + 1 + 1 + 1, oR), (H1.objs.size + 1 + 1, oJ), (H1.objs.size + 1, oP)] tl2 _ _ _ _ _ _ _ (by assumption) (by assumption) (by assumption) (by assumption) (by assumption) rfl (by assumption) (by assumption) hT2 (Off.apart hO2) (by decide) (by decide) hW.pn hW.qb hPok.le ?_
          intro D2 u3 u4 cc2 tl3 h4 tk4 F4 N4 hT3 hD3 hA3
          rw [(plainB (by walk_at "mine om") hPok).1, (plainB (by walk_at "mine om") hPok).2] at N4
          simp only [List.cons_append, List.nil_append] at N4
          simp only [List.cons_append, List.nil_append, AllLt] at hD3
          have hO3 := Off.of hA3
          have f3 : ∀ p ∈ tl3, p.1 ≠ lp := hO3 lp (by simp)
          have f4 : @Ne Nat lp I := hoff _ (.tail _ (.head _))
          have f5 : @Ne Nat lp lt := hlt0
          have f6 : vq.length ≤ 2 := by
            have := hI1.length
            simp only [List.length_take, List.length_cons, List.length_nil] at this
            walk_at "mine om"
          dsimp only
          k_steps
          all_goals first | contradiction | skip
          rename Fr _ _ _ _ => F9
          rename News _ _ _ _ => N9
          simp only [List.push_toArray] at N9
          refine TurnPost.intro F9 (news_sub N9 (by walk_at "mine sub")) ?_ ?_ rfl rfl rfl
          · exact List.forall_mem_cons.mpr ⟨hoff _ (.head _), List.forall_mem_cons.mpr ⟨(show lp ≠ I from f4), List.forall_mem_cons.mpr ⟨hoff _ (.tail _ (.tail _ (.head _))), List.forall_mem_cons.mpr ⟨hoff _ (.tail _ (.tail _ (.tail _ (.head _)))), List.forall_mem_cons.mpr ⟨hoff _ (.tail _ (.tail _ (.tail _ (.tail _ (.head _))))), hO3 I (by simp)⟩⟩⟩⟩⟩
          refine ⟨tl3, _, _, rfl, hT3, hO3.sub (by simp), ?_, ?_⟩
          · rw [htake]
            exact IntsAre.append hI1 (.cons _ _ .nil)
          · intro z a1 a2 a3 a4 a5
            simp [a1, a2, a3, a4, a5]
        · rintro m1 nx h9 tk9 ⟨tl1, vq, nq, rfl, hT1, hO1, hI1, hmz⟩ F9 N9
          have F10 := fr_eq F9 (m' := fun z => if z = Str.ofString "power" then m1 z else if z = Str.ofString "quotient" then m1 z else if z = Str.ofString "rest" then m1 z else if z = Str.ofString "whole" then m1 z else if z = Str.ofString "period" then m1 z else m0 z) (fun z => by
            by_cases a1 : z = Str.ofString "power"
            · rw [if_pos a1]
            · rw [if_neg a1]
              by_cases a2 : z = Str.ofString "quotient"
              · rw [if_pos a2]
              · rw [if_neg a2]
                by_cases a3 : z = Str.ofString "rest"
                · rw [if_pos a3]
                · rw [if_neg a3]
                  by_cases a4 : z = Str.ofString "whole"
                  · rw [if_pos a4]
                  · rw [if_neg a4]
                    by_cases a5 : z = Str.ofString "period"
                    · rw [if_pos a5]
                    · rw [if_neg a5]; exact hmz z a1 a2 a3 a4 a5)
          clear F9 F8 F7 N7 N8
          subst hm0 q4 q5 q6
          dsimp only
          rename_i y1_0 y1_1 y1_2 y1_3 y1_4 y1_5 y1_6 y1_7 y1_8 y1_10 y1_11 y1_13 y1_14 y1_15 y1_16 y1_17 y1_18 y1_19 y1_21 y1_22 y1_23 y1_24 y1_25 y1_26 y1_35
            y1_36 y1_37 y1_38 y1_39 y1_41 y1_42 y1_43 y1_44 y1_45 y1_46 y1_48 y1_49 y1_50 y1_51 y1_52 y1_53 y1_54 y1_55 y1_56 y1_57 y1_58 y1_60 y1_62 y1_72 y1_73
            y1_74 y1_76 y1_77 y1_78 y1_79 y1_80 y1_81 y1_85 y1_86 y1_87 y1_88 y1_95 y1_96 y1_109 y1_110 y1_112 y1_118 y1_119 y1_126 y1_127 y1_128 y1_129 y1_130
            y1_131 y1_138 y1_139 y1_140 y1_141 y1_142 y1_143 y1_144 y1_145 y1_146 y1_147 y1_151 y1_155 y1_163 y1_164 y1_182 y1_183 y1_184 y1_185
          revert hlay y1_39 y1_56 y1_57 y1_58 codeHd y1_62 hQ0 hQ1 hE1 y1_74 hpr hp1 y1_85 hxp lo3 hi3 lo4 hi4 hW1 hW2 m2 m3 m4 q2 y1_163 y1_164 hot hT1 hO1 hI1 N9
            hmz F10 y1_182 y1_184 y1_185
          kjx_bare
          revert y1_0 y1_1 y1_2 y1_3 y1_4 y1_6 y1_7 y1_8 ns y1_17 Q0 Q1 E1 H1 gn1 dr1 tq1 os1 tl y1_72 y1_81 pr y1_86 y1_87 x0 t0 x1 t1 f0 t2 K tK c3 y1_126 y1_128
            y1_129 y1_130 c4 y1_138 y1_140 y1_141 y1_142 y1_143 tk lt ot lp oR oJ oP ta tb m1 h9 tk9 tl1 vq nq
          exact hKept.of
local macro_rules | `(tactic| walk_at "binaryOp Add str str") => `(tactic| ((with_reducible show wpAny _ _ (binaryOp Operator.Add (Value.str _ _) (Value.str _ _)) _ _ _); (refine KOpn.add (by omega) ?_); intro _ _ _))
local macro_rules | `(tactic| walk_at "binaryOp Mult str int") => `(tactic| ((with_reducible show wpAny _ _ (binaryOp Operator.Mult (Value.str _ _) (Value.int _ _)) _ _ _); (refine SB.mul (by with_reducible assumption) ?_); intro _ _))
theorem fillmeW2 : (fun (_:OpenLaw) (_ : Params → Frag) => True) PySem.Challenge.rw_un0010_01 hd.heap_1 := by
  k_fill
  trivial
theorem cellData {o : Obj} {v w : Value} (h : o.data = .cell (some v)) (e : v = w) : o.data = .cell (some w) := e ▸ h
noncomputable def s2 : {P : Prop // Kept P → s1.val} := by
  refine' ⟨_, fun hKept => ?_⟩
  case refine'_2 =>
    intro y1_0 y1_1 y1_2 y1_3 y1_4 y1_6 y1_7 y1_8 ns y1_17 Q0 Q1 E1 H1 gn1 dr1 tq1 os1 tl y1_72 y1_81 pr y1_86 y1_87 x0 t0 x1 t1 f0 t2 K tK c3 y1_126 y1_128 y1_129
      y1_130 c4 y1_138 y1_140 y1_141 y1_142 y1_143 tk lt ot lp oR oJ oP ta tb m1 h9 tk9 tl1 vq nq hlay y1_39 y1_56 y1_57 y1_58 codeHd y1_62 hQ0 hQ1 hE1 y1_74 hpr
      hp1 y1_85 hxp lo3 hi3 lo4 hi4 hW1 hW2 m2 m3 m4 q2 y1_163 y1_164 hot hT1 hO1 hI1 N9 hmz F10 y1_182 y1_184 y1_185
    obtain ⟨pn, rfl⟩ : ∃ pn : Nat, pr = (pn : Int) := ⟨pr.toNat, (Int.toNat_of_nonneg (by walk_at "mine om")).symm⟩
    obtain ⟨hpn, hpA, hpB, hodd⟩ := hide_nat hpr
    obtain ⟨r, hr⟩ : ∃ r : Nat, x1 % (pn : Int) = (r : Int) := ⟨(x1 % (pn : Int)).toNat, (Int.toNat_of_nonneg (Int.emod_nonneg _ (by walk_at "mine om"))).symm⟩
    have hr0 : 0 < r := by walk_at "mine om"
    have hrp : r < pn := by
      have := Int.emod_lt_of_pos x1 (show (0 : Int) < pn by walk_at "mine om")
      walk_at "mine om"
    have hI2 : IntsAre vq [((per10 pn r : Nat) : Int), ((per64 pn r : Nat) : Int)] := by
      have h1 := per10_is (x := x1) hpr
      have h2 := per64_is (x := x1) hpr
      rw [hr, Int.toNat_natCast, Int.toNat_natCast] at h1 h2
      rw [h1, h2] at hI1
      exact hI1
    have hn10 := per10_lt hpn hrp
    have hn64 := per64_lt hpn hrp
    clear hI1
    obtain ⟨hf, hhf⟩ : ∃ hf : Nat, (pn : Int).fdiv 2 = (hf : Int) := ⟨pn / 2, by rw [fdiv_pos (by decide)]; walk_at "mine om"⟩
    have hhf2 : hf = pn / 2 := by
      rw [fdiv_pos (by decide)] at hhf
      walk_at "mine om"
    have hfA : 2 * hf + 1 = pn := by walk_at "mine om"
    obtain ⟨dd, hdd⟩ : ∃ dd : Nat, (if c4 < 0 then -c4 else c4) = (dd : Int) := ⟨_, (Int.toNat_of_nonneg (by split <;> walk_at "mine om")).symm⟩
    obtain ⟨M, hM⟩ : ∃ M : Nat, (192 + (dd : Int).fmod 50000).toNat = M := ⟨_, rfl⟩
    obtain ⟨Wd, hW⟩ : ∃ Wd : Nat, (192 + ((dd : Int) + 1).fmod 50000).toNat = Wd := ⟨_, rfl⟩
    obtain ⟨hM1, hW1', hMW⟩ : 192 ≤ M ∧ 192 ≤ Wd ∧ Wd ≠ M := by
      rw [fmod_pos (by decide)] at hM hW
      walk_at "mine om"
    replace hMW : Hide (Wd ≠ M) := hMW
    replace hM : Hide ((192 + (dd : Int).fmod 50000).toNat = M) := hM
    replace hW : Hide ((192 + ((dd : Int) + 1).fmod 50000).toNat = Wd) := hW
    obtain ⟨ch, hch⟩ : ∃ ch : Nat, (if c3 < 0 then -c3 else c3) = (ch : Int) := ⟨_, (Int.toNat_of_nonneg (by split <;> walk_at "mine om")).symm⟩
    rename (oP.data = _) => hdP
    rename (oJ.data = _) => hdJ
    rw [hch] at hdJ F10
    rw [hdd] at F10
    rw [show _ = M from hM, show _ = Wd from hW, hhf] at F10
    clear hch hdd
    obtain ⟨jn, hjn, hjn2⟩ : ∃ jn : Nat, 1 + 2 * (ch : Int).fmod 5 = (jn : Int) ∧ Hide (jn = 1 ∨ jn = 3 ∨ jn = 5 ∨ jn = 7 ∨ jn = 9) := by
      unfold Hide
      rw [fmod_pos (by decide)]
      exact ⟨(1 + 2 * ((ch : Int) % 5)).toNat, by walk_at "mine om", by walk_at "mine om"⟩
    obtain ⟨mn, hmn, hmn1, hmn2⟩ : ∃ mn : Nat, 1 + ((ch : Int).fdiv 5).fmod 4 = (mn : Int) ∧ 1 ≤ mn ∧ mn ≤ 4 := by
      rw [fmod_pos (by decide)]
      exact ⟨(1 + (((ch : Int).fdiv 5) % 4)).toNat, by walk_at "mine om", by walk_at "mine om", by walk_at "mine om"⟩
    rw [hjn] at hdJ
    rw [hmn] at F10
    clear hjn hmn
    obtain ⟨hjA, hjB⟩ := hide_j hjn2
    have hlog : ((per10 pn r : Nat) : Int).natAbs.log2 < 1920 := by
      rw [Int.natAbs_natCast]
      have h1 : (10 : Nat) ^ (pn - 1) ≤ 10 ^ 58 := Nat.pow_le_pow_right (by decide) (by walk_at "mine om")
      have h2 : (10 : Nat) ^ 58 < 2 ^ 1920 := by decide +kernel
      by_cases h0 : per10 pn r = 0
      · rw [h0]; decide
      · exact (Nat.log2_lt h0).mpr (by walk_at "mine om")
    clear m2 m3 m4 hW1 hW2 hmz hpr lo4 hi4 lo3 hi3 hxp
    k_steps
    show wpAny _ _ (call (.type "str") [.int ((per10 pn r : Nat) : Int) _]) _ _ _
    refine P.str_of_int hlog ?_
    obtain ⟨fs, hfs⟩ : ∃ fs : Str, fs = Str.ofString (toString ((per10 pn r : Nat) : Int)) := ⟨_, rfl⟩
    rw [← hfs]
    have hfl : fs.length ≤ pn - 1 := by
      rw [hfs]
      exact num_len (by walk_at "mine om") hn10
    have hfl2 : fs.length ≤ 58 := by walk_at "mine om"
    k_steps
    rename_i y2_42 y2_114 y2_119 y2_120 y2_121 y2_122 y2_123 y2_124 y2_125 y2_126 y2_127 y2_128 y2_129 y2_130 y2_131 y2_132 y2_133 y2_134 y2_135 y2_136 y2_137
    revert hlay y1_39 y1_56 y1_57 y1_58 codeHd y1_62 hQ0 hQ1 hE1 y1_74 y1_163 y1_164 hT1 hO1 y1_182 hp1 y1_85 q2 hot hdP hpn hpA hpB hodd hr hr0 hrp hI2 hn10 hn64
      hhf hhf2 hfA hM1 hW1' hMW hdJ hjn2 hmn1 hmn2 hjA hjB hfs hfl y2_127 y2_134 y2_136 y2_137
    kjx_bare
    revert y1_0 y1_1 y1_2 y1_3 y1_4 y1_6 y1_7 y1_8 ns y1_17 Q0 Q1 E1 H1 gn1 dr1 tq1 os1 tl y1_72 y1_81 y1_86 y1_87 x0 t0 x1 t1 f0 t2 K tK y1_126 y1_128 y1_129
      y1_130 y1_138 y1_140 y1_141 y1_142 y1_143 y2_42 lt ot lp oR oJ oP ta tb m1 h9 tk9 tl1 vq nq pn r hf dd M Wd ch jn mn fs y2_128 y2_132 y2_135 tk
    exact hKept.of
theorem fillmeW3 : (fun (_:OpenLaw) (_ : Params → Frag) => True) PySem.Challenge.rw_un0010_01 hd.heap_1 := by
  k_fill
  trivial
noncomputable def s3 : {P : Prop // Kept P → s2.val} := by
  refine' ⟨_, fun hKept => ?_⟩
  case refine'_2 =>
    intro y1_0 y1_1 y1_2 y1_3 y1_4 y1_6 y1_7 y1_8 ns y1_17 Q0 Q1 E1 H1 gn1 dr1 tq1 os1 tl y1_72 y1_81 y1_86 y1_87 x0 t0 x1 t1 f0 t2 K tK y1_126 y1_128 y1_129
      y1_130 y1_138 y1_140 y1_141 y1_142 y1_143 y2_42 lt ot lp oR oJ oP ta tb m1 h9 tk9 tl1 vq nq pn r hf dd M Wd ch jn mn fs y2_128 y2_132 y2_135 tk hlay y1_39
      y1_56 y1_57 y1_58 codeHd y1_62 hQ0 hQ1 hE1 y1_74 y1_163 y1_164 hT1 hO1 y1_182 hp1 y1_85 q2 hot hdP hpn hpA hpB hodd hr hr0 hrp hI2 hn10 hn64 hhf hhf2 hfA hM1
      hW1' hMW hdJ hjn2 hmn1 hmn2 hjA hjB hfs hfl y2_127 y2_134 y2_136 y2_137
    unfold Hold
    refine For_invV (ghostOf H1 [(41, 37), (34, 30)]) (by rfl) (by rfl) ?_
    k_steps
    unfold Hold
    rename Fr _ _ _ _ => F7
    rename News _ _ _ _ => N7
    rename IsRange _ _ _ _ _ _ _ _ => R7
    have hfg := figOk (j := jn) (show 0 < pn - 1 by walk_at "mine om") hn10 hfs (z := 2 * (hf : Int) - (fs.length : Int)) (by walk_at "mine om") (J := (jn : Int)) rfl
    revert hfg F7
    generalize Txt.mul (Txt.mul (Str.ofString "0") (2 * (hf : Int) - (fs.length : Int)) ++ fs) (jn : Int) = fg
    intro F7 hfg
    refine with_led2 N7 (fun pl hpl N8 => ?_)
    have hpl1 : lp ≠ pl := by
      rw [hpl]
      walk_at "mine split"
      refine Nat.ne_of_lt ?_
      with_reducible assumption
    have hO2 : Off tl1 [pl, lp, H1.objs.size + 1 + 1 + 1, H1.objs.size + 1 + 1, H1.objs.size + 1] := by
      refine (hO1.sub (by simp)).more ?_
      rw [hpl]
      walk_at "mine split"
      exact ne_of_allLt (by with_reducible assumption) (Nat.le_refl _)
    rw [← hpl] at F7
    subst hpl
    refine with_map F7 (fun m0 hm0 F8 => ?_)
    clear N7 hn10
    have hsz : Builtin.Range.rangeSize 0 (hf : Int) 1 = (hf : Int) := by
      unfold Builtin.Range.rangeSize
      rw [if_pos (by decide), if_pos (by walk_at "mine om")]; walk_at "mine om"
    refine loop_range (n := hf) (fun i m nx => ∃ vs n, nx = (pl, W.listOf vs.toArray n) :: (lp, W.listOf vq.toArray nq) :: (H1.objs.size + 1 + 1 + 1, oR) :: (H1.objs.size + 1 + 1, oJ) :: (H1.objs.size + 1, oP) :: tl1 ∧ IntsAre vs (portsL pn r jn i) ∧
       ∀ z, z ≠ Str.ofString "turn" → z ≠ Str.ofString "piece" → z ≠ Str.ofString "reply" → z ≠ Str.ofString "host" → z ≠ Str.ofString "port" → m z = m0 z) rfl R7 (range_small hsz (by walk_at "mine om") (by walk_at "mine om") (by walk_at "mine om") (by walk_at "mine om")) hsz F8 N8 ⟨[], 0, rfl, .nil, fun _ _ _ _ _ _ => rfl⟩ ?_ ?_
    · rintro i ti m2 nx h10 tk10 I oI hi ⟨vs, nv, rfl, hIv, hmz⟩ hoff F9 N9
      rw [show (0 : Int) + (i : Int) * 1 = (i : Int) by walk_at "mine om"] at F9
      have F11 := fr_eq F9 (m' := fun z => if z = Str.ofString "turn" then some (.int (i : Int) ti) else if z = Str.ofString "piece" then m2 z else if z = Str.ofString "reply" then m2 z else if z = Str.ofString "host" then m2 z else if z = Str.ofString "port" then m2 z else m0 z) (fun z => by
            by_cases a1 : z = Str.ofString "turn"
            · simp only [if_pos a1]
            · simp only [if_neg a1]
              by_cases a2 : z = Str.ofString "piece"
              · rw [if_pos a2]
              · rw [if_neg a2]
                by_cases a3 : z = Str.ofString "reply"
                · rw [if_pos a3]
                · rw [if_neg a3]
                  by_cases a4 : z = Str.ofString "host"
                  · rw [if_pos a4]
                  · rw [if_neg a4]
                    by_cases a5 : z = Str.ofString "port"
                    · rw [if_pos a5]
                    · rw [if_neg a5]; exact hmz z a1 a2 a3 a4 a5)
      clear F9 F8 F7
      subst hm0
      have hk1 : IntMulOk (2 * (jn : Int)) (i : Int) := .of_le (m := 10) (n := 10) (intBits_le_iff.mpr (by walk_at "mine om")) (intBits_le_iff.mpr (by walk_at "mine om")) (by decide)
      have hk2 : IntMulOk (2 * (jn : Int)) ((i : Int) + 1) := .of_le (m := 10) (n := 10) (intBits_le_iff.mpr (by walk_at "mine om")) (intBits_le_iff.mpr (by walk_at "mine om")) (by decide)
      have g1 : (Str.ofString "229 ").length = 4 := by decide +kernel
      have g2 : (Str.ofString "(").length = 1 := by decide +kernel
      have g3 : (Str.ofString ")").length = 1 := by decide +kernel
      have g4 : (⟨#[M]⟩ : Str).length = 1 := rfl
      have g5 : (⟨#[Wd]⟩ : Str).length = 1 := rfl
      have hfsz : fg.length ≤ sizeLine := by
        rw [hfg.len, PySem.sizeLine_eq]
        have := Nat.mul_le_mul (show pn - 1 ≤ 58 by walk_at "mine om") (show jn ≤ 9 by walk_at "mine om")
        walk_at "mine om"
      have hips : i < pn / 2 := by walk_at "mine om"
      have g6 : (Txt.slice fg (some (2 * (jn : Int) * (i : Int))) (some (2 * (jn : Int) * ((i : Int) + 1)))).length = 2 * jn := by
        rw [piece_slice hfg hodd hips]
        show (pieceL fg jn i).toArray.size = _
        rw [List.size_toArray, piece_len hfg hodd hips]
      k_steps
      unfold Hold
      refine parse229 _ _ _ _ _ _ _ _ _ _ _ _ _ _ _ _ _ _ _ M Wd (pieceL fg jn i) _ _ _ _ _ _ _ (by assumption) (by assumption) (by assumption) (by assumption) (by assumption) rfl (by decide) (by decide) hM1 hW1' hMW (piece_dig hfg) ?_ ?_ ?_ ?_
      · rw [piece_len hfg hodd hips]; walk_at "mine om"
      · rw [piece_len hfg hodd hips]; walk_at "mine om"
      · rw [piece_slice hfg hodd hips]; exact reply_is
      · intro D u1 u2 cc1 h2 tk2 F2 N2 hD2
        rw [piece_val hfg hodd hips] at N2
        dsimp only
        have mk : Marker := trivial
        k_steps
        · rename ((_ != _) = true) => hne
          simp at hne
        simp only [AllLt] at hD2
        have f1 : @Ne Nat pl I := hoff _ (.head _)
        have f2 : ∀ p ∈ tl1, p.1 ≠ pl := hO2 pl (by simp)
        have f3 : @Ne Nat lp pl := hpl1
        have f4 : @Ne Nat pl D := Nat.ne_of_lt (hD2.2.2.1)
        have f5 : vs.length ≤ 29 := by
          have := hIv.length
          unfold portsL at this
          rw [List.length_map, List.length_range] at this
          walk_at "mine om"
        walk_at "mine split"
        k_steps
        rename Fr _ _ _ _ => F9
        rename News _ _ _ _ => N9
        simp only [List.push_toArray] at N9
        try dsimp only
        refine TurnPost.intro F9 (news_sub N9 (by walk_at "mine sub")) ?_ ?_ rfl rfl rfl
        · exact List.forall_mem_cons.mpr ⟨f1, fun p hp => hoff p (.tail _ hp)⟩
        refine ⟨_, _, rfl, ?_, ?_⟩
        · rw [portsL_succ]
          exact IntsAre.append hIv (.cons _ _ .nil)
        · intro z a1 a2 a3 a4 a5
          simp [a1, a2, a3, a4, a5]
    · rintro m2 nx h10 tk10 ⟨vs, nv, rfl, hIv, hmz⟩ F9 N9
      have F11 := fr_eq F9 (m' := fun z => if z = Str.ofString "turn" then m2 z else if z = Str.ofString "piece" then m2 z else if z = Str.ofString "reply" then m2 z else if z = Str.ofString "host" then m2 z else if z = Str.ofString "port" then m2 z else m0 z) (fun z => by
            by_cases a1 : z = Str.ofString "turn"
            · simp only [if_pos a1]
            · simp only [if_neg a1]
              by_cases a2 : z = Str.ofString "piece"
              · rw [if_pos a2]
              · rw [if_neg a2]
                by_cases a3 : z = Str.ofString "reply"
                · rw [if_pos a3]
                · rw [if_neg a3]
                  by_cases a4 : z = Str.ofString "host"
                  · rw [if_pos a4]
                  · rw [if_neg a4]
                    by_cases a5 : z = Str.ofString "port"
                    · rw [if_pos a5]
                    · rw [if_neg a5]; exact hmz z a1 a2 a3 a4 a5)
      clear F9 F8 F7 N8
      subst hm0
      dsimp only
      revert hlay y1_39 y1_56 y1_57 y1_58 codeHd y1_62 hQ0 hQ1 hE1 y1_74 y1_163 y1_164 hT1 y1_182 hp1 y1_85 q2 hot hdP hpn hpA hpB hodd hr hr0 hrp hI2 hn64 hhf
        hhf2 hfA hdJ hjn2 hmn1 hmn2 hjA hjB hfs hfl y2_127 hfg hO2 y2_134 hsz hIv N9 F11
      kjx_bare
      revert y1_0 y1_1 y1_2 y1_3 y1_4 y1_6 y1_7 y1_8 ns y1_17 Q0 Q1 E1 H1 gn1 dr1 tq1 os1 tl y1_72 y1_81 y1_86 y1_87 x0 t0 x1 t1 f0 t2 K tK y1_126 y1_128 y1_129
        y1_130 y1_138 y1_140 y1_141 y1_142 y1_143 y2_42 lt ot lp oR oJ oP ta tb m1 h9 tk9 tl1 vq nq pn r hf dd M Wd ch jn mn fs y2_128 fg pl m2 h10 tk10 vs nv
      exact hKept.of
local macro_rules | `(tactic| walk_at "call builtin:list.reverse") => `(tactic| (refine Hold.out ?_))
local macro_rules | `(tactic| walk_at "binaryOp Mult ref int") => `(tactic| (refine Hold.out ?_))
theorem fillmeW4 : (fun (_:OpenLaw) (_ : Params → Frag) => True) PySem.Challenge.rw_un0010_01 hd.heap_1 := by
  k_fill
  trivial
noncomputable def s4 : {P : Prop // Kept P → s3.val} := by
  refine' ⟨_, fun hKept => ?_⟩
  case refine'_2 =>
    intro y1_0 y1_1 y1_2 y1_3 y1_4 y1_6 y1_7 y1_8 ns y1_17 Q0 Q1 E1 H1 gn1 dr1 tq1 os1 tl y1_72 y1_81 y1_86 y1_87 x0 t0 x1 t1 f0 t2 K tK y1_126 y1_128 y1_129
      y1_130 y1_138 y1_140 y1_141 y1_142 y1_143 y2_42 lt ot lp oR oJ oP ta tb m1 h9 tk9 tl1 vq nq pn r hf dd M Wd ch jn mn fs y2_128 fg pl m2 h10 tk10 vs nv hlay
      y1_39 y1_56 y1_57 y1_58 codeHd y1_62 hQ0 hQ1 hE1 y1_74 y1_163 y1_164 hT1 y1_182 hp1 y1_85 q2 hot hdP hpn hpA hpB hodd hr hr0 hrp hI2 hn64 hhf hhf2 hfA hdJ
      hjn2 hmn1 hmn2 hjA hjB hfs hfl y2_127 hfg hO2 y2_134 hsz hIv N9 F11
    k_steps
    unfold Hold
    show wpAny _ _ (call (.ref 35) [.int ((per64 pn r : Nat) : Int) _, .int 6 _]) _ _ _
    have hb64 := bits64 hpn hr0 hrp
    refine int2digitsU _ _ _ _ _ _ _ _ _ _ _ _ _ _ _ [(pl, W.listOf vs.toArray nv), (lp, W.listOf vq.toArray nq), (H1.objs.size + 1 + 1 + 1, oR), (H1.objs.size + 1 + 1, oJ), (H1.objs.size + 1, oP)] tl1 _ _ _ _ _ _ _ (by assumption) (by assumption) (by assumption) (by assumption) (by assumption) rfl (by assumption) hT1 (Off.apart hO2) (by decide) (by decide) (by decide) (by decide) (by walk_at "mine om") (by walk_at "mine om") hf (by rw [hhf2]; exact kk64 hpn hr0 hrp) (by walk_at "mine om") (by walk_at "mine om") ?_ ?_
    · rw [hhf2, Int.toNat_natCast, show Int.toNat 6 = 6 from rfl]
      have e : ((2 ^ (6 * (pn / 2)) : Nat) : Int) = 2 ^ (6 * (pn / 2)) := Int.natCast_pow 2 _
      rw [← e, ← pow64]
      exact Int.ofNat_lt.mpr hn64
    intro dg vd cd2 tl2 h2 tk2 F2 N2 hT2 hId hDd hA2
    rw [Int.toNat_natCast, show Int.toNat 6 = 6 from rfl] at hId
    simp only [List.cons_append, List.nil_append] at N2
    simp only [AllLt] at hDd
    have hO3 := Off.of hA2
    dsimp only
    have hds : vd.toArray.size = hf := by
      rw [List.size_toArray, hId.length, digs_length]
    k_steps
    unfold Hold
    rename Fr _ _ _ _ => F7
    rename News _ _ _ _ => N7
    refine with_map F7 (fun m0 hm0 F8 => with_news N7 (fun led hled N8 => ?_))
    refine wpAny_mono (Q := Join (fun h1 => Fr (ghostOf H1 [(41, 37), (34, 30)]) H1.objs.size h1 m0 ∧ News (ghostOf H1 [(41, 37), (34, 30)]) H1.objs.size h1 led) ⟨H1, gn1, dr1, tq1, os1⟩) ?_ ?_ (fun _ _ e => e)
    · clear F8 N8
      subst hm0 hled
      have mk : Marker := trivial
      k_steps
      all_goals first | contradiction | skip
      rename Fr _ _ _ _ => F9
      rename News _ _ _ _ => N9
      exact Join.intro ⟨F9, N9⟩
    clear F7 N7
    rintro f s₂ ⟨rfl, h1, tk1, rfl, F3, N3⟩
    subst hm0 hled
    clear F8 N8
    dsimp only
    k_steps
    unfold Hold
    rename Fr _ _ _ _ => F9
    rename News _ _ _ _ => N9
    have f1 : ∀ p ∈ tl2, p.1 ≠ dg := hO3 dg (by simp)
    walk_at "mine split"
    have hvl : vd.length = hf := by rw [hId.length, digs_length]
    refine kl_reverse (l := vd.reverse) (n := cd2) (its := vd.toArray) F9 N9 rfl (by k_upd) ?_ ?_
    · show vd.length ≤ _
      rw [hvl, PySem.sizeLine_eq]; walk_at "mine om"
    intro h4 F4 N4
    clear F9 N9
    dsimp only
    k_steps
    unfold Hold
    rename News _ _ _ _ => N9
    refine KMa.mul (vs := vd.reverse) (ws := (List.replicate mn vd.reverse).flatten) (by assumption) N9 (News.isList N9 List.mem_cons_self) (by walk_at "mine om") (by walk_at "mine om") ?_ rfl ?_
    · rw [List.length_reverse, hvl, Int.toNat_natCast]
      have := Nat.mul_le_mul (show hf ≤ 29 by walk_at "mine om") hmn2
      walk_at "mine om"
    intro dm h5 F5 N5 l5
    have hIm : IntsAre (List.replicate mn vd.reverse).flatten (List.replicate mn (digs 6 hf (per64 pn r : Nat)).reverse).flatten := KM.ints_rep (ints_reverse hId) mn
    dsimp only
    have hk3 : IntMulOk (hf : Int) (mn : Int) := .of_le (m := 10) (n := 10) (intBits_le_iff.mpr (by walk_at "mine om")) (intBits_le_iff.mpr (by walk_at "mine om")) (by decide)
    have hdm : ∀ k, k < hf * mn → (List.replicate mn (digs 6 hf (per64 pn r : Nat)).reverse).flatten.getD k 0 = ((fig hf (per64 pn r) k : Nat) : Int) := fun k hk => by
      rw [List.getD_eq_getElem?_getD, digM hk]; rfl
    have hdl : (List.replicate mn (digs 6 hf (per64 pn r : Nat)).reverse).flatten.length = hf * mn := by
      rw [flat_len2, List.length_reverse, digs_length]
    revert hIm hdm hdl N5
    generalize (List.replicate mn (digs 6 hf (per64 pn r : Nat)).reverse).flatten = dl
    generalize (List.replicate mn vd.reverse).flatten = vm
    intro N5 hIm hdm hdl
    k_steps
    rename_i y4_138 y4_139 y4_140 y4_141 y4_142 y4_143 y4_144 y4_145 y4_146 y4_147 y4_148 y4_149 y4_150 y4_151 y4_152 y4_153 y4_154 y4_155 y4_156 y4_157 y4_158
      y4_159 y4_160 y4_161 y4_162 y4_163 y4_164 y4_176 y4_177 y4_178 y4_179 y4_180 y4_181 y4_182 y4_183
    revert hlay y1_39 y1_56 y1_57 y1_58 hQ0 hQ1 hE1 y1_182 hp1 y1_85 q2 hot hdP hpn hpA hpB hodd hr hr0 hrp hI2 hn64 hhf hhf2 hfA hdJ hjn2 hmn1 hmn2 hjA hjB hfs
      hfl hfg hsz hIv hT2 hId hO3 hds y4_138 y4_139 y4_142 hvl l5 hk3 hIm hdm hdl y4_180 y4_182 y4_183
    kjx_bare
    revert y1_0 y1_1 y1_2 y1_3 y1_4 y1_6 y1_7 y1_8 ns y1_17 Q0 Q1 E1 H1 gn1 dr1 tq1 os1 y1_81 y1_86 y1_87 x0 t0 x1 t1 f0 t2 K tK y1_126 y1_128 y1_129 y1_130 y1_138
      y1_140 y1_141 y1_142 y1_143 y2_42 ot lp oR oJ oP ta tb m1 h9 tk9 vq nq pn r hf dd M Wd ch jn mn fs y2_128 fg pl m2 vs nv dg vd cd2 tl2 dm dl vm y4_178 y4_181
      tk
    exact hKept.of
theorem fillmeW5 : (fun (_:OpenLaw) (_ : Params → Frag) => True) PySem.Challenge.rw_un0010_01 hd.heap_1 := by
  k_fill
  trivial
theorem with_led3 {P : Prop} {g h : Heap} {L l1 l2 a3 a4 a5 a6 : Addr} {o1 o2 o3 o4 o5 o6 : Obj} {c1 c2 : Addr × Obj} {tl : List (Addr × Obj)} (N : News g L h ((l1, o1) :: (l2, o2) :: c1 :: (a3, o3) :: c2 :: (a4, o4) :: (a5, o5) :: (a6, o6) :: tl))
    (k : ∀ l1', l1' = l1 → News g L h ((l1', o1) :: (l2, o2) :: (a3, o3) :: (a4, o4) :: (a5, o5) :: (a6, o6) :: tl) → P) : P := by
  refine k _ rfl (fun p hp => N p ?_)
  simp only [List.mem_cons] at hp ⊢
  rcases hp with h | h | h | h | h | h | h <;> simp [h]
noncomputable def s5 : {P : Prop // Kept P → s4.val} := by
  refine' ⟨_, fun hKept => ?_⟩
  case refine'_2 =>
    intro y1_0 y1_1 y1_2 y1_3 y1_4 y1_6 y1_7 y1_8 ns y1_17 Q0 Q1 E1 H1 gn1 dr1 tq1 os1 y1_81 y1_86 y1_87 x0 t0 x1 t1 f0 t2 K tK y1_126 y1_128 y1_129 y1_130 y1_138
      y1_140 y1_141 y1_142 y1_143 y2_42 ot lp oR oJ oP ta tb m1 h9 tk9 vq nq pn r hf dd M Wd ch jn mn fs y2_128 fg pl m2 vs nv dg vd cd2 tl2 dm dl vm y4_178 y4_181
      tk hlay y1_39 y1_56 y1_57 y1_58 hQ0 hQ1 hE1 y1_182 hp1 y1_85 q2 hot hdP hpn hpA hpB hodd hr hr0 hrp hI2 hn64 hhf hhf2 hfA hdJ hjn2 hmn1 hmn2 hjA hjB hfs hfl
      hfg hsz hIv hT2 hId hO3 hds y4_138 y4_139 y4_142 hvl l5 hk3 hIm hdm hdl y4_180 y4_182 y4_183
    unfold Hold
    refine For_invV (ghostOf H1 [(41, 37), (34, 30)]) (by rfl) (by rfl) ?_
    k_steps
    unfold Hold
    rename Fr _ _ _ _ => F7
    rename News _ _ _ _ => N7
    rename IsRange _ _ _ _ _ _ _ _ => R7
    refine with_led3 N7 (fun ol hol N8 => ?_)
    rw [← hol] at F7
    subst hol
    have hl5 := allLt_of l5
    simp only [AllLt] at hl5
    clear l5
    walk_at "mine split"
    have hol1 : dm ≠ ol := by
      show @Ne Nat dm ol
      refine Nat.ne_of_lt ?_
      with_reducible assumption
    have hol2 : pl ≠ ol := by
      show @Ne Nat pl ol
      refine Nat.ne_of_lt ?_
      with_reducible assumption
    have hO4 : Off tl2 [ol, dm, pl, H1.objs.size + 1 + 1 + 1, H1.objs.size + 1 + 1, H1.objs.size + 1] := by
      walk_at "mine split"
      refine ((hO3.sub (bs := [pl, H1.objs.size + 1 + 1 + 1, H1.objs.size + 1 + 1, H1.objs.size + 1]) (by simp)).more ?_).more ?_
      · exact ne_of_allLt (by with_reducible assumption) (Nat.le_refl _)
      · exact ne_of_allLt (by with_reducible assumption) (Nat.le_refl _)
    refine with_map F7 (fun m0 hm0 F8 => ?_)
    clear N7
    have hszm : hf * mn ≤ 116 := Nat.mul_le_mul (show hf ≤ 29 by walk_at "mine om") hmn2
    have hmul : (hf : Int) * (mn : Int) = ((hf * mn : Nat) : Int) := by push_cast; rfl
    rw [hmul] at R7
    have hsz5 : Builtin.Range.rangeSize 0 ((hf * mn : Nat) : Int) 1 = ((hf * mn : Nat) : Int) := by
      unfold Builtin.Range.rangeSize
      rw [if_pos (by decide)]
      split <;> walk_at "mine om"
    refine loop_range (n := hf * mn) (fun i m nx => ∃ vo no, nx = (ol, W.listOf vo.toArray no) :: (dm, W.listOf vm.toArray 0) :: (pl, W.listOf vs.toArray nv) :: (H1.objs.size + 1 + 1 + 1, oR) :: (H1.objs.size + 1 + 1, oJ) :: (H1.objs.size + 1, oP) :: tl2 ∧ IntsAre vo (octsL hf (per64 pn r) mn dd i) ∧
       ∀ z, z ≠ Str.ofString "place" → z ≠ Str.ofString "octet" → m z = m0 z) rfl R7 (range_small hsz5 (by walk_at "mine om") (by walk_at "mine om") (by walk_at "mine om") (by walk_at "mine om")) hsz5 F8 N8 ⟨[], 0, rfl, .nil, fun _ _ _ => rfl⟩ ?_ ?_
    · rintro i ti m3 nx h10 tk10 I oI hi ⟨vo, no, rfl, hIo, hmz⟩ hoff F9 N9
      rw [show (0 : Int) + (i : Int) * 1 = (i : Int) by walk_at "mine om"] at F9
      have F11 := fr_eq F9 (m' := fun z => if z = Str.ofString "place" then some (.int (i : Int) ti) else if z = Str.ofString "octet" then m3 z else m0 z) (fun z => by
            by_cases a1 : z = Str.ofString "place"
            · simp only [if_pos a1]
            · simp only [if_neg a1]
              by_cases a2 : z = Str.ofString "octet"
              · rw [if_pos a2]
              · rw [if_neg a2]; exact hmz z a1 a2)
      clear F9 F8 F7
      subst hm0
      have mk : Marker := trivial
      have hil : (i : Int) < (dl.length : Int) := by rw [hdl]; walk_at "mine om"
      have hmz0 : (mn : Int) ≠ 0 := by walk_at "mine om"
      have f1 : @Ne Nat ol I := hoff _ (.head _)
      have f2 : ∀ p ∈ tl2, p.1 ≠ ol := hO4 ol (by simp)
      have f3 : @Ne Nat dm ol := hol1
      have f4 : @Ne Nat pl ol := hol2
      have f5 : vo.length ≤ 116 := by
        have := hIo.length
        rw [octsL_len] at this
        walk_at "mine om"
      have e1 : dl.getD ((i : Int)).toNat 0 = ((fig hf (per64 pn r) i : Nat) : Int) := by rw [Int.toNat_natCast]; exact hdm i hi
      have e2 : ((dd : Int) + (i : Int)).fmod 2 = (((dd + i) % 2 : Nat) : Int) := by rw [fmod_pos (by decide)]; walk_at "mine om"
      have e3 : ((i : Int) + 1).fmod (mn : Int) = (((i + 1) % mn : Nat) : Int) := by rw [fmod_pos (by walk_at "mine om")]; push_cast; rfl
      k_steps
      all_goals rename Fr _ _ _ _ => F9
      all_goals rename News _ _ _ _ => N9
      all_goals simp only [List.push_toArray] at N9
      all_goals refine TurnPost.intro F9 (news_sub N9 (by walk_at "mine sub")) ?_ ?_ rfl rfl rfl
      · exact List.forall_mem_cons.mpr ⟨f1, fun p hp => hoff p (.tail _ hp)⟩
      refine ⟨_, _, rfl, ?_, ?_⟩
      · rename (Int.fmod _ _ = 0) => h0
        rw [e3] at h0
        rw [octsL_succ, show ((octN hf (per64 pn r) mn dd i : Nat) : Int) = dl.getD ((i : Int)).toNat 0 + 128 * ((dd : Int) + (i : Int)).fmod 2 by
          rw [e1, e2]; unfold octN; rw [if_pos (by walk_at "mine om")]; push_cast; walk_at "mine om"]
        exact IntsAre.append hIo (.cons _ _ .nil)
      · intro z a1 a2
        simp [a1, a2]
      · exact List.forall_mem_cons.mpr ⟨f1, fun p hp => hoff p (.tail _ hp)⟩
      refine ⟨_, _, rfl, ?_, ?_⟩
      · rename (Int.fmod _ _ ≠ 0) => h0
        rw [e3] at h0
        rw [octsL_succ, show ((octN hf (per64 pn r) mn dd i : Nat) : Int) = dl.getD ((i : Int)).toNat 0 + 128 * ((dd : Int) + (i : Int)).fmod 2 + 64 by
          rw [e1, e2]; unfold octN; rw [if_neg (by walk_at "mine om")]; push_cast; walk_at "mine om"]
        exact IntsAre.append hIo (.cons _ _ .nil)
      · intro z a1 a2
        simp [a1, a2]
    · rintro m3 nx h10 tk10 ⟨vo, no, rfl, hIo, hmz⟩ F9 N9
      have F11 := fr_eq F9 (m' := fun z => if z = Str.ofString "place" then m3 z else if z = Str.ofString "octet" then m3 z else m0 z) (fun z => by
            by_cases a1 : z = Str.ofString "place"
            · rw [if_pos a1]
            · rw [if_neg a1]
              by_cases a2 : z = Str.ofString "octet"
              · rw [if_pos a2]
              · rw [if_neg a2]; exact hmz z a1 a2)
      clear F9 F8 F7 N8
      subst hm0
      dsimp only
      rename_i y5_138 y5_139 y5_140 y5_141 y5_142 y5_143 y5_144 y5_145 y5_146 y5_147 y5_148 y5_149
      revert y1_39 y1_56 y1_57 y1_58 hQ0 hQ1 hE1 y1_182 hp1 y1_85 q2 hot hdP hpn hpA hpB hodd hr hr0 hrp hI2 hn64 hhf hhf2 hfA hdJ hjn2 hmn1 hmn2 hjA hjB hfs hfl
        hfg hsz hIv hT2 hId hds y4_138 y4_139 y4_142 hvl hdm y5_138 y5_146 hO4 hIo N9 F11
      kjx_bare
      revert y1_0 y1_1 y1_2 y1_3 y1_4 y1_6 y1_7 y1_8 ns y1_17 Q0 Q1 E1 H1 gn1 dr1 tq1 os1 y1_81 y1_86 y1_87 x0 t0 x1 t1 f0 t2 K tK y1_126 y1_128 y1_129 y1_130
        y1_138 y1_140 y1_141 y1_142 y1_143 y2_42 ot lp oR oJ oP ta tb m1 h9 tk9 vq pn r hf dd M Wd ch jn mn fs y2_128 fg pl m2 vs nv dg vd tl2 dm dl vm ol m3 h10
        tk10 vo no
      exact hKept.of
local macro_rules | `(tactic| walk_at "call builtin:iter") => `(tactic| (refine Hold.out ?_))
local macro_rules | `(tactic| walk_at "exec Assign cons ListComp") => `(tactic| (k_here; k_dflt (refine LCg.Assign_ListComp_U (F₀ := by k_asm) (by rfl) (by with_unfolding_all rfl) (by with_unfolding_all rfl) (by decide) (by rfl) (by decide) (by rfl) (by rfl) (by rfl) ?_)))
local macro_rules | `(tactic| walk_at "CompSrc") => `(tactic| (refine Hold.out ?_))
theorem fillmeW6 : (fun (_:OpenLaw) (_ : Params → Frag) => True) PySem.Challenge.rw_un0010_01 hd.heap_1 := by
  k_fill
  trivial
noncomputable def s6 : {P : Prop // Kept P → s5.val} := by
  refine' ⟨_, fun hKept => ?_⟩
  case refine'_2 =>
    intro y1_0 y1_1 y1_2 y1_3 y1_4 y1_6 y1_7 y1_8 ns y1_17 Q0 Q1 E1 H1 gn1 dr1 tq1 os1 y1_81 y1_86 y1_87 x0 t0 x1 t1 f0 t2 K tK y1_126 y1_128 y1_129 y1_130 y1_138
      y1_140 y1_141 y1_142 y1_143 y2_42 ot lp oR oJ oP ta tb m1 h9 tk9 vq pn r hf dd M Wd ch jn mn fs y2_128 fg pl m2 vs nv dg vd tl2 dm dl vm ol m3 h10 tk10 vo no
      y1_39 y1_56 y1_57 y1_58 hQ0 hQ1 hE1 y1_182 hp1 y1_85 q2 hot hdP hpn hpA hpB hodd hr hr0 hrp hI2 hn64 hhf hhf2 hfA hdJ hjn2 hmn1 hmn2 hjA hjB hfs hfl hfg hsz
      hIv hT2 hId hds y4_138 y4_139 y4_142 hvl hdm y5_138 y5_146 hO4 hIo N9 F11
    k_steps
    unfold Hold
    rename Fr _ _ _ _ => F9
    rename News _ _ _ _ => N9
    refine li_iter (its := vo.toArray) (n := no) F9 N9 (by k_mem) ?_
    intro it h4 F4 N4 lit
    clear F9 N9
    dsimp only
    simp only [AllLt] at lit
    walk_at "mine split"
    have f1 : ∀ p ∈ tl2, p.1 ≠ H1.objs.size + 1 + 1 + 1 := hO4 _ (by simp)
    k_steps
    unfold Hold
    rename Fr _ _ _ _ => F7
    rename News _ _ _ _ => N7
    rename IsRange _ _ _ _ _ _ _ _ => R7
    rename (_ = Data.cell (some (Value.ref it))) => hdR
    obtain ⟨oX, hdX, N8⟩ : ∃ oX : Obj, oX.data = Data.cell (some (Value.ref it)) ∧ News _ _ _ ((it, liO ol 0) :: (ol, W.listOf vo.toArray no) :: (dm, W.listOf vm.toArray 0) :: (pl, W.listOf vs.toArray nv) :: (H1.objs.size + 1 + 1 + 1, oX) :: (H1.objs.size + 1 + 1, oJ) :: (H1.objs.size + 1, oP) :: tl2) := ⟨_, hdR, N7⟩
    clear hdR N7
    have hti : ∀ p ∈ tl2, p.1 ≠ it := ne_of_allLt (by with_reducible assumption) (Nat.le_refl _)
    have hsz : Builtin.Range.rangeSize 0 (hf : Int) 1 = (hf : Int) := by
      unfold Builtin.Range.rangeSize
      rw [if_pos (by decide), if_pos (by walk_at "mine om")]; walk_at "mine om"
    refine LCg.CompSrc.range rfl F7 N8 R7 (range_small hsz (by walk_at "mine om") (by walk_at "mine om") (by walk_at "mine om") (by walk_at "mine om")) hsz (by rw [PySem.sizeLine_eq]; walk_at "mine om") (fun g9 => ?_)
    refine comp_ind (fun i ys nx => nx = (it, liO ol (i * mn)) :: (ol, W.listOf vo.toArray no) :: (dm, W.listOf vm.toArray 0) :: (pl, W.listOf vs.toArray nv) :: (H1.objs.size + 1 + 1 + 1, oX) :: (H1.objs.size + 1 + 1, oJ) :: (H1.objs.size + 1, oP) :: tl2 ∧ IntsAre ys (numsL hf (per64 pn r) mn i)) ⟨by rw [Nat.zero_mul], .nil⟩ ?_ ?_
    · rintro i ys nx v I oI C oC D m8 h10 tk10 E10 hi ⟨rfl, hIy⟩ ⟨t9, rfl⟩ hC9 hx9 F9 N9 off ne
      have hof : ∀ p ∈ (I, oI) :: (C, oC) :: (D, LCg.lst ys) :: (dm, W.listOf vm.toArray 0) :: (pl, W.listOf vs.toArray nv) :: (H1.objs.size + 1 + 1 + 1, oX) :: (H1.objs.size + 1 + 1, oJ) :: (H1.objs.size + 1, oP) :: tl2, p.1 ≠ it := by
        have o1 := off.1
        exact List.forall_mem_cons.mpr ⟨fun e => o1.1 e.symm, List.forall_mem_cons.mpr ⟨fun e => o1.2.1 e.symm, List.forall_mem_cons.mpr ⟨fun e => o1.2.2 e.symm, List.forall_mem_cons.mpr ⟨Nat.ne_of_lt (by with_reducible assumption), List.forall_mem_cons.mpr ⟨Nat.ne_of_lt (by with_reducible assumption), List.forall_mem_cons.mpr ⟨Nat.ne_of_lt (by with_reducible assumption), List.forall_mem_cons.mpr ⟨Nat.ne_of_lt (by with_reducible assumption), List.forall_mem_cons.mpr ⟨Nat.ne_of_lt (by with_reducible assumption), hti⟩⟩⟩⟩⟩⟩⟩⟩
      have hoi : ol ≠ it := Nat.ne_of_lt (by with_reducible assumption)
      have him := Nat.mul_le_mul_right mn (show i + 1 ≤ hf by walk_at "mine om")
      rw [Nat.succ_mul] at him
      k_steps
      unfold Hold
      have N10 := news_sub (l' := (it, liO ol (i * mn)) :: (ol, W.listOf vo.toArray no) :: (I, oI) :: (C, oC) :: (D, LCg.lst ys) :: (dm, W.listOf vm.toArray 0) :: (pl, W.listOf vs.toArray nv) :: (H1.objs.size + 1 + 1 + 1, oX) :: (H1.objs.size + 1 + 1, oJ) :: (H1.objs.size + 1, oP) :: tl2) N9 (by walk_at "mine sub")
      clear N9
      refine parsevarint _ _ _ _ _ _ _ _ _ _ _ _ _ _ _ _ _ _ it ol vo (octsL hf (per64 pn r) mn dd (hf * mn)) no (i * mn) mn (by assumption) F9 (by assumption) N10 (by assumption) rfl hof hoi hIo hmn1 (by walk_at "mine om") (by rw [octsL_len]; walk_at "mine om") (fun t ht => more_octs hi ht) (last_octs hi hmn1) (by decide) (by decide) ?_
      intro u1 h11 tk11 F11 N11
      rw [vv_octs mn (by walk_at "mine om"), show i * mn + mn = (i + 1) * mn by rw [Nat.succ_mul]] at *
      dsimp only
      k_steps
      refine LCg.CompEnd.intro F11 N11 ((it, liO ol ((i + 1) * mn)) :: (ol, W.listOf vo.toArray no) :: (dm, W.listOf vm.toArray 0) :: (pl, W.listOf vs.toArray nv) :: (H1.objs.size + 1 + 1 + 1, oX) :: (H1.objs.size + 1 + 1, oJ) :: (H1.objs.size + 1, oP) :: tl2) (by walk_at "mine sub") off trivial ⟨rfl, ?_⟩
      rw [numsL_succ]
      exact IntsAre.append hIy (.cons _ _ .nil)
    · rintro ys nx ⟨rfl, hIy⟩
      k_steps
      rename_i y6_112 y6_130 y6_131 y6_132 y6_133 y6_134 y6_135 y6_136 y6_138 y6_139 y6_140 y6_141 y6_143 y6_144 y6_145 y6_146 y6_147 y6_150 y6_159 y6_160 y6_161
        y6_162 y6_163 y6_164
      revert y1_39 y1_56 y1_57 y1_58 hQ0 hQ1 hE1 hp1 y1_85 q2 hot hdP hpn hpA hpB hodd hr hr0 hrp hI2 hn64 hhf hhf2 hfA hdJ hjn2 hmn1 hmn2 hjA hjB hfs hfl hfg
        y6_112 hIv hT2 hId hds y4_138 y4_139 hvl hdm hIo y6_130 y6_131 y6_132 y6_133 y6_134 y6_135 hdX hti hIy y6_162 y6_163 y6_164
      kjx_bare
      revert y1_0 y1_1 y1_2 y1_3 y1_4 y1_6 y1_7 y1_8 ns y1_17 Q0 Q1 E1 H1 gn1 dr1 tq1 os1 y1_81 y1_87 x0 t0 x1 t1 f0 t2 K tK y1_126 y1_128 y1_129 y1_138 y1_141
        y1_143 y2_42 ot lp oJ oP ta tb m1 tk9 vq pn r hf dd M Wd ch jn mn fs y2_128 fg pl m2 vs nv dg vd tl2 dm dl vm ol m3 vo no it oX ys y6_159 y6_160 y6_161
      exact hKept.of
section
local macro_rules | `(tactic| walk_at "eval ListComp") => `(tactic| (k_here; k_dflt (refine ListComp_S (Fz0 := by k_asm) (by rfl) (by decide) (by rfl) (by decide) (by rfl) ?_)))
theorem fillmeW7 : (fun (_:OpenLaw) (_ : Params → Frag) => True) PySem.Challenge.rw_un0010_01 hd.heap_1 := by
  k_fill
  trivial
noncomputable def s7 : {P : Prop // Kept P → s6.val} := by
  refine' ⟨_, fun hKept => ?_⟩
  case refine'_2 =>
    intro y1_0 y1_1 y1_2 y1_3 y1_4 y1_6 y1_7 y1_8 ns y1_17 Q0 Q1 E1 H1 gn1 dr1 tq1 os1 y1_81 y1_87 x0 t0 x1 t1 f0 t2 K tK y1_126 y1_128 y1_129 y1_138 y1_141 y1_143
      y2_42 ot lp oJ oP ta tb m1 tk9 vq pn r hf dd M Wd ch jn mn fs y2_128 fg pl m2 vs nv dg vd tl2 dm dl vm ol m3 vo no it oX ys y6_159 y6_160 y6_161 y1_39 y1_56
      y1_57 y1_58 hQ0 hQ1 hE1 hp1 y1_85 q2 hot hdP hpn hpA hpB hodd hr hr0 hrp hI2 hn64 hhf hhf2 hfA hdJ hjn2 hmn1 hmn2 hjA hjB hfs hfl hfg y6_112 hIv hT2 hId hds
      y4_138 y4_139 hvl hdm hIo y6_130 y6_131 y6_132 y6_133 y6_134 y6_135 hdX hti hIy y6_162 y6_163 y6_164
    rename Fr _ _ _ _ => F7
    rename News _ _ _ _ => N7
    rename (it ≠ _ ∧ _) => hoD
    obtain ⟨nl, hnlD, hnl, N8⟩ : ∃ nl : Addr, nl = _ ∧ @Ne Nat it nl ∧ News _ _ _ ((it, liO ol (hf * mn)) :: (ol, W.listOf vo.toArray no) :: (nl, LCg.lst ys) :: (dm, W.listOf vm.toArray 0) :: (pl, W.listOf vs.toArray nv) :: (H1.objs.size + 1 + 1 + 1, oX) :: (H1.objs.size + 1 + 1, oJ) :: (H1.objs.size + 1, oP) :: tl2) := ⟨_, rfl, hoD.1, news_sub N7 (by walk_at "mine sub")⟩
    have hoi : ol ≠ it := Nat.ne_of_lt (by with_reducible assumption)
    clear N7 hoD
    subst hnlD
    have hvo : vo.toArray[hf * mn]? = none := by
      refine Array.getElem?_eq_none ?_
      rw [List.size_toArray, hIo.length, octsL_len]; exact Nat.le_refl _
    refine wpAny_Try_except ?_
    k_steps
    unfold Hold
    refine parsevarint_end _ _ _ _ _ _ _ _ _ _ _ _ _ _ _ _ _ _ it ol vo.toArray no (hf * mn) (by assumption) F7 (by assumption) N8 (by assumption) rfl (List.forall_mem_cons.mpr ⟨hnl.symm, List.forall_mem_cons.mpr ⟨Nat.ne_of_lt (by with_reducible assumption), List.forall_mem_cons.mpr ⟨Nat.ne_of_lt (by with_reducible assumption), List.forall_mem_cons.mpr ⟨Nat.ne_of_lt (by with_reducible assumption), List.forall_mem_cons.mpr ⟨Nat.ne_of_lt (by with_reducible assumption), List.forall_mem_cons.mpr ⟨Nat.ne_of_lt (by with_reducible assumption), hti⟩⟩⟩⟩⟩⟩) hoi hvo (by decide) (by decide) ?_
    intro g e h11 tk11 F11 R11 U11 r11
    dsimp only
    refine caught_R (p := topProg) (by assumption) F11 U11 R11 r11 (by assumption) (topRead_of (by assumption)) (by first | k_is | kernel_rfl!) rfl (by rfl) (by passes_own) ?_
    intro h12 oE F12 N12 hE
    k_steps
    unfold Hold
    refine lawforms _ _ _ _ _ _ _ _ _ _ _ _ _ _ _ _ _ _ e oE (pn : Int) _ (by assumption) F12 (by assumption) N12 (by assumption) rfl (by show _ < _; exact Nat.le_of_ble_eq_true rfl) (by show _ < _; exact Nat.le_of_ble_eq_true rfl) hE (by walk_at "mine om") (by walk_at "mine om") ?_
    intro u5 h13 tk13 F13 N13
    dsimp only
    have hfm : formsF (pn : Int) = hN pn := by
      rcases hpn with rfl | rfl | rfl
      · exact forms23
      · exact forms47
      · exact forms59
    rw [hfm]
    k_steps
    rename_i y7_146 y7_147 y7_148
    revert y1_39 y1_56 y1_57 hQ0 hQ1 hE1 hp1 y1_85 hdP hpn hodd hr hr0 hrp hhf2 hdJ hjn2 hmn1 hmn2 hjA hjB y6_112 hIv hT2 hds hvl hIy y7_147 y7_148
    kjx_bare
    revert y1_0 y1_1 y1_2 y1_3 y1_4 y1_6 y1_7 y1_8 ns y1_17 Q0 Q1 E1 H1 gn1 dr1 tq1 os1 y1_81 y1_87 x0 t0 x1 t1 f0 t2 K tK y1_126 y1_128 y1_129 y1_138 y1_141
      y1_143 lp oJ oP m1 tk9 pn r hf dd M Wd ch jn mn fs y2_128 fg pl m2 vs nv dg vd tl2 dm vm ol m3 vo no it oX ys nl e oE u5 y7_146 tk
    exact hKept.of
theorem fillmeW8 : (fun (_:OpenLaw) (_ : Params → Frag) => True) PySem.Challenge.rw_un0010_01 hd.heap_1 := by
  k_fill
  trivial
noncomputable def s8 : {P : Prop // Kept P → s7.val} := by
  refine' ⟨_, fun hKept => ?_⟩
  case refine'_2 =>
    intro y1_0 y1_1 y1_2 y1_3 y1_4 y1_6 y1_7 y1_8 ns y1_17 Q0 Q1 E1 H1 gn1 dr1 tq1 os1 y1_81 y1_87 x0 t0 x1 t1 f0 t2 K tK y1_126 y1_128 y1_129 y1_138 y1_141 y1_143
      lp oJ oP m1 tk9 pn r hf dd M Wd ch jn mn fs y2_128 fg pl m2 vs nv dg vd tl2 dm vm ol m3 vo no it oX ys nl e oE u5 y7_146 tk y1_39 y1_56 y1_57 hQ0 hQ1 hE1 hp1
      y1_85 hdP hpn hodd hr hr0 hrp hhf2 hdJ hjn2 hmn1 hmn2 hjA hjB y6_112 hIv hT2 hds hvl hIy y7_147 y7_148
    unfold Hold
    rename Fr _ _ _ _ => F7
    rename News _ _ _ _ => N7
    refine with_map F7 (fun m0 hm0 F8 => ?_)
    have hf29 : hf ≤ 29 := by walk_at "mine om"
    have N8 := news_sub (l' := (nl, LCg.lst ys) :: (pl, W.listOf vs.toArray nv) :: (H1.objs.size + 1 + 1 + 1, oX) :: (H1.objs.size + 1 + 1, oJ) :: (H1.objs.size + 1, oP) :: tl2) N7 (by walk_at "mine sub")
    clear N7
    refine wpAny_mono (Q := Join (fun h1 => ∃ tf, Fr (ghostOf H1 [(41, 37), (34, 30)]) H1.objs.size h1 (fun z => if z = Str.ofString "forms" then some (.int (formsS pn r) tf) else m0 z) ∧ News (ghostOf H1 [(41, 37), (34, 30)]) H1.objs.size h1 ((nl, LCg.lst ys) :: (pl, W.listOf vs.toArray nv) :: (H1.objs.size + 1 + 1 + 1, oX) :: (H1.objs.size + 1 + 1, oJ) :: (H1.objs.size + 1, oP) :: tl2)) ⟨H1, gn1, dr1, tq1, os1⟩) ?_ ?_ (fun _ _ e => e)
    · clear F8
      subst hm0
      have mk : Marker := trivial
      k_steps
      rename IsRange _ _ _ _ _ _ _ _ => R7
      have hsq : Builtin.Range.rangeSize 1 ((hf : Int) + 1) 1 = (hf : Int) := by
        unfold Builtin.Range.rangeSize
        rw [if_pos (by decide), if_pos (by walk_at "mine om")]; walk_at "mine om"
      refine SrcS.range rfl (by assumption) (by assumption) R7 (range_small hsq (by walk_at "mine om") (by walk_at "mine om") (by walk_at "mine om") (by walk_at "mine om")) hsq (by rw [PySem.sizeLine_eq]; walk_at "mine om") (fun g9 => ?_)
      refine comp_ind (fun i ys2 nx => nx = (nl, LCg.lst ys) :: (pl, W.listOf vs.toArray nv) :: (H1.objs.size + 1 + 1 + 1, oX) :: (H1.objs.size + 1 + 1, oJ) :: (H1.objs.size + 1, oP) :: tl2 ∧ IntsAre ys2 (sqL pn i)) ⟨rfl, .nil⟩ ?_ ?_
      · rintro i ys2 nx v I oI C oC D m8 h10 tk10 E10 hi ⟨rfl, hIy2⟩ ⟨t9, rfl⟩ hC9 hx9 F9 N9 off ne
        rw [show (1 : Int) + (i : Int) * 1 = ((i + 1 : Nat) : Int) by rw [Int.mul_one, Int.add_comm]; rfl] at hx9
        have hk4 : IntMulOk ((i + 1 : Nat) : Int) ((i + 1 : Nat) : Int) := mulSmall (Nat.le_trans hi (Nat.le_trans hf29 (by decide))) (Nat.le_trans hi (Nat.le_trans hf29 (by decide)))
        have hp0 : (pn : Int) ≠ 0 := by walk_at "mine om"
        k_steps
        refine LCg.CompEnd.intro F9 N9 ((nl, LCg.lst ys) :: (pl, W.listOf vs.toArray nv) :: (H1.objs.size + 1 + 1 + 1, oX) :: (H1.objs.size + 1 + 1, oJ) :: (H1.objs.size + 1, oP) :: tl2) (fun p hp => hp) off trivial ⟨rfl, ?_⟩
        rw [sqL_succ, ← sq_val (by walk_at "mine om")]
        exact IntsAre.append hIy2 (.cons _ _ .nil)
      · rintro ys2 nx ⟨rfl, hIy2⟩
        k_steps
        all_goals rename Fr _ _ _ _ => F9
        all_goals rename News _ _ _ _ => N9
        · rename (List.any _ _ = true) => h0
          rw [show x1.fmod (pn : Int) = (r : Int) from (fmod_pos (by walk_at "mine om")).trans hr, hhf2, sq_any] at h0
          have hfS : formsS pn r = hN pn := by unfold formsS; rw [h0]; rfl
          rw [hfS]
          refine Join.intro ⟨u5, fr_set F9 (fun z e => (if_neg e).symm), news_sub N9 (by walk_at "mine sub")⟩
        · rename (List.any _ _ = false) => h0
          rw [show x1.fmod (pn : Int) = (r : Int) from (fmod_pos (by walk_at "mine om")).trans hr, hhf2, sq_any] at h0
          have hfS : formsS pn r = - hN pn := by unfold formsS; rw [h0]; rfl
          rw [hfS]
          refine Join.intro ⟨_, fr_set F9 (fun z e => rfl), news_sub N9 (by walk_at "mine sub")⟩
    · clear F7 N8
      rintro f s₂ ⟨rfl, h1, tk1, rfl, tf, F3, N3⟩
      subst hm0
      clear F8
      dsimp only
      revert y1_39 y1_56 y1_57 hQ0 hQ1 hE1 hp1 y1_85 hpn hodd hr0 hrp hhf2 hdJ hjn2 hmn1 hmn2 hjA hjB y6_112 hIv hT2 hds hvl hIy hf29 N3 F3
      kjx_bare
      revert y1_0 y1_1 y1_2 y1_3 y1_4 y1_6 y1_7 y1_8 ns y1_17 Q0 Q1 E1 H1 gn1 dr1 tq1 os1 y1_87 x0 t0 x1 t1 f0 t2 K tK y1_126 y1_128 y1_129 y1_138 y1_141 y1_143 lp
        oJ oP m1 tk9 pn r hf dd M Wd ch jn mn fs y2_128 fg pl m2 vs nv dg vd tl2 dm ol m3 oX ys nl u5 h1 tk1 tf
      exact hKept.of
end
section
local macro_rules | `(tactic| walk_at "eval ListComp") => `(tactic| (k_here; k_dflt (refine LCg.ListComp_U (F₀ := by k_asm) (by rfl) (by decide) (by rfl) (by decide) (by rfl) ?_)))
local macro_rules | `(tactic| walk_at "binaryOp FloorDiv int int") => `(tactic| ((with_reducible refine floordiv_int ?kbe ?_ (Or.inl ?kbp)); (case kbp => with_reducible assumption); (case kbe => with_reducible assumption)))
theorem fillmeW9 : (fun (_:OpenLaw) (_ : Params → Frag) => True) PySem.Challenge.rw_un0010_01 hd.heap_1 := by
  k_fill
  trivial
noncomputable def s9 : {P : Prop // Kept P → s8.val} := by
  refine' ⟨_, fun hKept => ?_⟩
  case refine'_2 =>
    intro y1_0 y1_1 y1_2 y1_3 y1_4 y1_6 y1_7 y1_8 ns y1_17 Q0 Q1 E1 H1 gn1 dr1 tq1 os1 y1_87 x0 t0 x1 t1 f0 t2 K tK y1_126 y1_128 y1_129 y1_138 y1_141 y1_143 lp oJ
      oP m1 tk9 pn r hf dd M Wd ch jn mn fs y2_128 fg pl m2 vs nv dg vd tl2 dm ol m3 oX ys nl u5 h1 tk1 tf y1_39 y1_56 y1_57 hQ0 hQ1 hE1 hp1 y1_85 hpn hodd hr0 hrp
      hhf2 hdJ hjn2 hmn1 hmn2 hjA hjB y6_112 hIv hT2 hds hvl hIy hf29 N3 F3
    have hpb := portsL_bits (p := pn) (r := r) (j := jn) (n := hf) (by walk_at "mine om")
    have hdb := difL_bits (p := pn) (r := r) (j := jn) (n := hf) (by walk_at "mine om")
    have hnb := numsL_bits (q := hf) (n := per64 pn r) (m := mn) (k := hf) hmn2
    have hjE : (jn : Int).toNat = jn := Int.toNat_natCast jn
    have hmE : (mn : Int).toNat = mn := Int.toNat_natCast mn
    have hfb := formsS_le pn r
    have ok1 := okJ_get hpn hr0 hrp hjn2
    have ok2 := okM_get hpn hr0 hrp hmn1 hmn2
    rw [← hhf2, ← portsL_sum, ← difL_sum] at ok1
    rw [← hhf2, ← numsL_sum] at ok2
    obtain ⟨ok1, ok3⟩ := ok1
    have hp100 := pow100 (j := jn) (by walk_at "mine om")
    have hp10 := pow10 (j := jn) (by walk_at "mine om")
    have hp64 := pow64i hmn2
    have hf29 : hf ≤ 29 := by walk_at "mine om"
    have hj9 : jn ≤ 9 := by walk_at "mine om"
    have hab : -100 ≤ (hf : Int) - formsS pn r ∧ (hf : Int) - formsS pn r ≤ 100 := by walk_at "mine om"
    have hk5 : IntMulOk ((hf : Int) - formsS pn r) (100 ^ (jn : Int).toNat - 1) := by
      rw [hjE]
      exact mulPow hab (by walk_at "mine om")
    have hk6 : IntMulOk 2 (portsL pn r jn hf).sum := mulTwo ok1 hab (by walk_at "mine om")
    have hk7 : IntMulOk ((hf : Int) - formsS pn r) (64 ^ (mn : Int).toNat - 1) := by
      rw [hmE]
      exact mulPow hab (by walk_at "mine om")
    have hk8 : IntMulOk 2 (numsL hf (per64 pn r) mn hf).sum := mulTwo ok2 hab (by walk_at "mine om")
    have hk9 : IntMulOk (formsS pn r) (10 ^ (jn : Int).toNat + 1) := by
      rw [hjE]
      exact mulPow (by walk_at "mine om") (by walk_at "mine om")
    have hp0 : (10 : Int) ^ (jn : Int).toNat ≠ 0 := by
      rw [hjE]; walk_at "mine om"
    k_steps
    unfold Hold
    rename Fr _ _ _ _ => F7
    rename News _ _ _ _ => N7
    refine with_map F7 (fun m0 hm0 F8 => ?_)
    refine wpAny_mono (Q := Join (fun h1 => Fr (ghostOf H1 [(41, 37), (34, 30)]) H1.objs.size h1 m0 ∧ News (ghostOf H1 [(41, 37), (34, 30)]) H1.objs.size h1 ((nl, LCg.lst ys) :: (pl, W.listOf vs.toArray nv) :: (H1.objs.size + 1 + 1 + 1, oX) :: (H1.objs.size + 1 + 1, oJ) :: (H1.objs.size + 1, oP) :: tl2)) ⟨H1, gn1, dr1, tq1, os1⟩) ?_ ?_ (fun _ _ e => e)
    · clear F8
      subst hm0
      have mk : Marker := trivial
      k_steps
      · rename (2 * _ ≠ _) => hne
        exact (hne (by rw [hjE]; exact ok1)).elim
      rename Fr _ _ _ _ => F9
      rename News _ _ _ _ => N9
      exact Join.intro ⟨F9, N9⟩
    clear F7 N7
    rintro f s₂ ⟨rfl, h4, tk4, rfl, F4, N4⟩
    subst hm0
    clear F8
    dsimp only
    k_steps
    unfold Hold
    rename Fr _ _ _ _ => F7
    rename News _ _ _ _ => N7
    refine with_map F7 (fun m0 hm0 F8 => ?_)
    refine wpAny_mono (Q := Join (fun h1 => Fr (ghostOf H1 [(41, 37), (34, 30)]) H1.objs.size h1 m0 ∧ News (ghostOf H1 [(41, 37), (34, 30)]) H1.objs.size h1 ((nl, LCg.lst ys) :: (pl, W.listOf vs.toArray nv) :: (H1.objs.size + 1 + 1 + 1, oX) :: (H1.objs.size + 1 + 1, oJ) :: (H1.objs.size + 1, oP) :: tl2)) ⟨H1, gn1, dr1, tq1, os1⟩) ?_ ?_ (fun _ _ e => e)
    · clear F8
      subst hm0
      have mk : Marker := trivial
      k_steps
      unfold Hold
      have hpl2 : vs.length = hf := by
        rw [hIv.length]
        unfold portsL
        rw [List.length_map, List.length_range]
      refine LCg.CompSrc.ledger (its := vs.toArray) (k := nv) rfl (by assumption) (by assumption) (by k_mem) (by rw [List.size_toArray, hpl2, PySem.sizeLine_eq]; walk_at "mine om") (fun g9 => ?_)
      have hsz9 : vs.toArray.size = hf := by rw [List.size_toArray, hpl2]
      rw [hsz9]
      refine comp_ind (fun i ys2 nx => nx = (nl, LCg.lst ys) :: (pl, W.listOf vs.toArray nv) :: (H1.objs.size + 1 + 1 + 1, oX) :: (H1.objs.size + 1 + 1, oJ) :: (H1.objs.size + 1, oP) :: tl2 ∧ IntsAre ys2 (difL pn r jn i)) ⟨rfl, .nil⟩ ?_ ?_
      · rintro i ys2 nx v I oI C oC D m8 h10 tk10 E10 hi ⟨rfl, hIy2⟩ hv hC9 hx9 F9 N9 off ne
        obtain ⟨t9, hv2⟩ := hIv.get i ((portN pn r jn i : Nat) : Int) (by simp [portsL, hi])
        rw [List.getElem?_toArray, hv2] at hv
        obtain rfl := Option.some.inj hv
        clear hv
        have hdv : Builtin.divisionGoesByPylong ((portN pn r jn i : Nat) : Int) (10 ^ (jn : Int).toNat) = false := PyProof.noPylong_small (by rw [hjE]; walk_at "mine om")
        k_steps
        refine LCg.CompEnd.intro F9 N9 ((nl, LCg.lst ys) :: (pl, W.listOf vs.toArray nv) :: (H1.objs.size + 1 + 1 + 1, oX) :: (H1.objs.size + 1 + 1, oJ) :: (H1.objs.size + 1, oP) :: tl2) (fun p hp => hp) off (.inr ⟨_, List.mem_cons_of_mem _ List.mem_cons_self, rfl, _, rfl⟩) ⟨rfl, ?_⟩
        rw [difL_succ, ← dif_val]
        exact IntsAre.append hIy2 (.cons _ _ .nil)
      · rintro ys2 nx ⟨rfl, hIy2⟩
        k_steps
        · rename ((List.sum _) ≠ _) => hne
          exact (hne (by rw [hjE]; exact ok3)).elim
        rename Fr _ _ _ _ => F9
        rename News _ _ _ _ => N9
        exact Join.intro ⟨F9, news_sub N9 (by walk_at "mine sub")⟩
    clear F7 N7
    rintro f s₂ ⟨rfl, h4, tk4, rfl, F4, N4⟩
    subst hm0
    clear F8
    dsimp only
    revert y1_39 y1_56 y1_57 hQ0 hQ1 hE1 hhf2 hmn1 hmn2 hT2 hIy hmE ok2 hk7 hk8 N4 F4
    kjx_bare
    revert y1_0 y1_1 y1_2 y1_3 y1_4 y1_6 y1_7 y1_8 ns y1_17 Q0 Q1 E1 H1 gn1 dr1 tq1 os1 y1_87 x0 t0 x1 t1 f0 t2 K tK y1_126 y1_129 y1_138 y1_141 y1_143 lp oJ oP m1
      tk9 pn r hf dd M Wd ch mn fs y2_128 fg pl m2 vs nv dg tl2 dm ol m3 oX ys nl u5 tf h4 tk4
    exact hKept.of
local macro_rules | `(tactic| walk_at "GrownAll") => `(tactic| (refine Hold.out ?_))
theorem fillmeW10 : (fun (_:OpenLaw) (_ : Params → Frag) => True) PySem.Challenge.rw_un0010_01 hd.heap_1 := by
  k_fill
  trivial
theorem last : s9.val := by
    intro y1_0 y1_1 y1_2 y1_3 y1_4 y1_6 y1_7 y1_8 ns y1_17 Q0 Q1 E1 H1 gn1 dr1 tq1 os1 y1_87 x0 t0 x1 t1 f0 t2 K tK y1_126 y1_129 y1_138 y1_141 y1_143 lp oJ oP m1
      tk9 pn r hf dd M Wd ch mn fs y2_128 fg pl m2 vs nv dg tl2 dm ol m3 oX ys nl u5 tf h4 tk4 y1_39 y1_56 y1_57 hQ0 hQ1 hE1 hhf2 hmn1 hmn2 hT2 hIy hmE ok2 hk7 hk8
      N4 F4
    subst hQ0 hQ1 hE1
    k_steps
    unfold Hold
    rename News _ _ _ _ => N9
    exact grown_of hT2 N9 (fun p hp => by simp [hp])
end
end
end Walks
end Mine
theorem PySem.Challenge.cw_un0010_01_holds : PySem.Challenge.rw_un0010_01.Holds := by
  exact Mine.s1.property ⟨Mine.s2.property ⟨Mine.s3.property ⟨Mine.s4.property ⟨Mine.s5.property ⟨Mine.s6.property ⟨Mine.s7.property ⟨Mine.s8.property ⟨Mine.s9.property ⟨Mine.last⟩⟩⟩⟩⟩⟩⟩⟩⟩
