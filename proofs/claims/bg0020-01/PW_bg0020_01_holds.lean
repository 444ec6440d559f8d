import PyProof.Rows.All
import Wide.All
import OpenK.AllK
import Wide.FinOn
import PySem.Challenge.RW_bg0020_01
open PySem PySem.W PyProof.Rows
set_option Elab.async false
set_option maxRecDepth 100000
namespace Mine

-- the head
set_option maxHeartbeats 8000000 in
open_top hd for PySem.Challenge.rw_bg0020_01

-- numbers and their digits
/-- big-endian value of digits in base 2^f -/
def val (f : Nat) : List Nat → Nat := fun ns => ns.foldl (fun a d => a * 2 ^ f + d) 0
/-- q big-endian digits in base 2^t of v -/
def digits (t : Nat) : Nat → Nat → List Nat
  | 0, _ => []
  | q + 1, v => digits t q (v / 2 ^ t) ++ [v % 2 ^ t]
def toInts (ns : List Nat) : List Int := ns.map fun (n : Nat) => (n : Int)
theorem toInts_len (ns : List Nat) : (toInts ns).length = ns.length := by simp [toInts]
theorem toInts_nat (ns : List Nat) : (toInts ns).map Int.toNat = ns := by
  unfold toInts
  rw [List.map_map]
  induction ns with
  | nil => rfl
  | cons n r ih => rw [List.map_cons, ih]; rfl
theorem toInts_append (a b : List Nat) : toInts (a ++ b) = toInts a ++ toInts b := by simp [toInts]
theorem val_snoc (f : Nat) (a : List Nat) (d : Nat) : val f (a ++ [d]) = val f a * 2 ^ f + d := by simp [val, List.foldl_append]
theorem fold_val (f : Nat) (b : List Nat) : ∀ x : Nat, b.foldl (fun a d => a * 2 ^ f + d) x = x * 2 ^ (b.length * f) + val f b := by
  induction b with
  | nil => intro x; simp [val]
  | cons d r ih =>
    intro x
    unfold val
    rw [List.foldl_cons, ih, List.foldl_cons, ih, List.length_cons, Nat.succ_mul, Nat.pow_add, Nat.zero_mul, Nat.zero_add, Nat.add_mul, Nat.mul_assoc, Nat.mul_comm (2 ^ f) (2 ^ (r.length * f)), Nat.add_assoc]
theorem val_append (f : Nat) (a b : List Nat) : val f (a ++ b) = val f a * 2 ^ (b.length * f) + val f b := by
  show (a ++ b).foldl _ 0 = _
  rw [List.foldl_append, fold_val]
  rfl
theorem val_cons (f d : Nat) (r : List Nat) : val f (d :: r) = d * 2 ^ (r.length * f) + val f r := by
  show (d :: r).foldl _ 0 = _
  rw [List.foldl_cons, fold_val, Nat.zero_mul, Nat.zero_add]
theorem val_lt (f : Nat) : ∀ ns : List Nat, (∀ d ∈ ns, d < 2 ^ f) → val f ns < 2 ^ (ns.length * f)
  | [], _ => by simp [val]
  | d :: r, h => by
    have h1 := val_lt f r fun x hx => h x (.tail _ hx)
    have h2 := h d (.head _)
    rw [val_cons, List.length_cons, Nat.succ_mul, Nat.pow_add]
    have h3 : (d + 1) * 2 ^ (r.length * f) ≤ 2 ^ f * 2 ^ (r.length * f) := Nat.mul_le_mul_right _ h2
    rw [Nat.add_mul, Nat.one_mul] at h3
    rw [Nat.mul_comm (2 ^ (r.length * f))]
    omega
theorem digits_len (t : Nat) : ∀ q v, (digits t q v).length = q
  | 0, _ => rfl
  | q + 1, v => by rw [digits, List.length_append, digits_len t q]; rfl
theorem digits_lt (t : Nat) : ∀ q v, ∀ d ∈ digits t q v, d < 2 ^ t
  | 0, _, _, h => nomatch h
  | q + 1, v, d, h => by
    rw [digits] at h
    rcases List.mem_append.mp h with h | h
    · exact digits_lt t q _ d h
    · rw [List.mem_singleton.mp h]; exact Nat.mod_lt _ (Nat.two_pow_pos t)
theorem val_digits (t : Nat) : ∀ q v, v < 2 ^ (q * t) → val t (digits t q v) = v
  | 0, v, h => by
    have : v = 0 := by simpa using h
    rw [this]; rfl
  | q + 1, v, h => by
    rw [Nat.succ_mul, Nat.pow_add] at h
    rw [digits, val_snoc, val_digits t q _ (Nat.div_lt_of_lt_mul (by rw [Nat.mul_comm]; exact h)), Nat.mul_comm]
    exact Nat.div_add_mod v (2 ^ t)
theorem digits_append (t q v : Nat) : ∀ q' u, u < 2 ^ (q' * t) → digits t (q + q') (v * 2 ^ (q' * t) + u) = digits t q v ++ digits t q' u
  | 0, u, h => by
    have : u = 0 := by simpa using h
    rw [this]; simp [digits]
  | q' + 1, u, h => by
    rw [Nat.succ_mul, Nat.pow_add] at h
    have e1 : (v * 2 ^ ((q' + 1) * t) + u) / 2 ^ t = v * 2 ^ (q' * t) + u / 2 ^ t := by
      rw [Nat.succ_mul, Nat.pow_add, ← Nat.mul_assoc, Nat.add_comm, Nat.add_mul_div_right _ _ (Nat.two_pow_pos t), Nat.add_comm]
    have e2 : (v * 2 ^ ((q' + 1) * t) + u) % 2 ^ t = u % 2 ^ t := by
      rw [Nat.succ_mul, Nat.pow_add, ← Nat.mul_assoc, Nat.add_comm, Nat.add_mul_mod_self_right]
    show digits t (q + q' + 1) _ = _
    rw [digits, e1, e2, digits_append t q v q' _ (Nat.div_lt_of_lt_mul (by rw [Nat.mul_comm]; exact h)), digits, List.append_assoc]
theorem digits_val (t : Nat) : ∀ ns : List Nat, (∀ d ∈ ns, d < 2 ^ t) → digits t ns.length (val t ns) = ns
  | [], _ => rfl
  | d :: r, h => by
    have h1 := digits_val t r fun x hx => h x (.tail _ hx)
    rw [val_cons, List.length_cons, Nat.add_comm r.length 1, digits_append t 1 d r.length _ (val_lt t r fun x hx => h x (.tail _ hx)), h1]
    simp [digits, Nat.mod_eq_of_lt (h d (.head _))]
/-- digits of a shifted number -/
theorem digits_shift (t q v p r : Nat) (h : r + p = t) : digits t (q + 1) (v * 2 ^ p) = digits t q (v / 2 ^ r) ++ [(v * 2 ^ p) % 2 ^ t] := by
  rw [digits]
  have e : v * 2 ^ p / 2 ^ t = v / 2 ^ r := by
    rw [← h, Nat.pow_add, Nat.mul_comm (2 ^ r), ← Nat.div_div_eq_div_mul, Nat.mul_div_cancel _ (Nat.two_pow_pos p)]
  rw [e]
theorem val_ones (f : Nat) : ∀ n, val f (List.replicate n (2 ^ f - 1)) = 2 ^ (n * f) - 1
  | 0 => by simp [val]
  | n + 1 => by
    rw [List.replicate_succ, val_cons, val_ones f n, List.length_replicate, Nat.succ_mul, Nat.pow_add, Nat.sub_mul, Nat.one_mul, Nat.mul_comm]
    have h1 := Nat.two_pow_pos (n * f)
    have h2 : 2 ^ (n * f) * 1 ≤ 2 ^ (n * f) * 2 ^ f := Nat.mul_le_mul_left _ (Nat.two_pow_pos f)
    omega
/-- bits of a masked number -/
theorem mask_mul (v k c t : Nat) (h : t ≤ k + c) : ((v % 2 ^ k) * 2 ^ c) % 2 ^ t = (v * 2 ^ c) % 2 ^ t := by
  have e : (v % 2 ^ k) * 2 ^ c = (v * 2 ^ c) % 2 ^ (k + c) := by rw [Nat.pow_add, Nat.mul_mod_mul_right]
  rw [e, Nat.mod_mod_of_dvd _ (Nat.pow_dvd_pow 2 h)]
theorem mask_div (v k c t : Nat) (h : c + t ≤ k) : (v % 2 ^ k / 2 ^ c) % 2 ^ t = v / 2 ^ c % 2 ^ t := by
  have e : k = c + (k - c) := by omega
  rw [e, Nat.pow_add, Nat.mod_mul_right_div_self, Nat.mod_mod_of_dvd _ (Nat.pow_dvd_pow 2 (by omega))]
theorem or_low (a x f : Nat) (h : x < 2 ^ f) : Builtin.bitOr ((a * 2 ^ f : Nat) : Int) (x : Int) = ((a * 2 ^ f + x : Nat) : Int) := by
  rw [bitOr_and, bitAnd_pp (Int.natCast_nonneg _) (Int.natCast_nonneg _), Int.toNat_natCast, Int.toNat_natCast]
  have e : a * 2 ^ f &&& x = 0 := by
    have h1 := nat_or_add_and (a * 2 ^ f) x
    have h2 := Nat.two_pow_add_eq_or_of_lt h a
    rw [Nat.mul_comm] at h2
    omega
  rw [e]
  omega
theorem cast_pow (k : Nat) : ((2 ^ k : Nat) : Int) = (2 : Int) ^ k := kbt_cast k
theorem and_mask (v k : Nat) : Builtin.bitAnd (v : Int) (1 * 2 ^ k - 1) = ((v % 2 ^ k : Nat) : Int) := by
  rw [Int.one_mul, kbt_mask, Int.natCast_emod, cast_pow]
theorem shr_nat (v k : Nat) : ((v : Nat) : Int).fdiv (2 ^ k) = ((v / 2 ^ k : Nat) : Int) := by
  rw [Int.fdiv_eq_ediv_of_nonneg _ (Int.le_of_lt (kbt_pos k)), Int.natCast_ediv, cast_pow]
theorem shl_nat (v k : Nat) : ((v : Nat) : Int) * 2 ^ k = ((v * 2 ^ k : Nat) : Int) := by
  rw [Int.natCast_mul, cast_pow]

-- what convertbits reckons, and the words of its loops
/-- what convertbits gives for digits below 2^f -/
def cvNat (ns : List Nat) (f t : Nat) (pad : Bool) : Option (List Nat) :=
  let b := ns.length * f
  let v := val f ns
  let r := b % t
  let tail := (v * 2 ^ (t - r)) % 2 ^ t
  if pad = true then some (digits t (b / t) (v / 2 ^ r) ++ if r = 0 then [] else [tail])
  else if f ≤ r ∨ tail ≠ 0 then none else some (digits t (b / t) (v / 2 ^ r))
def Good (f : Int) (ds : List Int) : Prop := ∀ d ∈ ds, 0 ≤ d ∧ d < 2 ^ f.toNat
def goodDec (f : Int) (ds : List Int) : Decidable (Good f ds) := by unfold Good; infer_instance
/-- what convertbits gives -/
def cv (data : List Int) (f t : Int) (pad : Bool) : Option (List Int) :=
  @ite _ (Good f data) (goodDec f data) ((cvNat (data.map Int.toNat) f.toNat t.toNat pad).map toInts) none
structure Inv (f t : Int) (pre : List Int) (acc bits : Int) (ret : List Int) : Prop where
  good : Good f pre
  acc : acc = ((val f.toNat (pre.map Int.toNat) % 2 ^ (f.toNat + t.toNat - 1) : Nat) : Int)
  bits : bits = ((pre.length * f.toNat % t.toNat : Nat) : Int)
  ret : ret = toInts (digits t.toNat (pre.length * f.toNat / t.toNat) (val f.toNat (pre.map Int.toNat) / 2 ^ (pre.length * f.toNat % t.toNat)))
structure WInv (f t : Int) (pre : List Int) (acc bits : Int) (ret : List Int) : Prop where
  good : Good f pre
  acc : acc = ((val f.toNat (pre.map Int.toNat) % 2 ^ (f.toNat + t.toNat - 1) : Nat) : Int)
  rest : ∃ q b : Nat, bits = (b : Int) ∧ ret = toInts (digits t.toNat q (val f.toNat (pre.map Int.toNat) / 2 ^ b)) ∧ q * t.toNat + b = pre.length * f.toNat ∧ b ≤ f.toNat + t.toNat - 1
structure Bnd (acc bits : Int) (len : Nat) (ret : List Int) : Prop where
  a0 : 0 ≤ acc
  a1 : acc < 131072
  b0 : 0 ≤ bits
  b1 : bits < 18
  l1 : ret.length ≤ 9 * len
section
variable {f t : Int} {pre ret : List Int} {acc bits x : Int}
theorem good_nil (f : Int) : Good f [] := fun _ h => nomatch h
theorem good_append {a b : List Int} (ha : Good f a) (hb : Good f b) : Good f (a ++ b) := fun d h => (List.mem_append.mp h).elim (ha d) (hb d)
theorem good_nat {ds : List Int} (h : Good f ds) : ∀ d ∈ ds.map Int.toNat, d < 2 ^ f.toNat := by
  intro d hd
  obtain ⟨y, hy, rfl⟩ := List.mem_map.mp hd
  obtain ⟨h0, h1⟩ := h y hy
  have h2 := cast_pow f.toNat
  omega
theorem good_ints {ds : List Int} (h : Good f ds) : toInts (ds.map Int.toNat) = ds := by
  unfold toInts
  rw [List.map_map]
  induction ds with
  | nil => rfl
  | cons d r ih =>
    rw [List.map_cons, ih fun y hy => h y (.tail _ hy)]
    have h0 := (h d (.head _)).1
    show ((d.toNat : Int)) :: r = d :: r
    rw [Int.toNat_of_nonneg h0]
theorem nat_lt_of_mod (a t : Nat) (h : 1 ≤ t) : a % t < t := Nat.mod_lt _ h
theorem inv_start (ht : 1 ≤ t) : Inv f t [] 0 0 [] := by
  refine ⟨good_nil f, ?_, ?_, ?_⟩
  · simp [val]
  · simp
  · simp [val, digits, toInts]
theorem inv_lt (h : Inv f t pre acc bits ret) (ht0 : 1 ≤ t) : bits < t := by
  have h1 := nat_lt_of_mod (pre.length * f.toNat) t.toNat (by omega)
  have h2 := h.bits
  omega
theorem acc_bnd (v k : Nat) (hk : k ≤ 17) : 0 ≤ ((v % 2 ^ k : Nat) : Int) ∧ ((v % 2 ^ k : Nat) : Int) < 131072 := by
  have h1 : v % 2 ^ k < 2 ^ k := Nat.mod_lt _ (Nat.two_pow_pos k)
  have h2 : 2 ^ k ≤ 2 ^ 17 := Nat.pow_le_pow_right (by decide) hk
  have h3 : (2 : Nat) ^ 17 = 131072 := by decide
  omega
theorem len_bnd (n f t q : Nat) (ht : 1 ≤ t) (hf : f ≤ 9) (h : q * t ≤ n * f) : q ≤ 9 * n := by
  have h1 : q * 1 ≤ q * t := Nat.mul_le_mul_left _ ht
  have h2 : n * f ≤ n * 9 := Nat.mul_le_mul_left _ hf
  omega
theorem inv_bnd (h : Inv f t pre acc bits ret) (hf0 : 1 ≤ f) (hf1 : f ≤ 9) (ht0 : 1 ≤ t) (ht1 : t ≤ 9) : Bnd acc bits pre.length ret := by
  have h1 := acc_bnd (val f.toNat (pre.map Int.toNat)) (f.toNat + t.toNat - 1) (by omega)
  have h2 := inv_lt h ht0
  have h3 := h.bits
  have h4 : pre.length * f.toNat / t.toNat * t.toNat ≤ pre.length * f.toNat := Nat.div_mul_le_self _ _
  have h5 := len_bnd pre.length f.toNat t.toNat _ (by omega) (by omega) h4
  refine ⟨by rw [h.acc]; exact h1.1, by rw [h.acc]; exact h1.2, by omega, by omega, ?_⟩
  rw [h.ret, toInts_len, digits_len]
  exact h5
theorem winv_bnd (h : WInv f t pre acc bits ret) (hf0 : 1 ≤ f) (hf1 : f ≤ 9) (ht0 : 1 ≤ t) (ht1 : t ≤ 9) : Bnd acc bits pre.length ret := by
  have h1 := acc_bnd (val f.toNat (pre.map Int.toNat)) (f.toNat + t.toNat - 1) (by omega)
  obtain ⟨q, b, hb, hr, he, hle⟩ := h.rest
  have h5 := len_bnd pre.length f.toNat t.toNat q (by omega) (by omega) (by omega)
  refine ⟨by rw [h.acc]; exact h1.1, by rw [h.acc]; exact h1.2, by omega, by omega, ?_⟩
  rw [hr, toInts_len, digits_len]
  exact h5
theorem good_of_shr {y : Int} (h0 : ¬ y < 0) (h : y.fdiv (2 ^ f.toNat) = 0) : 0 ≤ y ∧ y < 2 ^ f.toNat := by
  have hw := kbt_whole y f.toNat
  have hr := kbt_rest y f.toNat
  rw [h, Int.zero_mul, Int.zero_add] at hw
  omega
theorem shr_of_good {y : Int} (h0 : 0 ≤ y) (h : y < 2 ^ f.toNat) : y.fdiv (2 ^ f.toNat) = 0 := by
  rw [Int.fdiv_eq_ediv_of_nonneg _ (Int.le_of_lt (kbt_pos _))]
  exact Int.ediv_eq_zero_of_lt h0 h
theorem winv_start (h : Inv f t pre acc bits ret) (hf0 : 1 ≤ f) (hf1 : f ≤ 9) (ht0 : 1 ≤ t) (ht1 : t ≤ 9) (hx : ¬ x < 0) (hx2 : x.fdiv (2 ^ f.toNat) = 0) :
    WInv f t (pre ++ [x]) (Builtin.bitAnd (Builtin.bitOr (acc * 2 ^ f.toNat) x) (1 * 2 ^ (f + t - 1).toNat - 1)) (bits + f) ret := by
  obtain ⟨x0, x1⟩ := good_of_shr hx hx2
  have ek : (f + t - 1).toNat = f.toNat + t.toNat - 1 := by omega
  have ex : x = ((x.toNat : Nat) : Int) := by omega
  have hxl : x.toNat < 2 ^ f.toNat := by
    have := cast_pow f.toNat
    omega
  have ev : val f.toNat ((pre ++ [x]).map Int.toNat) = val f.toNat (pre.map Int.toNat) * 2 ^ f.toNat + x.toNat := by
    rw [List.map_append]
    exact val_snoc _ _ _
  refine ⟨good_append h.good (fun d hd => by rw [List.mem_singleton.mp hd]; exact ⟨x0, x1⟩), ?_, pre.length * f.toNat / t.toNat, pre.length * f.toNat % t.toNat + f.toNat, ?_, ?_, ?_, ?_⟩
  · rw [ev, h.acc, ek, shl_nat]
    rw [ex, or_low _ _ _ hxl, and_mask, Int.toNat_natCast]
    congr 1
    rw [Nat.add_mod, Nat.mul_mod, Nat.mod_mod, ← Nat.mul_mod, ← Nat.add_mod]
  · rw [h.bits]; omega
  · rw [h.ret, ev]
    have : (val f.toNat (pre.map Int.toNat) * 2 ^ f.toNat + x.toNat) / 2 ^ (pre.length * f.toNat % t.toNat + f.toNat) = val f.toNat (pre.map Int.toNat) / 2 ^ (pre.length * f.toNat % t.toNat) := by
      rw [Nat.pow_add, Nat.mul_comm (2 ^ (pre.length * f.toNat % t.toNat)), ← Nat.div_div_eq_div_mul, Nat.add_comm, Nat.add_mul_div_right _ _ (Nat.two_pow_pos _), Nat.div_eq_of_lt hxl, Nat.zero_add]
    rw [this]
  · have := Nat.div_add_mod (pre.length * f.toNat) t.toNat
    rw [List.length_append, List.length_singleton, Nat.succ_mul, Nat.mul_comm (pre.length * f.toNat / t.toNat)]
    omega
  · have := nat_lt_of_mod (pre.length * f.toNat) t.toNat (by omega)
    omega
theorem winv_step (h : WInv f t pre acc bits ret) (hf0 : 1 ≤ f) (hf1 : f ≤ 9) (ht0 : 1 ≤ t) (ht1 : t ≤ 9) (hb : t ≤ bits) :
    WInv f t pre acc (bits - t) (ret ++ [Builtin.bitAnd (acc.fdiv (2 ^ (bits - t).toNat)) (1 * 2 ^ t.toNat - 1)]) := by
  obtain ⟨q, b, eb, hr, he, hle⟩ := h.rest
  have e1 : (bits - t).toNat = b - t.toNat := by omega
  refine ⟨h.good, h.acc, q + 1, b - t.toNat, by omega, ?_, by rw [Nat.succ_mul]; omega, by omega⟩
  rw [h.acc, e1, shr_nat, and_mask, hr, mask_div _ _ _ _ (by omega), digits, toInts_append]
  have e2 : b = b - t.toNat + t.toNat := by omega
  have e3 : val f.toNat (pre.map Int.toNat) / 2 ^ (b - t.toNat) / 2 ^ t.toNat = val f.toNat (pre.map Int.toNat) / 2 ^ b := by
    rw [Nat.div_div_eq_div_mul, ← Nat.pow_add, ← e2]
  rw [e3]
  rfl
theorem inv_of_winv (h : WInv f t pre acc bits ret) (ht0 : 1 ≤ t) (hb : ¬ t ≤ bits) : Inv f t pre acc bits ret := by
  obtain ⟨q, b, eb, hr, he, hle⟩ := h.rest
  have hbt : b < t.toNat := by omega
  have e1 : pre.length * f.toNat % t.toNat = b := by
    rw [← he, Nat.add_comm, Nat.add_mul_mod_self_right, Nat.mod_eq_of_lt hbt]
  have e2 : pre.length * f.toNat / t.toNat = q := by
    rw [← he, Nat.add_comm, Nat.add_mul_div_right _ _ (by omega), Nat.div_eq_of_lt hbt, Nat.zero_add]
  exact ⟨h.good, h.acc, by rw [e1]; exact eb, by rw [e1, e2]; exact hr⟩
theorem cv_not {data : List Int} {pad : Bool} (h : ¬ Good f data) : cv data f t pad = none := by unfold cv; rw [if_neg h]
theorem cv_bad1 {data post : List Int} {pad : Bool} (e : data = pre ++ x :: post) (h : x < 0) : cv data f t pad = none := by
  refine cv_not fun g => ?_
  have := g x (by rw [e]; simp)
  omega
theorem cv_bad2 {data post : List Int} {pad : Bool} (e : data = pre ++ x :: post) (h : ¬ x.fdiv (2 ^ f.toNat) = 0) : cv data f t pad = none := by
  refine cv_not fun g => ?_
  have := g x (by rw [e]; simp)
  exact h (shr_of_good this.1 this.2)
theorem tail_is (h : Inv f t pre acc bits ret) (ht0 : 1 ≤ t) : Builtin.bitAnd (acc * 2 ^ (t - bits).toNat) (1 * 2 ^ t.toNat - 1) =
    (((val f.toNat (pre.map Int.toNat) * 2 ^ (t.toNat - pre.length * f.toNat % t.toNat)) % 2 ^ t.toNat : Nat) : Int) := by
  have h1 := nat_lt_of_mod (pre.length * f.toNat) t.toNat (by omega)
  have h2 := h.bits
  have e : (t - bits).toNat = t.toNat - pre.length * f.toNat % t.toNat := by omega
  rw [h.acc, e, shl_nat, and_mask, mask_mul _ _ _ _ (by omega)]
theorem cv_is {data : List Int} {pad : Bool} (h : Good f data) : cv data f t pad = (cvNat (data.map Int.toNat) f.toNat t.toNat pad).map toInts := by unfold cv; rw [if_pos h]
theorem cv_pad_tail {data : List Int} (h : Inv f t data acc bits ret) (ht0 : 1 ≤ t) (hb : ¬ bits = 0) : cv data f t true = some (ret ++ [Builtin.bitAnd (acc * 2 ^ (t - bits).toNat) (1 * 2 ^ t.toNat - 1)]) := by
  have h2 := h.bits
  rw [cv_is h.good, tail_is h ht0]
  simp only [cvNat, List.length_map, if_true]
  rw [if_neg (by omega), Option.map_some, toInts_append, h.ret]
  rfl
theorem cv_pad_whole {data : List Int} (h : Inv f t data acc bits ret) (ht0 : 1 ≤ t) (hb : bits = 0) : cv data f t true = some ret := by
  have h2 := h.bits
  rw [cv_is h.good]
  simp only [cvNat, List.length_map, if_true]
  rw [if_pos (by omega), Option.map_some, List.append_nil, h.ret]
theorem cv_no1 {data : List Int} (h : Inv f t data acc bits ret) (ht0 : 1 ≤ t) (hb : f ≤ bits) : cv data f t false = none := by
  have h2 := h.bits
  rw [cv_is h.good]
  simp only [cvNat, List.length_map, Bool.false_eq_true, if_false]
  rw [if_pos (Or.inl (by omega)), Option.map_none]
theorem cv_no2 {data : List Int} (h : Inv f t data acc bits ret) (ht0 : 1 ≤ t) (hb : ¬ Builtin.bitAnd (acc * 2 ^ (t - bits).toNat) (1 * 2 ^ t.toNat - 1) = 0) : cv data f t false = none := by
  rw [tail_is h ht0] at hb
  rw [cv_is h.good]
  simp only [cvNat, List.length_map, Bool.false_eq_true, if_false]
  rw [if_pos (Or.inr (by omega)), Option.map_none]
theorem cv_yes {data : List Int} (h : Inv f t data acc bits ret) (ht0 : 1 ≤ t) (hb : ¬ f ≤ bits) (hb2 : Builtin.bitAnd (acc * 2 ^ (t - bits).toNat) (1 * 2 ^ t.toNat - 1) = 0) : cv data f t false = some ret := by
  rw [tail_is h ht0] at hb2
  have h2 := h.bits
  rw [cv_is h.good]
  simp only [cvNat, List.length_map, Bool.false_eq_true, if_false]
  rw [if_neg (by omega), Option.map_some, h.ret]
end

-- convertbits: the walk
section
open PySem.Spec PySem.Calls

local macro_rules | `(tactic| k_all) => `(tactic| exact fun p hp => Nat.ne_of_lt (ktn_ltOf (by assumption) p hp))
local macro_rules | `(tactic| walk_at "binaryOp LShift int int") => `(tactic| (k_here; (with_reducible refine lshift_int_small ?kb1 ?kb2 ?kb3 ?_); (case kb1 => omega); (case kb2 => omega); (case kb3 => first | decide | omega)))
local macro_rules | `(tactic| walk_at "binaryOp RShift int int") => `(tactic| (k_here; (with_reducible refine rshift_int ?kb1 ?_); (case kb1 => omega)))

section
variable {h₀ h : Heap} {L : Addr} {p q : Addr × Obj} {news own : List (Addr × Obj)}
theorem ends_drop (N : News h₀ L h (p :: q :: news)) : News h₀ L h (p :: news) := fun x hx => N x ((List.mem_cons.mp hx).elim (fun e => e ▸ .head _) fun e => .tail _ (.tail _ e))
theorem ends_own (N : News h₀ L h (p :: q :: (news ++ own))) : News h₀ L h news := fun x hx => N x (.tail _ (.tail _ (List.mem_append_left _ hx)))
theorem ends_none (N : News h₀ L h (p :: q :: news)) : News h₀ L h news := fun x hx => N x (.tail _ (.tail _ hx))
theorem ends_push {l : Addr} {vs : List Value} {v : Value} {n : Nat} (N : News h₀ L h ((l, listOf (vs.toArray.push v) n) :: q :: news)) : News h₀ L h ((l, listOf (vs ++ [v]).toArray n) :: news) := by
  rw [List.push_toArray] at N
  exact ends_drop N
end

set_option maxRecDepth 100000 in
set_option maxHeartbeats 8000000 in
theorem conv_tells {w : World} {loose : List Str} {mean : ExcName → Option Value} {mg mb : Str → Option Value}
   {dp un : Nat} {gd : Option (List Code)} {cn : Str} {cs : Scope} {a : Addr} {ccd : Value} {cl : List (Str × Addr)} {outer : List Env} {A₀ : Around} {base h₀ : Heap} {L : Addr} {m : Str → Option Value} {news : List (Addr × Obj)} {s : Shared} 
    {Q E : Value → Shared → Prop} {l : Addr} {ws : List Value} {n : Nat} {data : List Int} {f t : Int} {tf tt : Tok} {pad : Bool} {args : List Value}
   (B : Below A₀ base outer h₀) (F : Fr h₀ L s.heap m) (X : (hd.heap_39 w.params).In h₀) (N₀ : News h₀ L s.heap news) (T : Top hd.view_39 loose mean mg mb h₀) (hk : cs.kind = .function)
   (hl : (l, listOf ws.toArray n) ∈ news) (hI : IntsAre ws data) (hlen : data.length ≤ 1000) (hf0 : 1 ≤ f) (hf1 : f ≤ 9) (ht0 : 1 ≤ t) (ht1 : t ≤ 9) 
   (hargs : (args = [.ref l, .int f tf, .int t tt] ∧ pad = true) ∨ (args = [.ref l, .int f tf, .int t tt, .bool false] ∧ pad = false))
   (hdp : dp + 1 < recursionLimit) 
   (hN : cv data f t pad = none → ∀ h' tk', Fr h₀ L h' m → News h₀ L h' news → Q .none { s with heap := h', toks := tk' })
   (hS : ∀ out, cv data f t pad = some out → ∀ l' ws' n' h' tk', Fr h₀ L h' m → News h₀ L h' ((l', listOf ws'.toArray n') :: news) → AllLt l' news → IntsAre ws' out → Q (.ref l') { s with heap := h', toks := tk' }) :
    wpAny (model PySem.Challenge.pw_bg0020_01 w) (ktrTop dp un gd cn cs L a ccd cl outer) (call (.ref 22) args) Q E s := by
  w_top off
  have N : News h₀ L s.heap ((l, listOf ws.toArray n) :: news) := fun p hp => (List.mem_cons.mp hp).elim (fun e => e ▸ N₀ _ hl) (N₀ p)
  clear N₀
  k_with "state" => first | exact inv_start (by omega) | (exact inv_of_winv kInv (by omega) (by assumption)) | (exact winv_step kInv (by omega) (by omega) (by omega) (by omega) (by assumption)) | (exact winv_start kInv (by omega) (by omega) (by omega) (by omega) (by assumption) (by assumption))
  k_with "measure" => omega
  k_with "exec While Compare cons nil" => (have hBnd := inv_bnd kInv hf0 hf1 ht0 ht1; obtain ⟨b1, b2, b3, b4, b5⟩ := hBnd; (k_while_given ["acc"] (fun acc _ bits ret => WInv f t (kPre ++ [kN]) acc bits ret) (fun _ _ bits _ => bits.toNat) "bits" "ret"); have hBnd2 := winv_bnd kInv hf0 hf1 ht0 ht1; obtain ⟨c1, c2, c3, c4, c5⟩ := hBnd2)
  k_with "pyIter ref" => (k_state (fun pre acc bits ret => Inv f t pre acc bits ret) "acc" "bits" "ret" ; all_goals (have hBnd := inv_bnd kInv hf0 hf1 ht0 ht1; have hLt := inv_lt kInv ht0; obtain ⟨b1, b2, b3, b4, b5⟩ := hBnd))
  rcases hargs with ⟨rfl, rfl⟩ | ⟨rfl, rfl⟩
  all_goals (
    refine wpAny_call ?_
    k_dflt (refine' code_def ?k1 ?k2 ?k3 ?k4 ?k5 ?kA ?kF ?kK ?k6 ?k7 ?k8 ?k9 ?kB ?_ ?c2 ?c3 ?c4 ?c5; (case kA => exact rfl); (case kF => exact rfl); (case kK => assumption); (case k1 => k_asm); (case k2 => k_asm); (case k3 => k_asm); (case k4 => k_asm); (case k5 => k_asm); (case k6 => k_is); (case k7 => k_is); (case k8 => ktr_room); (case k9 => first | exact BindsTo.of_eq rfl | exact binds_K (by k_in) rfl (by k_is) rfl rfl rfl); (case c5 => decide); (case kB => exact locs rfl); (case c2 => exact rfl); (case c3 => exact rfl); (case c4 => exact rfl); k_whole; intro g' L' h' FG' F' N' B' X' T'; (try dsimp only); (try k_lift B'); (try k_fold))
    w_strict (k_steps))
  all_goals first
    | exact hN (cv_bad1 kEq (by assumption)) _ _ (by assumption) (ends_own (by assumption))
    | exact hN (cv_bad2 kEq (by assumption)) _ _ (by assumption) (ends_own (by assumption))
    | exact hS _ (cv_pad_tail kInv ht0 (by assumption)) _ _ _ _ _ (by assumption) (ends_push (by assumption)) (And.right (by assumption)) (IntsAre.append kFacts (.cons _ _ .nil))
    | exact hS _ (cv_pad_whole kInv ht0 (by assumption)) _ _ _ _ _ (by assumption) (ends_drop (by assumption)) (And.right (by assumption)) kFacts
    | exact hN (cv_no1 kInv ht0 (by assumption)) _ _ (by assumption) (ends_none (by assumption))
    | exact hN (cv_no2 kInv ht0 (by assumption)) _ _ (by assumption) (ends_none (by assumption))
    | exact hS _ (cv_yes kInv ht0 (by assumption) (by assumption)) _ _ _ _ _ (by assumption) (ends_drop (by assumption)) (And.right (by assumption)) kFacts
end

-- the reader: the walk
section
open PySem.Spec PySem.Calls

set_option maxRecDepth 100000 in
set_option maxHeartbeats 8000000 in
theorem at_tells {w : World} {loose : List Str} {mean : ExcName → Option Value} {mg mb : Str → Option Value}
   {dp un : Nat} {gd : Option (List Code)} {cn : Str} {cs : Scope} {a : Addr} {ccd : Value} {cl : List (Str × Addr)} {outer : List Env} {A₀ : Around} {base h₀ : Heap} {L : Addr} {m : Str → Option Value} {news : List (Addr × Obj)} {s : Shared} 
    {Q E : Value → Shared → Prop} {l : Addr} {vs : List Value} {ns : List Int} {i d : Int} {tk td : Tok} 
   (B : Below A₀ base outer h₀) (F : Fr h₀ L s.heap m) (X : (hd.heap_39 w.params).In h₀) (N : News h₀ L s.heap news) (T : Top hd.view_39 loose mean mg mb h₀) (hk : cs.kind = .function)
   (hl : base.IsList l vs.toArray) (hi : IntsAre vs ns) (hfit : ns.length < 2 ^ 62) (h0 : 0 ≤ i) 
   (hdp : dp + 1 < recursionLimit) 
   (hret : ∀ t h' tk', Fr h₀ L h' m → News h₀ L h' news → Q (.int (cellAt ns i d) t) { s with heap := h', toks := tk' }) :
    wpAny (model PySem.Challenge.pw_bg0020_01 w) (ktrTop dp un gd cn cs L a ccd cl outer) (call (.ref 29) [.ref l, .int i tk, .int d td]) Q E s := by
  w_top off
  refine wpAny_call ?_
  k_dflt cell_enter
  w_strict (k_steps)
  all_goals cell_end hret Q s
end

-- a comprehension whose block has a cell
section
open PySem.Spec PySem.Calls
def Off4 (I C c D : Addr) : List (Addr × Obj) → Prop
  | [] => True
  | p :: r => ((@Ne Nat p.1 I) ∧ (@Ne Nat p.1 C) ∧ (@Ne Nat p.1 c) ∧ (@Ne Nat p.1 D)) ∧ Off4 I C c D r
theorem Off4.mem {I C c D : Addr} : ∀ {l : List (Addr × Obj)}, Off4 I C c D l → ∀ p ∈ l, p.1 ≠ I ∧ p.1 ≠ C ∧ p.1 ≠ c ∧ p.1 ≠ D
  | [], _, _, h => nomatch h
  | _ :: _, x, p, h => by
    rcases List.mem_cons.mp h with rfl | h
    · exact x.1
    · exact Off4.mem x.2 p h
theorem Off4.of {I C c D : Addr} : ∀ {l : List (Addr × Obj)}, (∀ p ∈ l, p.1 ≠ I ∧ p.1 ≠ C ∧ p.1 ≠ c ∧ p.1 ≠ D) → Off4 I C c D l
  | [], _ => trivial
  | _ :: _, h => ⟨h _ List.mem_cons_self, Off4.of fun p hp => h p (List.mem_cons_of_mem _ hp)⟩
theorem Off4.one {I C c D : Addr} : ∀ {l : List (Addr × Obj)}, Off4 I C c D l → LCg.Off1 D l
  | [], _ => trivial
  | _ :: _, x => ⟨x.1.2.2.2, Off4.one x.2⟩

def CEnd (h₀ : Heap) (L : Addr) (m : Str → Option Value) (s₁ : Shared) (I : Addr) (oI : Obj) (C : Addr) (oC : Obj) (c : Addr) (oc : Obj) (D : Addr) (oD : Obj) (rest : Value → List (Addr × Obj) → Prop) (y : Value) (s₂ : Shared) : Prop :=
  ∃ h' tk news', s₂ = { s₁ with heap := h', toks := tk } ∧ Fr h₀ L h' m ∧ News h₀ L h' ((I, oI) :: (C, oC) :: (c, oc) :: (D, oD) :: news') ∧ Off4 I C c D news' ∧ rest y news'

def CRest (prog : Program) (w : World) (A : Around) (h₀ : Heap) (L : Addr) (m : Str → Option Value) (env : Env) (elt : Expr) (x : Str) (scope : Scope) (cl : List (Str × Addr)) (s : Shared) (a : Int)
    (Fin : List Value → List (Addr × Obj) → Prop) : Nat → Nat → List Value → List (Addr × Obj) → Prop
  | 0, _, ys, news => Fin ys news
  | k + 1, i, ys, news => ∀ I oI C oC c oc D t h tk (E' : Value → Shared → Prop), oc.data = .cell (some (.int (a + (i : Int)) t)) → Fr h₀ L h m → News h₀ L h ((I, oI) :: (C, oC) :: (c, oc) :: (D, LCg.lst ys) :: news) → Off4 I C c D news →
      ((@Ne Nat I C) ∧ (@Ne Nat I c) ∧ (@Ne Nat I D) ∧ (@Ne Nat C c) ∧ (@Ne Nat C D) ∧ (@Ne Nat c D)) →
      wpAny (model prog w) A (eval elt (compEnvC scope ((x, c) :: cl) C env)) (CEnd h₀ L m { s with heap := h, toks := tk } I oI C oC c oc D (LCg.lst ys) (fun y news' => CRest prog w A h₀ L m env elt x scope cl s a Fin k (i + 1) (ys ++ [y]) news')) E' { s with heap := h, toks := tk }

section
variable {prog : Program} {w : World} {A : Around} {E : Value → Shared → Prop} {s : Shared} {h₀ : Heap} {L : Addr} {m : Str → Option Value} {env : Env}

theorem newEnv_cell {scope : Scope} {globals : Addr} {cl : List (Str × Addr)} {x : Str} {qual : Str} {M : Model} {Q : Env → Shared → Prop} (hcells : ∀ n : Nat, cellsFrom n scope.names cl = (x, n) :: cl)
    (hpush : ∀ h, pushCells h scope.names = h.push { cls := .type "cell", data := .cell none })
    (h : Q { scope := scope, locals := s.heap.objs.size, globals := globals, cells := (x, s.heap.objs.size + 1) :: cl, qual := qual, func := none, code := env.code, frame := env.frame, builtins := env.builtins }
      { s with heap := (s.heap.push { cls := .type "dict", data := .dict #[] }).push { cls := .type "cell", data := .cell none } }) :
    wpAny M A (newFunctionEnv scope globals cl [] qual none .none (some env)) Q E s := by
  simp only [newFunctionEnv, Option.isSome_some, if_true]
  refine wpAny_bind (wpAny_alloc ?_)
  refine wpAny_bind (wpAny_layCells _ (fun name kind cells => by cases hkc : kind == NameKind.cell <;> simp) _ _ _ _ ?_)
  rw [hcells, hpush, List.forIn_nil]
  refine wpAny_bind (wpAny_pure (wpAny_pure ?_))
  rw [show ({ s with heap := s.heap.push { cls := .type "dict", data := .dict #[] } } : Shared).heap.objs.size = s.heap.objs.size + 1 from Heap.size_push ..]
  exact h

theorem block_C {elt iter : Expr} {x : Str} {px : Pos} {scope : Scope} {cl : List (Str × Addr)} {pos : Pos} {s₂ : Shared} {I : Addr} {n : Nat} {a : Int} {news : List (Addr × Obj)}
    {Fin : List Value → List (Addr × Obj) → Prop} {RR : Value → Addr → Result → Shared → Prop}
    (W : Walks prog w A I [I] [I] n (fun i v => ∃ t, v = .int (a + (i : Int)) t) (fun i h => IsRangeIter h I (a + (i : Nat) * 1) ((n : Int) - (i : Nat)) 1)) (hsz : n ≤ sizeLine)
    (hcells : ∀ n : Nat, cellsFrom n scope.names cl = (x, n) :: cl) (hpush : ∀ h, pushCells h scope.names = h.push { cls := .type "cell", data := .cell none }) (hkind : scope.kind = .function) (hx : (relabel scope env).names.lookup x = some .cell)
    (hst : IsRangeIter s₂.heap I (a + (0 : Nat) * 1) ((n : Int) - (0 : Nat)) 1) (hI : I < s₂.heap.objs.size)
    (F : Fr h₀ L s₂.heap m) (N : News h₀ L s₂.heap news) (hIL : L ≠ I) (hI₀ : h₀.get? I = none) (off : ∀ p ∈ news, p.1 ≠ I)
    (R : CRest prog w A h₀ L m env elt x scope cl s₂ a Fin n 0 [] news)
    (hRR : ∀ D C h tk m' ys news', Fr h₀ L h m → News h₀ L h ((D, LCg.lst ys) :: news') → LCg.Off1 D news' → h.Ns C m' → h₀.get? C = none → h₀.get? D = none → C ≠ L → D ≠ L → C ≠ D → (∀ p ∈ news', p.1 ≠ C) → Fin ys news' → RR (.ref D) C (.ok .next) { s₂ with heap := h, toks := tk }) :
    wpAny (model prog w) A (newList []) (fun acc s₃ => wpAny (model prog w) A (newFunctionEnv scope env.globals cl [] env.qual none .none (some env)) (fun cenv s₄ =>
      codeAny (model prog w) A (.compStart (.ListComp elt [⟨.Name x px, iter, [], 0⟩] scope pos) 0 (.ref I) acc { cenv with scope := relabel scope env }) (RR acc cenv.locals) s₄) E s₃) E s₂ := by
  refine wpAny_newObj_type (newEnv_cell hcells hpush ?_)
  dsimp only
  generalize hH2 : s₂.heap.push { cls := .type "list", dict := none, data := .seq ([] : List Value).toArray } = H2
  have hC : H2.objs.size = s₂.heap.objs.size + 1 := by rw [← hH2, Heap.size_push]
  generalize hH3 : H2.push { cls := .type "dict", data := .dict #[] } = H3
  have hc : H3.objs.size = s₂.heap.objs.size + 2 := by rw [← hH3, Heap.size_push, hC]
  generalize hH4 : H3.push { cls := .type "cell", data := .cell none } = h₁
  generalize hDe : s₂.heap.objs.size = D at *
  generalize hCe : H2.objs.size = C at *
  rw [show C + 1 = H3.objs.size by rw [hc, hC]]
  generalize hce : H3.objs.size = c at *
  have hDC : D ≠ C := by rw [hC]; exact Nat.ne_of_lt (Nat.lt_succ_self _)
  have hDc : D ≠ c := by rw [hc]; exact Nat.ne_of_lt (Nat.lt_succ_of_lt (Nat.lt_succ_self _))
  have hCc : C ≠ c := by rw [hC, hc]; exact Nat.ne_of_lt (Nat.lt_succ_self _)
  have below : ∀ b, b < D → b ≠ C ∧ b ≠ c ∧ b ≠ D := fun b hb => ⟨by rw [hC]; exact Nat.ne_of_lt (Nat.lt_succ_of_lt hb), by rw [hc]; exact Nat.ne_of_lt (Nat.lt_succ_of_lt (Nat.lt_succ_of_lt hb)), Nat.ne_of_lt hb⟩
  have up3 : ∀ b o, H3.get? b = some o → h₁.get? b = some o := fun b o e => hH4 ▸ Heap.get?_push_of_some _ e
  have up2 : ∀ b o, H2.get? b = some o → h₁.get? b = some o := fun b o e => up3 b o (hH3 ▸ Heap.get?_push_of_some _ e)
  have old : ∀ b o, s₂.heap.get? b = some o → h₁.get? b = some o := fun b o e => up2 b o (hH2 ▸ Heap.get?_push_of_some _ e)
  have lt2 : ∀ b o, s₂.heap.get? b = some o → b < D := fun b o e => hDe ▸ Heap.lt_size e
  have hacc : h₁.get? D = some (LCg.lst []) := up2 _ _ (by rw [← hH2, ← hDe]; exact Heap.get?_push_size _ rfl)
  have hnsC : h₁.Ns C (fun _ => none) := by
    have : H3.Ns C (fun _ => none) := by rw [← hH3, ← hCe]; exact Heap.Ns.new _ (.type "dict")
    exact this.keeps up3
  have hcc : h₁.get? c = some { cls := .type "cell", data := .cell none } := by rw [← hH4, ← hce]; exact Heap.get?_push_size _ rfl
  have fresh : ∀ b, D ≤ b → s₂.heap.get? b = none := fun b hb => by
    cases e : s₂.heap.get? b with
    | none => rfl
    | some o' => exact absurd (lt2 _ _ e) (Nat.not_lt.mpr hb)
  have fresh₀ : ∀ b, D ≤ b → h₀.get? b = none := fun b hb => by
    cases e : h₀.get? b with
    | none => rfl
    | some o' => have := F.keep b o' e; rw [fresh b hb] at this; cases this
  have hD₀ : h₀.get? D = none := fresh₀ _ (Nat.le_refl _)
  have hC₀ : h₀.get? C = none := fresh₀ _ (by rw [hC]; exact Nat.le_succ _)
  have hc₀ : h₀.get? c = none := fresh₀ _ (by rw [hc]; exact Nat.le_add_right _ _)
  have hLlt : L < D := hDe ▸ F.ns.lt
  have hDL : D ≠ L := Ne.symm (below L hLlt).2.2
  have hCL : C ≠ L := Ne.symm (below L hLlt).1
  have hcL : c ≠ L := Ne.symm (below L hLlt).2.1
  have hCI : I ≠ C := (below I hI).1
  have hcI : I ≠ c := (below I hI).2.1
  have hDI : I ≠ D := (below I hI).2.2
  have ltN : ∀ p ∈ news, p.1 < D := fun p hp => lt2 _ _ (N p hp).1
  have off₀ : Off4 I C c D news := Off4.of fun p hp => ⟨off p hp, (below _ (ltN p hp)).1, (below _ (ltN p hp)).2.1, (below _ (ltN p hp)).2.2⟩
  have loop : ∀ s₃ : Shared, s₃ = { s₂ with heap := h₁ } →
      codeAny (model prog w) A (.compLoop (.ListComp elt [⟨.Name x px, iter, [], 0⟩] scope pos) 0 (.ref I) (.ref D) (compEnvC scope ((x, c) :: cl) C env))
        (RR (.ref D) C) s₃ := by
    rintro s₃ rfl
    refine codeAny_compLoop_list
      (fun k s' => ∃ h' tk i ys m' news' oc v₀, s' = { s₂ with heap := h', toks := tk } ∧ i ≤ n ∧ k = n + 1 - i ∧ ys.length = i ∧ IsRangeIter h' I (a + (i : Nat) * 1) ((n : Int) - (i : Nat)) 1 ∧ Fr h₀ L h' m ∧ h'.Ns C m' ∧ oc.data = .cell v₀ ∧ News h₀ L h' ((c, oc) :: (D, LCg.lst ys) :: news') ∧
        Off4 I C c D news' ∧ CRest prog w A h₀ L m env elt x scope cl s₂ a Fin (n - i) i ys news') ?_ (n + 1)
      ⟨h₁, _, 0, [], _, news, { cls := .type "cell", data := .cell none }, none, rfl, Nat.zero_le _, rfl, rfl, W.frame _ _ _ hst fun b _ o e => old b o e, F.keeps old, hnsC, rfl, fun p hp => ?_, off₀, R⟩
    · rintro k s' ⟨h', tk, i, ys, m', news', oc, v₀, rfl, hi, rfl, hyl, hst', F', hn', hoc, N', off', R'⟩
      by_cases hlt : i < n
      · obtain ⟨j, hj⟩ : ∃ j, n - i = j + 1 := ⟨n - i - 1, by omega⟩
        rw [hj] at R'
        refine W.item i _ _ _ hlt hst' fun v h₂ tk₂ hPv hst₂ hk₂ => ?_
        obtain ⟨t, rfl⟩ := hPv
        have off3 := off'.mem
        have N₂ : News h₀ L h₂ ((c, oc) :: (D, LCg.lst ys) :: news') := LCg.news_but N' hk₂ fun p hp => by
          rcases List.mem_cons.mp hp with rfl | hp
          · exact Ne.symm hcI
          · rcases List.mem_cons.mp hp with rfl | hp
            · exact Ne.symm hDI
            · exact (off3 p hp).1
        have F₂ : Fr h₀ L h₂ m := LCg.fr_but F' hk₂ hIL hI₀
        have hn₂ : h₂.Ns C m' := hn'.at' fun o e => hk₂ _ o (by simpa using Ne.symm hCI) e
        refine wpAny_assign_Name (wpAny_storeName_cell (c := c) (by simp [compEnvC, relabel, hkind]) hx (by simp [compEnvC]) ⟨oc, (N₂ _ List.mem_cons_self).1, hoc⟩ (fun h₃ hv₃ hs₃ => ?_))
        obtain ⟨oc', hc3, hoc'⟩ := hv₃
        have F₃ : Fr h₀ L h₃ m := ⟨F₂.ns.sameBut hs₃ (Ne.symm hcL), fun b ob e => (hs₃.2 b (fun q => by rw [q, hc₀] at e; cases e)).trans (F₂.keep b ob e), F₂.above⟩
        have hn₃ : h₃.Ns C m' := hn₂.sameBut hs₃ hCc
        have hst₃ : IsRangeIter h₃ I (a + ((i + 1 : Nat) : Nat) * 1) ((n : Int) - ((i + 1 : Nat) : Nat)) 1 := W.frame _ _ _ hst₂ fun b hb o e => (hs₃.2 b (by rw [List.mem_singleton.mp hb]; exact hcI)).trans e
        have heI : ∃ oI, h₃.get? I = some oI := ⟨_, hst₃⟩
        obtain ⟨oI, heI⟩ := heI
        obtain ⟨oC, heC, hoC⟩ := LCg.ns_obj hn₃
        have N₃ : News h₀ L h₃ ((I, oI) :: (C, oC) :: (c, oc') :: (D, LCg.lst ys) :: news') := fun p hp => by
          rcases List.mem_cons.mp hp with rfl | hp
          · exact ⟨heI, Ne.symm hIL, hI₀⟩
          · rcases List.mem_cons.mp hp with rfl | hp
            · exact ⟨heC, hCL, hC₀⟩
            · rcases List.mem_cons.mp hp with rfl | hp
              · exact ⟨hc3, hcL, hc₀⟩
              · have z := N₂ p (List.mem_cons_of_mem _ hp)
                refine ⟨(hs₃.2 _ ?_).trans z.1, z.2⟩
                rcases List.mem_cons.mp hp with rfl | hp
                · exact hDc
                · exact (off3 p hp).2.2.1
        refine wpAny_mono (R' I oI C oC c oc' D t h₃ _ _ hoc' F₃ N₃ off' ⟨hCI, hcI, hDI, hCc, Ne.symm hDC, Ne.symm hDc⟩) (fun y s₄ h₄ => ?_) fun _ _ e => e
        obtain ⟨h₄, tk₄, news₄, rfl, F₄, N₄, off₄, R₄⟩ := h₄
        have zI := (N₄ (I, oI) List.mem_cons_self).1
        have zC := (N₄ (C, oC) (List.mem_cons_of_mem _ List.mem_cons_self)).1
        have zc := (N₄ (c, oc') (List.mem_cons_of_mem _ (List.mem_cons_of_mem _ List.mem_cons_self))).1
        have zD := (N₄ (D, LCg.lst ys) (List.mem_cons_of_mem _ (List.mem_cons_of_mem _ (List.mem_cons_of_mem _ List.mem_cons_self)))).1
        have N₄' : News h₀ L h₄ news₄ := fun p hp => N₄ p (List.mem_cons_of_mem _ (List.mem_cons_of_mem _ (List.mem_cons_of_mem _ (List.mem_cons_of_mem _ hp))))
        have hst₄ : IsRangeIter h₄ I (a + ((i + 1 : Nat) : Nat) * 1) ((n : Int) - ((i + 1 : Nat) : Nat)) 1 := LCg.range_st (i + 1) _ _ _ _ hst₃ heI zI F₄.keep N₄' trivial
        refine append_at (hsz := by show ys.toArray.size ≤ sizeLine; rw [List.size_toArray, hyl]; exact Nat.le_trans hi hsz) zD fun h₅ hs₅ hD₅ => ?_
        have off4 := off₄.mem
        refine ⟨n + 1 - (i + 1), by omega, h₅, tk₄, i + 1, ys ++ [y], _, news₄, oc', _, rfl, hlt, rfl, by rw [List.length_append, List.length_singleton, hyl], W.frame _ _ _ hst₄ fun b hb o e => hs₅.extBut b o (fun q => hDI (by rw [← q]; exact (List.mem_singleton.mp hb).symm)) e, F₄.change hs₅ hDL hD₀,
          (hoC.ns zC).sameBut hs₅ (Ne.symm hDC), hoc', fun p hp => ?_, off₄, ?_⟩
        · rcases List.mem_cons.mp hp with rfl | hp
          · exact ⟨hs₅.extBut _ _ (Ne.symm hDc) zc, hcL, hc₀⟩
          · rcases List.mem_cons.mp hp with rfl | hp
            · exact ⟨hD₅.trans (congrArg some (LCg.lst_snoc ys y)), hDL, hD₀⟩
            · exact ⟨hs₅.extBut _ _ (off4 p hp).2.2.2 (N₄' p hp).1, (N₄' p hp).2⟩
        · rw [show n - (i + 1) = j by omega]
          exact R₄
      · obtain rfl : i = n := Nat.le_antisymm hi (Nat.not_lt.mp hlt)
        rw [Nat.sub_self] at R'
        refine W.done _ _ _ hst' fun h₂ tk₂ hk₂ => ?_
        have off3 := off'.mem
        exact hRR _ _ h₂ tk₂ _ ys news' (LCg.fr_but F' hk₂ hIL hI₀) (LCg.news_but (fun p hp => N' p (List.mem_cons_of_mem _ hp)) hk₂ fun p hp => by
          rcases List.mem_cons.mp hp with rfl | hp
          · exact Ne.symm hDI
          · exact (off3 p hp).1) off'.one (hn'.at' fun o e => hk₂ _ o (by simpa using Ne.symm hCI) e) hC₀ hD₀ hCL hDL (Ne.symm hDC) (fun p hp => (off3 p hp).2.1) R'
    · rcases List.mem_cons.mp hp with rfl | hp
      · exact ⟨hcc, hcL, hc₀⟩
      · rcases List.mem_cons.mp hp with rfl | hp
        · exact ⟨hacc, hDL, hD₀⟩
        · exact ⟨old _ _ (N p hp).1, (N p hp).2⟩
  exact codeAny_compStart_list (loop _ rfl) (W.self 0 _ _ _ (W.frame _ _ _ hst fun b _ o e => old b o e) (loop _ rfl))

def CSrc (prog : Program) (w : World) (A : Around) (h₀ : Heap) (L : Addr) (m : Str → Option Value) (env : Env) (elt : Expr) (x : Str) (scope : Scope) (cl : List (Str × Addr)) (Fin : Shared → List Value → List (Addr × Obj) → Prop) (xv : Value) (s₁ : Shared) : Prop :=
  ∃ r a b t u v n news, xv = .ref r ∧ A.handled = none ∧ Fr h₀ L s₁.heap m ∧ News h₀ L s₁.heap news ∧ IsRange s₁.heap r a b 1 t u v ∧ Builtin.Range.small a b 1 = true ∧ Builtin.Range.rangeSize a b 1 = ((n : Nat) : Int) ∧ n ≤ sizeLine ∧
    ∀ g, CRest prog w A h₀ L m env elt x scope cl { s₁ with heap := g } a (Fin { s₁ with heap := g }) n 0 [] news

theorem Assign_ListComp_C {elt iter : Expr} {x y : Str} {px py : Pos} {scope : Scope} {cl : List (Str × Addr)} {pos spos : Pos} {Q : Flow → Shared → Prop} (F₀ : Fr h₀ L s.heap m) (hLe : env.locals = L)
    (hsw : swapsWith (.ListComp elt [⟨.Name x px, iter, [], 0⟩] scope pos) (some (.Name y py)) spos.line env = pure true)
    (hclos : closureFor scope env = pure cl) (hcells : ∀ n : Nat, cellsFrom n scope.names cl = (x, n) :: cl) (hpush : ∀ h, pushCells h scope.names = h.push { cls := .type "cell", data := .cell none }) (hkind : scope.kind = .function)
    (hnames : ∀ z ∈ scope.names, z.2 = .local → scope.names.lookup z.1 = some .local) (hx : (relabel scope env).names.lookup x = some .cell)
    (hy : env.kindOf y = some .local) (hp : (env.scope.kind == .class || (env.scope.kind == .module && env.locals != env.globals)) = false)
    (h : wpAny (model prog w) A (eval iter env) (CSrc prog w A h₀ L m env elt x scope cl (fun s₂ => LCg.FinA h₀ L m s₂ y Q)) E s)
    (hs : ∀ x, foldedSetIterable iter env x = pure x := by intro _; rfl) :
    wpAny (model prog w) A (exec (.Assign [.Name y py] (.ListComp elt [⟨.Name x px, iter, [], 0⟩] scope pos) spos) env) Q E s := by
  subst hLe
  rw [exec_Assign_Name_used _ _ _ _ hsw]
  refine wpAny_bind (wpAny_standAt (wpAny_bind ?_))
  show wpAny _ A (do let _ ← comprehension (.ListComp elt [⟨.Name x px, iter, [], 0⟩] scope pos) scope env _ (newList []) false (eval iter env) (some (assign (.Name y py) env))) _ _ s
  refine wpAny_bind (wpAny_mono (wpAny_comprehension_free (use := some (assign (.Name y py) env)) (Q := fun _ s' => Q .next s') rfl hs hclos hkind hnames
    (wpAny_mono h (fun xv s₁ h₁ => ?_) fun _ _ e => e)) (fun _ s' hq => wpAny_pure (wpAny_pure hq)) fun _ _ e => e)
  obtain ⟨r, a, b, t, u, v, n, news, rfl, hh, F, N, hr, hsm, hn, hsz, R⟩ := h₁
  refine wpAny_pyIter_range hr hsm ?_
  refine block_C (LCg.range_walks hh a n) hsz hcells hpush hkind hx (by show IsRangeIter _ _ _ _ _; rw [hn]; simpa using Heap.get?_push_size _ rfl) (by show s₁.heap.objs.size < (s₁.heap.push _).objs.size; rw [Heap.size_push]; exact Nat.lt_succ_self _)
    (F.keeps fun _ _ e => Heap.get?_push_of_some _ e) (N.grown fun _ _ e => Heap.get?_push_of_some _ e) (Nat.ne_of_lt F.ns.lt) (next_is_new F) (fun p hp => Nat.ne_of_lt (Heap.lt_size (N p hp).1)) (R _) ?_
  intro D C h' tk m' ys news' F' N' o1 hn hC₀ hD₀ hCL hDL hCD offC fin
  show wpAny _ A (assign (.Name y py) env (.ref D)) _ _ _
  refine wpAny_assign_Name (wpAny_storeName_local hy F'.ns (fun h₂ hn₂ hs₂ => ?_) hp)
  have hL₀ : h₀.get? env.locals = none := Heap.get?_none_of_le F'.above
  have F₂ : Fr h₀ env.locals h₂ (fun z => if z = y then some (.ref D) else m z) := ⟨hn₂, fun b o e => hs₂.extBut b o (fun q => by rw [q, hL₀] at e; cases e) (F'.keep b o e), F'.above⟩
  refine ⟨m', hn.sameBut hs₂ hCL, fun h'' hs'' => fin D h'' _ (F₂.change hs'' hCL hC₀) (fun p hp => ?_) o1⟩
  have z : h₂.get? p.1 = some p.2 := hs₂.extBut _ _ (N' p hp).2.1 (N' p hp).1
  refine ⟨hs''.extBut _ _ ?_ z, (N' p hp).2⟩
  rcases List.mem_cons.mp hp with rfl | hp
  · exact Ne.symm hCD
  · exact offC p hp
theorem CSrc.range {elt : Expr} {x : Str} {scope : Scope} {cl : List (Str × Addr)} {Fin : Shared → List Value → List (Addr × Obj) → Prop} {r : Addr} {a b : Int} {t u v : Tok} {n : Nat} {news : List (Addr × Obj)} {s₁ : Shared}
    (hh : A.handled = none) (F : Fr h₀ L s₁.heap m) (N : News h₀ L s₁.heap news) (hr : IsRange s₁.heap r a b 1 t u v) (hsm : Builtin.Range.small a b 1 = true) (hn : Builtin.Range.rangeSize a b 1 = ((n : Nat) : Int)) (hsz : n ≤ sizeLine)
    (h : ∀ g, CRest prog w A h₀ L m env elt x scope cl { s₁ with heap := g } a (Fin { s₁ with heap := g }) n 0 [] news) :
    CSrc prog w A h₀ L m env elt x scope cl Fin (.ref r) s₁ := ⟨r, a, b, t, u, v, n, news, rfl, hh, F, N, hr, hsm, hn, hsz, h⟩
theorem CRest.succ {elt : Expr} {x : Str} {scope : Scope} {cl : List (Str × Addr)} {a : Int} {Fin : List Value → List (Addr × Obj) → Prop} {k i : Nat} {ys : List Value} {news : List (Addr × Obj)}
    (h : ∀ I oI C oC c oc D t h tk (E' : Value → Shared → Prop), oc.data = .cell (some (.int (a + (i : Int)) t)) → Fr h₀ L h m → News h₀ L h ((I, oI) :: (C, oC) :: (c, oc) :: (D, LCg.lst ys) :: news) → Off4 I C c D news →
      ((@Ne Nat I C) ∧ (@Ne Nat I c) ∧ (@Ne Nat I D) ∧ (@Ne Nat C c) ∧ (@Ne Nat C D) ∧ (@Ne Nat c D)) →
      wpAny (model prog w) A (eval elt (compEnvC scope ((x, c) :: cl) C env)) (CEnd h₀ L m { s with heap := h, toks := tk } I oI C oC c oc D (LCg.lst ys) (fun y news' => CRest prog w A h₀ L m env elt x scope cl s a Fin k (i + 1) (ys ++ [y]) news')) E' { s with heap := h, toks := tk }) :
    CRest prog w A h₀ L m env elt x scope cl s a Fin (k + 1) i ys news := h
theorem CRest.zero {elt : Expr} {x : Str} {scope : Scope} {cl : List (Str × Addr)} {a : Int} {Fin : List Value → List (Addr × Obj) → Prop} {i : Nat} {ys : List Value} {news : List (Addr × Obj)} (h : Fin ys news) :
    CRest prog w A h₀ L m env elt x scope cl s a Fin 0 i ys news := h
theorem CEnd.intro {I C c D : Addr} {s₁ : Shared} {oI oC oc oD : Obj} {rest : Value → List (Addr × Obj) → Prop} {y : Value} {h' : Heap} {tk : Nat} {all : List (Addr × Obj)}
    (F : Fr h₀ L h' m) (N : News h₀ L h' all) (news' : List (Addr × Obj)) (sub : ∀ p ∈ (I, oI) :: (C, oC) :: (c, oc) :: (D, oD) :: news', p ∈ all) (off : Off4 I C c D news') (r : rest y news') :
    CEnd h₀ L m s₁ I oI C oC c oc D oD rest y { s₁ with heap := h', toks := tk } := ⟨h', tk, news', rfl, F, fun p hp => N p (sub p hp), off, r⟩
theorem CEnd.one {I C c D : Addr} {s₁ : Shared} {oI oC oc oD : Obj} {rest : Value → List (Addr × Obj) → Prop} {y : Value} {h' : Heap} {tk : Nat} {d : Addr × Obj} {tl : List (Addr × Obj)}
    (F : Fr h₀ L h' m) (N : News h₀ L h' (d :: (I, oI) :: (C, oC) :: (c, oc) :: (D, oD) :: tl)) (o : (@Ne Nat d.1 I) ∧ (@Ne Nat d.1 C) ∧ (@Ne Nat d.1 c) ∧ (@Ne Nat d.1 D)) (off : Off4 I C c D tl) (r : rest y (d :: tl)) :
    CEnd h₀ L m s₁ I oI C oC c oc D oD rest y { s₁ with heap := h', toks := tk } :=
  CEnd.intro F N (d :: tl) (fun p hp => by simp only [List.mem_cons] at hp ⊢; rcases hp with h | h | h | h | h | h <;> simp [h]) ⟨o, off⟩ r
end
/-- the row of a side, out of the script -/
def rowI (ns : List Int) (side : Int) : List Int :=
  (rangeKs 0 ((cellAt ns (3 + side) (4 - side)).fmod 7).toNat).map fun k => (cellAt ns (5 + 6 * side + k) (37 * k + 11 * side + 3)).fmod (2 ^ (1 + (cellAt ns 0 7).fmod 9).toNat)
theorem row_eq {ns : List Int} {side : Int} {g : Int → Int} {n : Nat} {ys : List Value} (h : IntsAre ys ((rangeKs 0 n).map g)) (hn : n = ((cellAt ns (3 + side) (4 - side)).fmod 7).toNat)
    (hg : ∀ k, g k = (cellAt ns (5 + 6 * side + k) (37 * k + 11 * side + 3)).fmod (2 ^ (1 + (cellAt ns 0 7).fmod 9).toNat)) : IntsAre ys (rowI ns side) := by
  subst hn
  have e : g = fun k => (cellAt ns (5 + 6 * side + k) (37 * k + 11 * side + 3)).fmod (2 ^ (1 + (cellAt ns 0 7).fmod 9).toNat) := funext hg
  subst e
  exact h
theorem row_use {P : Prop} {ns : List Int} (side : Int) {b : Heap} {l : Addr} {vs : List Value} (_ : b.IsList l vs.toArray) (_ : IntsAre vs ns) {g : Int → Int} {n : Nat} {ys : List Value} (h : IntsAre ys ((rangeKs 0 n).map g)) (hn : n = ((cellAt ns (3 + side) (4 - side)).fmod 7).toNat)
    (hg : ∀ k, g k = (cellAt ns (5 + 6 * side + k) (37 * k + 11 * side + 3)).fmod (2 ^ (1 + (cellAt ns 0 7).fmod 9).toNat)) (k : IntsAre ys (rowI ns side) → P) : P := k (row_eq h hn hg)
end

-- the laws of regrouping
section
variable {f t : Int}
theorem good_toInts {ns : List Nat} (h : ∀ d ∈ ns, d < 2 ^ f.toNat) : Good f (toInts ns) := by
  intro d hd
  obtain ⟨n, hn, rfl⟩ := List.mem_map.mp hd
  have h1 := h n hn
  have h2 := cast_pow f.toNat
  omega
theorem good_digits (t : Int) (q v : Nat) : Good t (toInts (digits t.toNat q v)) := good_toInts (digits_lt t.toNat q v)
/-- the number that a row is -/
def num (f : Int) (ds : List Int) : Nat := val f.toNat (ds.map Int.toNat)
/-- the row's bits -/
def bitsOf (f : Int) (ds : List Int) : Nat := ds.length * f.toNat
theorem num_lt {ds : List Int} (h : Good f ds) : num f ds < 2 ^ bitsOf f ds := by
  have h1 := val_lt f.toNat (ds.map Int.toNat) (good_nat h)
  rw [List.length_map] at h1
  exact h1
theorem num_digits {q v : Nat} (h : v < 2 ^ (q * t.toNat)) : num t (toInts (digits t.toNat q v)) = v := by
  unfold num
  rw [toInts_nat, val_digits _ _ _ h]
theorem bits_digits {q v : Nat} : bitsOf t (toInts (digits t.toNat q v)) = q * t.toNat := by
  unfold bitsOf
  rw [toInts_len, digits_len]
theorem digits_num {ds : List Int} (h : Good f ds) : toInts (digits f.toNat ds.length (num f ds)) = ds := by
  have h1 := digits_val f.toNat (ds.map Int.toNat) (good_nat h)
  rw [List.length_map] at h1
  unfold num
  rw [h1, good_ints h]
/-- regrouped, nothing left over -/
theorem cv_div {ds : List Int} {q : Nat} (pad : Bool) (h : Good f ds) (hf : 1 ≤ f) (ht : 1 ≤ t) (hq : bitsOf f ds = q * t.toNat) : cv ds f t pad = some (toInts (digits t.toNat q (num f ds))) := by
  have e1 : ds.length * f.toNat % t.toNat = 0 := by
    show bitsOf f ds % t.toNat = 0
    rw [hq, Nat.mul_mod_left]
  have e2 : ds.length * f.toNat / t.toNat = q := by
    show bitsOf f ds / t.toNat = q
    rw [hq, Nat.mul_div_cancel _ (by omega)]
  rw [cv_is h]
  cases pad with
  | true =>
    simp only [cvNat, List.length_map, if_true]
    rw [e1, e2, if_pos rfl, Option.map_some, List.append_nil, Nat.pow_zero, Nat.div_one]
    rfl
  | false =>
    simp only [cvNat, List.length_map, Bool.false_eq_true, if_false]
    rw [e1, e2, if_neg ?_, Option.map_some, Nat.pow_zero, Nat.div_one]
    · rfl
    · rw [Nat.sub_zero, Nat.mul_mod_left]
      omega
/-- regrouped and padded -/
theorem cv_ceil {ds : List Int} {c p : Nat} (h : Good f ds) (hf : 1 ≤ f) (ht : 1 ≤ t) (hc : c * t.toNat = bitsOf f ds + p) (hp : p < t.toNat) : cv ds f t true = some (toInts (digits t.toNat c (num f ds * 2 ^ p))) := by
  by_cases h0 : p = 0
  · subst h0
    rw [cv_div true h hf ht (q := c) (by omega), Nat.pow_zero, Nat.mul_one]
  · have hb : bitsOf f ds = t.toNat * (c - 1) + (t.toNat - p) := by
      have hc0 : c ≠ 0 := by
        intro e
        rw [e, Nat.zero_mul] at hc
        omega
      obtain ⟨k, rfl⟩ : ∃ k, c = k + 1 := ⟨c - 1, by omega⟩
      rw [Nat.succ_mul] at hc
      rw [Nat.add_sub_cancel, Nat.mul_comm]
      omega
    have e1 : ds.length * f.toNat % t.toNat = t.toNat - p := by
      show bitsOf f ds % t.toNat = _
      rw [hb, Nat.mul_add_mod, Nat.mod_eq_of_lt (by omega)]
    have e2 : ds.length * f.toNat / t.toNat = c - 1 := by
      show bitsOf f ds / t.toNat = _
      rw [hb, Nat.mul_add_div (by omega), Nat.div_eq_of_lt (by omega), Nat.add_zero]
    have hc0 : c ≠ 0 := by
      intro e
      rw [e, Nat.zero_mul] at hc
      omega
    rw [cv_is h]
    simp only [cvNat, List.length_map, if_true]
    rw [e1, e2, if_neg (by omega), Option.map_some]
    have e3 : t.toNat - (t.toNat - p) = p := by omega
    rw [e3]
    obtain ⟨k, rfl⟩ : ∃ k, c = k + 1 := ⟨c - 1, by omega⟩
    rw [digits_shift t.toNat k (num f ds) p (t.toNat - p) (by omega)]
    rfl
/-- back again, fewer than a group's bits padded -/
theorem cv_back {ds : List Int} {c p : Nat} (h : Good f ds) (hf : 1 ≤ f) (ht : 1 ≤ t) (hc : c * t.toNat = bitsOf f ds + p) (hp : p < t.toNat) (htf : t ≤ f) :
    cv (toInts (digits t.toNat c (num f ds * 2 ^ p))) t f false = some ds := by
  have hlt : num f ds * 2 ^ p < 2 ^ (c * t.toNat) := by
    rw [hc, Nat.pow_add]
    exact Nat.mul_lt_mul_of_pos_right (num_lt h) (Nat.two_pow_pos p)
  have hG := good_digits t c (num f ds * 2 ^ p)
  have hb : c * t.toNat = f.toNat * ds.length + p := by
    rw [hc, Nat.mul_comm]
    rfl
  have e0 : (toInts (digits t.toNat c (num f ds * 2 ^ p))).length = c := by rw [toInts_len, digits_len]
  have e1 : c * t.toNat % f.toNat = p := by rw [hb, Nat.mul_add_mod, Nat.mod_eq_of_lt (by omega)]
  have e2 : c * t.toNat / f.toNat = ds.length := by rw [hb, Nat.mul_add_div (by omega), Nat.div_eq_of_lt (by omega), Nat.add_zero]
  rw [cv_is hG]
  simp only [cvNat, List.length_map, Bool.false_eq_true, if_false]
  rw [e0, e1, e2, if_neg ?_, Option.map_some]
  · congr 1
    rw [show val t.toNat ((toInts (digits t.toNat c (num f ds * 2 ^ p))).map Int.toNat) = num f ds * 2 ^ p from num_digits hlt, Nat.mul_div_cancel _ (Nat.two_pow_pos p)]
    exact digits_num h
  · rw [show val t.toNat ((toInts (digits t.toNat c (num f ds * 2 ^ p))).map Int.toNat) = num f ds * 2 ^ p from num_digits hlt]
    have e3 : num f ds * 2 ^ p * 2 ^ (f.toNat - p) % 2 ^ f.toNat = 0 := by
      rw [Nat.mul_assoc, ← Nat.pow_add, show p + (f.toNat - p) = f.toNat by omega, Nat.mul_mod_left]
    rw [e3]
    omega
/-- a row and its own size -/
theorem cv_self {ds : List Int} (pad : Bool) (h : Good f ds) (hf : 1 ≤ f) : cv ds f f pad = some ds := by
  rw [cv_div pad h hf hf (q := ds.length) rfl]
  exact congrArg some (digits_num h)
/-- by way of another size -/
theorem cv_way {ds : List Int} {q : Nat} {g : Int} {r : Nat} (pad : Bool) (h : Good f ds) (hf : 1 ≤ f) (ht : 1 ≤ t) (hg : 1 ≤ g) (hq : bitsOf f ds = q * t.toNat) (hr : bitsOf f ds = r * g.toNat) :
    cv (toInts (digits t.toNat q (num f ds))) t g pad = some (toInts (digits g.toNat r (num f ds))) := by
  have hlt := num_lt h
  rw [hq] at hlt
  rw [cv_div pad (good_digits t q (num f ds)) ht hg (q := r) (by rw [bits_digits, ← hq, hr]), num_digits hlt]
theorem num_append {a b : List Int} : num f (a ++ b) = num f a * 2 ^ bitsOf f b + num f b := by
  unfold num bitsOf
  rw [List.map_append, val_append, List.length_map]
theorem bits_append {a b : List Int} : bitsOf f (a ++ b) = bitsOf f a + bitsOf f b := by
  unfold bitsOf
  rw [List.length_append, Nat.add_mul]
/-- laid end to end -/
theorem cv_join {a b : List Int} {q c p : Nat} (ha : Good f a) (hb : Good f b) (hf : 1 ≤ f) (ht : 1 ≤ t) (hq : bitsOf f a = q * t.toNat) (hc : c * t.toNat = bitsOf f b + p) (hp : p < t.toNat) :
    cv (a ++ b) f t true = some (toInts (digits t.toNat q (num f a)) ++ toInts (digits t.toNat c (num f b * 2 ^ p))) := by
  have hlt : num f b * 2 ^ p < 2 ^ (c * t.toNat) := by
    rw [hc, Nat.pow_add]
    exact Nat.mul_lt_mul_of_pos_right (num_lt hb) (Nat.two_pow_pos p)
  rw [cv_ceil (good_append ha hb) hf ht (c := q + c) (p := p) (by rw [Nat.add_mul, bits_append]; omega) hp, ← toInts_append, ← digits_append t.toNat q (num f a) c _ hlt]
  congr 3
  rw [num_append, hc, Nat.pow_add, Nat.add_mul, Nat.mul_assoc]
end

-- what each call of the law gives
abbrev S (ns : List Int) : Int := 1 + (cellAt ns 0 7).fmod 9
abbrev O (ns : List Int) : Int := 1 + (cellAt ns 1 4).fmod 9
abbrev T (ns : List Int) : Int := 1 + (cellAt ns 2 1).fmod 9
def firstI (ns : List Int) : List Int := (List.replicate (O ns).toNat (rowI ns 0)).flatten
def madeI (ns : List Int) : List Int := (cv (firstI ns) (S ns) (O ns) true).getD []
def padI (ns : List Int) : List Int := (cv (rowI ns 1) (S ns) (O ns) true).getD []
def midI (ns : List Int) : List Int := (cv (firstI ns) (S ns) (T ns) true).getD []
structure Facts (ns : List Int) : Prop where
  s0 : 0 ≤ (cellAt ns 0 7).fmod 9
  s1 : (cellAt ns 0 7).fmod 9 < 9
  o0 : 0 ≤ (cellAt ns 1 4).fmod 9
  o1 : (cellAt ns 1 4).fmod 9 < 9
  t0 : 0 ≤ (cellAt ns 2 1).fmod 9
  t1 : (cellAt ns 2 1).fmod 9 < 9
  l0 : (rowI ns 0).length ≤ 6
  l1 : (rowI ns 1).length ≤ 6
  lf : (firstI ns).length ≤ 54
  lm : (madeI ns).length ≤ 54
  lp : (padI ns).length ≤ 55
  ld : (midI ns).length ≤ 487
  em : ((madeI ns).length : Int) * O ns = ((firstI ns).length : Int) * S ns
  ep : ((padI ns).length : Int) = -((-((rowI ns 1).length : Int) * S ns).fdiv (O ns))
  p0 : 0 ≤ (cellAt ns 17 1).fmod (((firstI ns).length : Int) + 1)
  p1 : (cellAt ns 17 1).fmod (((firstI ns).length : Int) + 1) < ((firstI ns).length : Int) + 1
theorem rem9 (x : Int) : 1 ≤ 1 + x.fmod 9 ∧ 1 + x.fmod 9 ≤ 9 := by
  have h1 := fmod_lo x (n := 9) (by decide)
  have h2 := fmod_hi x (n := 9) (by decide)
  omega
theorem rS (ns : List Int) : 1 ≤ S ns ∧ S ns ≤ 9 := rem9 _
theorem rO (ns : List Int) : 1 ≤ O ns ∧ O ns ≤ 9 := rem9 _
theorem rT (ns : List Int) : 1 ≤ T ns ∧ T ns ≤ 9 := rem9 _
theorem good_row (ns : List Int) (side : Int) : Good (S ns) (rowI ns side) := by
  intro d hd
  obtain ⟨k, _, rfl⟩ := List.mem_map.mp hd
  exact kbt_rest _ _
theorem good_flat {f : Int} {a : List Int} (h : Good f a) (n : Nat) : Good f (List.replicate n a).flatten := by
  intro d hd
  obtain ⟨l, hl, hd⟩ := List.mem_flatten.mp hd
  rw [List.eq_of_mem_replicate hl] at hd
  exact h d hd
theorem good_first (ns : List Int) : Good (S ns) (firstI ns) := good_flat (good_row ns 0) _
theorem len_row (ns : List Int) (side : Int) : (rowI ns side).length ≤ 6 := by
  unfold rowI
  rw [List.length_map, rangeKs_length]
  have h1 := fmod_lo (cellAt ns (3 + side) (4 - side)) (n := 7) (by decide)
  have h2 := fmod_hi (cellAt ns (3 + side) (4 - side)) (n := 7) (by decide)
  omega
theorem len_first (ns : List Int) : (firstI ns).length = (rowI ns 0).length * (O ns).toNat := KM.len_rep _ _
/-- groups of the first row in the new size -/
def qO (ns : List Int) : Nat := (rowI ns 0).length * (S ns).toNat
theorem bits_first (ns : List Int) : bitsOf (S ns) (firstI ns) = qO ns * (O ns).toNat := by
  unfold bitsOf qO
  rw [len_first, Nat.mul_assoc, Nat.mul_comm (O ns).toNat, ← Nat.mul_assoc]
theorem cv1 (ns : List Int) : cv (firstI ns) (S ns) (O ns) true = some (madeI ns) := by
  unfold madeI
  rw [cv_div true (good_first ns) (rem9 _).1 (rem9 _).1 (bits_first ns)]
  rfl
theorem made_is (ns : List Int) : madeI ns = toInts (digits (O ns).toNat (qO ns) (num (S ns) (firstI ns))) := by
  have h := cv1 ns
  rw [cv_div true (good_first ns) (rem9 _).1 (rem9 _).1 (bits_first ns)] at h
  exact (Option.some.inj h).symm
theorem cv2 (ns : List Int) : cv (firstI ns) (S ns) (O ns) false = some (madeI ns) := by
  rw [made_is, cv_div false (good_first ns) (rem9 _).1 (rem9 _).1 (bits_first ns)]
theorem ceil_of (b t : Nat) (ht : 1 ≤ t) : ∃ c p, c * t = b + p ∧ p < t := by
  by_cases h : b % t = 0
  · exact ⟨b / t, 0, by have := Nat.div_add_mod b t; rw [Nat.mul_comm]; omega, ht⟩
  · refine ⟨b / t + 1, t - b % t, ?_, by omega⟩
    have h1 := Nat.div_add_mod b t
    have h2 : b % t < t := Nat.mod_lt _ ht
    rw [Nat.succ_mul, Nat.mul_comm]
    omega
theorem pad_is (ns : List Int) : ∃ c p, c * (O ns).toNat = bitsOf (S ns) (rowI ns 1) + p ∧ p < (O ns).toNat ∧ padI ns = toInts (digits (O ns).toNat c (num (S ns) (rowI ns 1) * 2 ^ p)) := by
  have hO := rO ns
  obtain ⟨c, p, hc, hp⟩ := ceil_of (bitsOf (S ns) (rowI ns 1)) (O ns).toNat (by omega)
  refine ⟨c, p, hc, hp, ?_⟩
  unfold padI
  rw [cv_ceil (good_row ns 1) (rem9 _).1 (rem9 _).1 hc hp]
  rfl
theorem cv4 (ns : List Int) : cv (rowI ns 1) (S ns) (O ns) true = some (padI ns) := by
  obtain ⟨c, p, hc, hp, e⟩ := pad_is ns
  rw [e, cv_ceil (good_row ns 1) (rem9 _).1 (rem9 _).1 hc hp]
theorem cv3 (ns : List Int) : cv (firstI ns ++ rowI ns 1) (S ns) (O ns) true = some (madeI ns ++ padI ns) := by
  obtain ⟨c, p, hc, hp, e⟩ := pad_is ns
  rw [e, made_is, cv_join (good_first ns) (good_row ns 1) (rem9 _).1 (rem9 _).1 (bits_first ns) hc hp]
theorem cv5 (ns : List Int) : cv (madeI ns) (O ns) (S ns) false = some (firstI ns) := by
  rw [made_is, cv_way false (good_first ns) (rem9 _).1 (rem9 _).1 (rem9 _).1 (bits_first ns) (r := (firstI ns).length) rfl]
  exact congrArg some (digits_num (good_first ns))
theorem cv6 (ns : List Int) : cv (rowI ns 0) (S ns) (S ns) true = some (rowI ns 0) := cv_self true (good_row ns 0) (rem9 _).1
theorem cv7 (ns : List Int) : cv (rowI ns 1) (S ns) (S ns) false = some (rowI ns 1) := cv_self false (good_row ns 1) (rem9 _).1
theorem bits_third (ns : List Int) (h : (((firstI ns).length : Int) * S ns).fmod (T ns) = 0) : ∃ q, bitsOf (S ns) (firstI ns) = q * (T ns).toNat := by
  have hT := rT ns
  have hS := rS ns
  refine ⟨bitsOf (S ns) (firstI ns) / (T ns).toNat, ?_⟩
  have e1 : (((firstI ns).length : Int) * S ns) = ((bitsOf (S ns) (firstI ns) : Nat) : Int) := by
    unfold bitsOf
    rw [Int.natCast_mul, Int.toNat_of_nonneg (by omega)]
  have e2 : T ns = (((T ns).toNat : Nat) : Int) := (Int.toNat_of_nonneg (by omega)).symm
  rw [e1, e2, Int.fmod_eq_emod_of_nonneg _ (Int.natCast_nonneg _), ← Int.natCast_emod] at h
  have h1 : bitsOf (S ns) (firstI ns) % (T ns).toNat = 0 := by omega
  have := Nat.div_add_mod (bitsOf (S ns) (firstI ns)) (T ns).toNat
  rw [Nat.mul_comm]
  omega
theorem cv8 (ns : List Int) (h : (((firstI ns).length : Int) * S ns).fmod (T ns) = 0) : cv (firstI ns) (S ns) (T ns) true = some (midI ns) := by
  obtain ⟨q, hq⟩ := bits_third ns h
  unfold midI
  rw [cv_div true (good_first ns) (rem9 _).1 (rem9 _).1 hq]
  rfl
theorem cv9 (ns : List Int) (h : (((firstI ns).length : Int) * S ns).fmod (T ns) = 0) : cv (midI ns) (T ns) (O ns) true = some (madeI ns) := by
  obtain ⟨q, hq⟩ := bits_third ns h
  have e : midI ns = toInts (digits (T ns).toNat q (num (S ns) (firstI ns))) := by
    unfold midI
    rw [cv_div true (good_first ns) (rem9 _).1 (rem9 _).1 hq]
    rfl
  rw [e, made_is, cv_way true (good_first ns) (rem9 _).1 (rem9 _).1 (rem9 _).1 hq (bits_first ns)]
theorem cv11 (ns : List Int) (h : O ns ≤ S ns) : cv (padI ns) (O ns) (S ns) false = some (rowI ns 1) := by
  obtain ⟨c, p, hc, hp, e⟩ := pad_is ns
  rw [e, cv_back (good_row ns 1) (rem9 _).1 (rem9 _).1 hc hp h]
def onesI (n : Int) (k : Int) : List Int := (List.replicate n.toNat [2 ^ k.toNat - 1]).flatten
theorem ones_is (n k : Int) : onesI n k = toInts (List.replicate n.toNat (2 ^ k.toNat - 1)) := by
  unfold onesI toInts
  rw [List.map_replicate]
  have e : ((2 ^ k.toNat - 1 : Nat) : Int) = 2 ^ k.toNat - 1 := by
    have h1 := cast_pow k.toNat
    have h2 := Nat.two_pow_pos k.toNat
    omega
  rw [e]
  generalize n.toNat = m
  induction m with
  | zero => rfl
  | succ m ih => rw [List.replicate_succ, List.flatten_cons, ih, List.replicate_succ]; rfl
theorem good_ones (n k : Int) : Good k (onesI n k) := by
  rw [ones_is]
  refine good_toInts fun d hd => ?_
  rw [List.eq_of_mem_replicate hd]
  have := Nat.two_pow_pos k.toNat
  omega
theorem len_ones (n k : Int) : (onesI n k).length = n.toNat := by rw [ones_is, toInts_len, List.length_replicate]
theorem num_ones (n k : Int) : num k (onesI n k) = 2 ^ (n.toNat * k.toNat) - 1 := by
  unfold num
  rw [ones_is, toInts_nat, val_ones]
theorem cv12 (ns : List Int) : cv (onesI (2 * O ns) (S ns)) (S ns) (O ns) true = some (onesI (2 * S ns) (O ns)) := by
  have hO := rO ns
  have hS := rS ns
  have e : (2 * O ns).toNat * (S ns).toNat = (2 * S ns).toNat * (O ns).toNat := by
    rw [show (2 * O ns).toNat = 2 * (O ns).toNat by omega, show (2 * S ns).toNat = 2 * (S ns).toNat by omega, Nat.mul_assoc, Nat.mul_assoc, Nat.mul_comm (O ns).toNat]
  rw [cv_div true (good_ones _ _) hS.1 hO.1 (q := (2 * S ns).toNat) (by unfold bitsOf; rw [len_ones, e])]
  have h := digits_num (good_ones (2 * S ns) (O ns))
  rw [len_ones, num_ones, ← e, ← num_ones] at h
  exact congrArg some h
theorem cv13 (ns : List Int) {bad : Int} {pre post : List Int} (h : bad < 0 ∨ 2 ^ (S ns).toNat ≤ bad) : cv (pre ++ [bad] ++ post) (S ns) (O ns) true = none := by
  refine cv_not fun g => ?_
  have := g bad (by simp)
  omega
theorem len_cv {ds out : List Int} {f t : Int} {pad : Bool} (h : cv ds f t pad = some out) (hf : f ≤ 9) (ht : 1 ≤ t) : out.length ≤ ds.length * 9 + 1 := by
  unfold cv at h
  by_cases g : Good f ds
  · rw [if_pos g] at h
    have h1 : ds.length * f.toNat / t.toNat ≤ ds.length * f.toNat := Nat.div_le_self _ _
    have h2 : ds.length * f.toNat ≤ ds.length * 9 := Nat.mul_le_mul_left _ (by omega)
    cases pad with
    | true =>
      simp only [cvNat, List.length_map, if_true, Option.map_some, Option.some.injEq] at h
      rw [← h, toInts_len, List.length_append, digits_len]
      split <;> simp <;> omega
    | false =>
      simp only [cvNat, List.length_map, Bool.false_eq_true, if_false] at h
      split at h
      · simp at h
      · simp only [Option.map_some, Option.some.injEq] at h
        rw [← h, toInts_len, digits_len]
        omega
  · rw [if_neg g] at h
    cases h
theorem len_mid (ns : List Int) (hl : (firstI ns).length ≤ 54) : (midI ns).length ≤ 487 := by
  unfold midI
  cases e : cv (firstI ns) (S ns) (T ns) true with
  | none => simp
  | some out =>
    have h := len_cv e (rem9 _).2 (rem9 _).1
    simp only [Option.getD_some]
    omega
theorem facts (ns : List Int) : Facts ns := by
  have hO := rO ns
  have hS := rS ns
  have hT := rT ns
  have l0 := len_row ns 0
  have l1 := len_row ns 1
  have lf : (firstI ns).length ≤ 54 := by
    rw [len_first]
    have : (rowI ns 0).length * (O ns).toNat ≤ 6 * 9 := Nat.mul_le_mul l0 (by omega)
    omega
  have lm0 : (madeI ns).length = qO ns := by rw [made_is, toInts_len, digits_len]
  have lm : (madeI ns).length ≤ 54 := by
    rw [lm0]
    have : (rowI ns 0).length * (S ns).toNat ≤ 6 * 9 := Nat.mul_le_mul l0 (by omega)
    unfold qO
    omega
  obtain ⟨c, p, hc, hp, e⟩ := pad_is ns
  have lp0 : (padI ns).length = c := by rw [e, toInts_len, digits_len]
  have lp := len_cv (cv4 ns) hS.2 hO.1
  have p0 := fmod_lo (cellAt ns 17 1) (n := ((firstI ns).length : Int) + 1) (by omega)
  have p1 := fmod_hi (cellAt ns 17 1) (n := ((firstI ns).length : Int) + 1) (by omega)
  refine ⟨fmod_lo _ (by decide), fmod_hi _ (by decide), fmod_lo _ (by decide), fmod_hi _ (by decide), fmod_lo _ (by decide), fmod_hi _ (by decide), l0, l1, lf, lm, by omega, len_mid ns lf, ?_, ?_, p0, p1⟩
  · have h := bits_first ns
    unfold bitsOf at h
    have h' : (((firstI ns).length * (S ns).toNat : Nat) : Int) = ((qO ns * (O ns).toNat : Nat) : Int) := by rw [h]
    rw [Int.natCast_mul, Int.natCast_mul, Int.toNat_of_nonneg (by omega), Int.toNat_of_nonneg (by omega)] at h'
    rw [lm0]
    exact h'.symm
  · have h' : ((c * (O ns).toNat : Nat) : Int) = (((rowI ns 1).length * (S ns).toNat + p : Nat) : Int) := by rw [hc]; rfl
    rw [Int.natCast_mul, Int.natCast_add, Int.natCast_mul, Int.toNat_of_nonneg (by omega), Int.toNat_of_nonneg (by omega)] at h'
    rw [lp0, Int.fdiv_eq_ediv_of_nonneg _ (by omega)]
    have h2 : -((rowI ns 1).length : Int) * S ns = (p : Int) + O ns * (-(c : Int)) := by
      rw [Int.neg_mul, Int.mul_neg, Int.mul_comm (O ns)]
      omega
    have h3 := (kbt_unique (a := -((rowI ns 1).length : Int) * S ns) (b := O ns) (q := -(c : Int)) (r := (p : Int)) (by omega) h2.symm (by omega) (by omega)).1
    rw [h3]
    omega
theorem facts_use {P : Prop} {ns : List Int} {b : Heap} {l : Addr} {vs : List Value} (_ : b.IsList l vs.toArray) (_ : IntsAre vs ns) (k : Facts ns → P) : P := k (facts ns)
theorem bad_ge (x : Int) (n : Nat) : x ≤ x + (n : Int) := by omega
theorem bad_lt (n : Nat) : -1 - (n : Int) < 0 := by omega
theorem ones_len (ns : List Int) : (onesI (2 * O ns) (S ns)).length ≤ 1000 := by
  have hO := rO ns
  rw [len_ones]
  omega
section
variable {prog : Program} {w : World} {A : Around} {E : Value → Shared → Prop} {s : Shared} {h₀ : Heap} {L : Addr} {m : Str → Option Value} {news : List (Addr × Obj)} {Q : Value → Shared → Prop}
theorem len_own {D : Addr} {vs : List Value} {ns : List Int} {c : Nat} (N : News h₀ L s.heap news) (hm : (D, listOf vs.toArray c) ∈ news) (hi : IntsAre vs ns) (hf : ns.length < 2 ^ 62) (h : Q (.int (ns.length : Nat) (s.toks + 1)) { s with toks := s.toks + 1 + 1 }) :
    wpAny (model prog w) A (call (.builtin "len") [.ref D]) Q E s := KM.len_K N hm (by rw [List.size_toArray]; exact hi.length) hf h
def JoinPost (h₀ : Heap) (L : Addr) (m : Str → Option Value) (news : List (Addr × Obj)) (s : Shared) (f : Flow) (s' : Shared) : Prop :=
  f = .next ∧ ∃ h' tk', s' = { s with heap := h', toks := tk' } ∧ Fr h₀ L h' m ∧ News h₀ L h' news
theorem JoinPost.intro {s : Shared} {h' : Heap} {tk' : Nat} {more : List (Addr × Obj)} (F : Fr h₀ L h' m) (N : News h₀ L h' more) (hs : ∀ p ∈ news, p ∈ more) : JoinPost h₀ L m news s .next { s with heap := h', toks := tk' } :=
  ⟨rfl, h', tk', rfl, F, fun p hp => N p (hs p hp)⟩
theorem if_join {M : Model} {st : Stmt} {env : Env} {Q : Flow → Shared → Prop} (_ : Fr h₀ L s.heap m) (_ : News h₀ L s.heap news) (h : wpAny M A (exec st env) (JoinPost h₀ L m news s) E s)
    (k : ∀ h' tk', Fr h₀ L h' m → News h₀ L h' news → Q .next { s with heap := h', toks := tk' }) : wpAny M A (exec st env) Q E s :=
  wpAny_mono h (fun f s' hp => by obtain ⟨rfl, h', tk', rfl, F, N⟩ := hp; exact k h' tk' F N) fun _ _ e => e
theorem ne_own {a b : Int} {t u : Tok} (e : a = b) (h : Q (.bool false) s) : wpAny (model prog w) A (compareOp .NotEq (.int a t) (.int b u)) Q E s := by
  subst e
  exact ne_int (by simpa using h)
theorem abs_own {a : Int} {t : Tok} (h : ∀ u tk, Q (.int (a.natAbs : Nat) u) { s with toks := tk }) : wpAny (model prog w) A (call (.builtin "abs") [.int a t]) Q E s :=
  call_abs_int fun u tk => by
    have e : (if a < 0 then -a else a) = (a.natAbs : Int) := by split <;> omega
    rw [e]
    exact h u tk
end

-- convertbits, by what it gives
section
open PySem.Spec PySem.Calls
section
variable {w : World} {loose : List Str} {mean : ExcName → Option Value} {mg mb : Str → Option Value}
   {dp un : Nat} {gd : Option (List Code)} {cn : Str} {cs : Scope} {a : Addr} {ccd : Value} {cl : List (Str × Addr)} {outer : List Env} {A₀ : Around} {base h₀ : Heap} {L : Addr} {m : Str → Option Value} {news : List (Addr × Obj)} {s : Shared} 
    {Q E : Value → Shared → Prop} {l : Addr} {ws : List Value} {n : Nat} {data out : List Int} {f t : Int} {tf tt : Tok} {pad : Bool} {args : List Value}
theorem conv_some
   (B : Below A₀ base outer h₀) (F : Fr h₀ L s.heap m) (X : (hd.heap_39 w.params).In h₀) (N₀ : News h₀ L s.heap news) (T : Top hd.view_39 loose mean mg mb h₀) (hk : cs.kind = .function)
   (hargs : (args = [.ref l, .int f tf, .int t tt] ∧ pad = true) ∨ (args = [.ref l, .int f tf, .int t tt, .bool false] ∧ pad = false))
   (hl : (l, listOf ws.toArray n) ∈ news) (hI : IntsAre ws data) (hcv : cv data f t pad = some out) (hlen : data.length ≤ 1000) (hf0 : 1 ≤ f) (hf1 : f ≤ 9) (ht0 : 1 ≤ t) (ht1 : t ≤ 9) 
   (hdp : dp + 1 < recursionLimit) 
   (ret : ∀ l' ws' n' h' tk', Fr h₀ L h' m → News h₀ L h' ((l', listOf ws'.toArray n') :: news) → AllLt l' news → IntsAre ws' out → Q (.ref l') { s with heap := h', toks := tk' }) :
    wpAny (model PySem.Challenge.pw_bg0020_01 w) (ktrTop dp un gd cn cs L a ccd cl outer) (call (.ref 22) args) Q E s :=
  conv_tells B F X N₀ T hk hl hI hlen hf0 hf1 ht0 ht1 hargs hdp (fun e => by rw [hcv] at e; cases e) (fun o e => by rw [hcv] at e; cases e; exact ret)
theorem conv_none
   (B : Below A₀ base outer h₀) (F : Fr h₀ L s.heap m) (X : (hd.heap_39 w.params).In h₀) (N₀ : News h₀ L s.heap news) (T : Top hd.view_39 loose mean mg mb h₀) (hk : cs.kind = .function)
   (hargs : (args = [.ref l, .int f tf, .int t tt] ∧ pad = true) ∨ (args = [.ref l, .int f tf, .int t tt, .bool false] ∧ pad = false))
   (hl : (l, listOf ws.toArray n) ∈ news) (hI : IntsAre ws data) (hcv : cv data f t pad = none) (hlen : data.length ≤ 1000) (hf0 : 1 ≤ f) (hf1 : f ≤ 9) (ht0 : 1 ≤ t) (ht1 : t ≤ 9) 
   (hdp : dp + 1 < recursionLimit) 
   (ret : ∀ h' tk', Fr h₀ L h' m → News h₀ L h' news → Q .none { s with heap := h', toks := tk' }) :
    wpAny (model PySem.Challenge.pw_bg0020_01 w) (ktrTop dp un gd cn cs L a ccd cl outer) (call (.ref 22) args) Q E s :=
  conv_tells B F X N₀ T hk hl hI hlen hf0 hf1 ht0 ht1 hargs hdp (fun _ => ret) (fun o e => by rw [hcv] at e; cases e)
end
end

-- the law: the walk
section
open PySem.Spec PySem.Calls
local macro_rules | `(tactic| walk_at "call ref") => `(tactic| (k_here; k_dflt (refine' at_tells ?k1 ?k2 ?k3 ?k4 ?k5 ?kK ?kl ?ki ?kt ?k0 ?kd ?_); (case k1 => k_asm); (case k2 => k_asm); (case k3 => k_asm); (case k4 => k_asm); (case k5 => k_asm); (case kK => first | exact rfl | assumption); (case kl => k_asm); (case ki => l_ints); (case kt => l_fit); (case k0 => first | decide | omega | l_idx); (case kd => ktr_room); intro t9 h9 tk9 F9 N9; (try dsimp only); (try k_fold)))

local macro_rules | `(tactic| walk_at "exec Assign cons ListComp") => `(tactic| (k_here; k_dflt (refine Assign_ListComp_C (F₀ := by k_asm) (by rfl) (by with_unfolding_all rfl) (by with_unfolding_all rfl) (by intro _; rfl) (by intro _; rfl) (by rfl) (by decide) (by rfl) (by rfl) (by rfl) ?_)))
local macro_rules | `(tactic| walk_at "CSrc") => `(tactic| (k_here; k_dflt (refine CSrc.range (n := 2) (by rfl) (by k_asm) (by k_asm) (by assumption) (by decide) (by rfl) (by rw [PySem.sizeLine_eq]; decide) ?_; intro g')))
local macro_rules | `(tactic| walk_at "CRest") => `(tactic| (with_unfolding_all first
  | (refine CRest.succ ?_; intro I' oI' C' oC' c' oc' D' t' h' tk' E' hoc' F' N' off' ne'; (try simp only [Off4, and_true] at off'); (try simp at hoc'))
  | refine CRest.zero ?_))
local macro_rules | `(tactic| walk_at "CEnd") => `(tactic| ((try dsimp only); rename IntsAre _ _ => hI9; (first
  | (refine row_use 0 (by assumption) (by assumption) hI9 ?ra ?rb ?_; (case ra => simp); (case rb => (intro k; (try dsimp only); (first | (refine Eq.trans (if_pos (And.intro (fmod_lo _ (by decide)) (fmod_hi _ (by decide)))) ?_) | skip); first | rfl | (simp; done))))
  | (refine row_use 1 (by assumption) (by assumption) hI9 ?ra ?rb ?_; (case ra => simp); (case rb => (intro k; (try dsimp only); (first | (refine Eq.trans (if_pos (And.intro (fmod_lo _ (by decide)) (fmod_hi _ (by decide)))) ?_) | skip); first | rfl | (simp; done))))); (intro hR9; clear hI9); (refine CEnd.one (by assumption) (by assumption) ?ra ?rb ?_); (case ra => omega); (case rb => (simp only [Off4, and_true]; first | done | omega))))
local macro_rules | `(tactic| walk_at "FinA") => `(tactic| ((unfold LCg.FinA); intro D' h' tk' F' N' o1'; (try simp only [LCg.Off1, and_true] at o1'); (try simp only [List.nil_append, List.cons_append] at N'); (refine facts_use (by assumption) (by assumption) ?_; intro hFacts; obtain ⟨_, _, _, _, _, _, _, _, _, _, _, _, _, _, _, _⟩ := hFacts); (try dsimp only)))
local macro_rules | `(tactic| walk_at "call ref") => `(tactic| (k_here; first | (k_dflt (refine' conv_some ?k1 ?k2 ?k3 ?k4 ?k5 ?kK ?ka ?kl ?ki ?kc ?kn ?f0 ?f1 ?t0 ?t1 ?kd ?_); (case k1 => k_asm); (case k2 => k_asm); (case k3 => k_asm); (case k4 => k_asm); (case k5 => k_asm); (case kK => first | exact rfl | assumption); (case ka => first | exact Or.inl ⟨rfl, rfl⟩ | exact Or.inr ⟨rfl, rfl⟩); (case kl => k_dflt k_mem); (case ki => assumption); (case kc => with_reducible first | exact cv1 _ | exact cv2 _ | exact cv3 _ | exact cv4 _ | exact cv5 _ | exact cv6 _ | exact cv7 _ | exact cv8 _ (by assumption) | exact cv9 _ (by assumption) | exact cv11 _ (by assumption) | exact cv12 _); (case kn => first | omega | (simp only [List.length_append]; omega) | exact ones_len _); (case f0 => omega); (case f1 => omega); (case t0 => omega); (case t1 => omega); (case kd => ktr_room); intro l9 ws9 n9 h9 tk9 F9 N9 l1 i9; (try simp only [AllLt, and_true] at l1); (try k_sweep); (try dsimp only); (try k_fold)) | (k_dflt (refine' conv_none ?k1 ?k2 ?k3 ?k4 ?k5 ?kK ?ka ?kl ?ki ?kc ?kn ?f0 ?f1 ?t0 ?t1 ?kd ?_); (case k1 => k_asm); (case k2 => k_asm); (case k3 => k_asm); (case k4 => k_asm); (case k5 => k_asm); (case kK => first | exact rfl | assumption); (case ka => first | exact Or.inl ⟨rfl, rfl⟩ | exact Or.inr ⟨rfl, rfl⟩); (case kl => k_dflt k_mem); (case ki => assumption); (case kc => with_reducible refine cv13 _ ?kb; (case kb => first | exact Or.inr (Int.le_refl _) | exact Or.inl (by decide) | exact Or.inr (bad_ge _ _) | exact Or.inl (bad_lt _))); (case kn => simp only [List.length_append, List.length_take, List.length_drop, List.length_cons, List.length_nil]; omega); (case f0 => omega); (case f1 => omega); (case t0 => omega); (case t1 => omega); (case kd => ktr_room); intro h9 tk9 F9 N9; (try dsimp only); (try k_fold))))
local macro_rules | `(tactic| walk_at "binaryOp Mult ref int") => `(tactic| (k_here; (refine KM.mul (by k_asm) (by k_asm) (by is_list) (by l_ints) (by omega) (by omega) (KM.size_of 64 64 (by l_ints) (by first | omega | (simp only [List.length_cons, List.length_nil]; decide)) (by omega) (by decide)) ?_); (intro D' h' F' N' l1 i1 n1 s1 e1 e2 e3); clear s1 e1 e2 e3; k_dflt (first | replace i1 : IntsAre _ (firstI _) := i1 | replace i1 : IntsAre _ (onesI _ _) := i1); (try k_lt l1); (try k_sweep)))
local macro_rules | `(tactic| walk_at "call builtin:len") => `(tactic| (k_here; (with_reducible show wpAny _ _ (call (Value.builtin "len") [Value.ref _]) _ _ _); k_dflt (refine' len_own ?k1 ?k2 ?k3 ?k4 ?_); (case k1 => k_asm); (case k2 => k_dflt k_mem); (case k3 => assumption); (case k4 => omega)))
local macro_rules | `(tactic| walk_at "subscriptTail Name Slice ref ref") => `(tactic| (k_here; (with_reducible show wpAny _ _ (subscriptTail _ (PySem.Expr.Slice _ _ none _) (Value.ref _) (Value.ref _)) _ _ _); (k_dflt (refine' kmk_slice_ints ?F ?N ?l ?p ?q ?i ?m rfl ?_ ?s ?t ?z; (case F => k_asm); (case N => k_asm); (case l => exact News.isList (by k_asm) (by k_mem)); (case p => kmk_part); (case q => kmk_part); (case i => assumption); (case m => first | exact kmk_upto (by assumption) (by assumption) | exact kmk_from (by assumption) (by assumption)); (case s => with_unfolding_all rfl); (case t => kmk_pure); (case z => (refine kmk_sz (by assumption) ?_; rw [sizeLine_eq]; omega)))); intro D' ws' h' F' N' l1 hI' hC' hL'; clear hC' hL'; (try k_lt l1); (try k_sweep)))
local macro_rules | `(tactic| walk_at "call builtin:abs") => `(tactic| ((with_reducible refine abs_own ?_); intro _ _))
local macro_rules | `(tactic| walk_at "exec If") => `(tactic| (k_here; (fail_if_success (with_reducible show wpAny _ _ _ (JoinPost _ _ _ _ _) _ _)); (k_dflt (refine if_join (by k_asm) (by k_asm) ?_ ?_)); rotate_left; (intro h9 tk9 F9 N9; (try dsimp only); (try k_sweep); (try k_fold)); rotate_left))
local macro_rules | `(tactic| walk_at "compareOp NotEq int int") => `(tactic| (k_here; (with_reducible refine ne_own ?ke ?_); (case ke => k_dflt assumption)))
local macro_rules | `(tactic| walk_at "JoinPost") => `(tactic| ((refine JoinPost.intro (by k_asm) (by k_asm) (by intro p hp; repeat (first | exact hp | refine List.mem_cons_of_mem _ ?_)))))
set_option maxRecDepth 100000 in
set_option maxHeartbeats 8000000 in
theorem law_walk : PySem.Challenge.rw_bg0020_01.Holds := hd (by
  k_with_none
  k_go0; (all_goals try k_fold)
  w_strict (k_steps))
end
end Mine

theorem PySem.Challenge.cw_bg0020_01_holds : PySem.Challenge.rw_bg0020_01.Holds := by
  exact Mine.law_walk
