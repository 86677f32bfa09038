import PyProof.Rows.All
import Wide.All
import OpenK.AllK
import Wide.FinOn
import PySem.Challenge.RW_xi0012_03
open PySem PySem.W PyProof.Rows PySem.Calls
set_option Elab.async false
set_option maxRecDepth 100000
set_option maxHeartbeats 4000000
namespace Mine
set_option maxHeartbeats 8000000 in
open_top hd for PySem.Challenge.rw_xi0012_03
section
theorem nat_and_shift (n k : Nat) : n &&& (n / 2 ^ k * 2 ^ k) = n / 2 ^ k * 2 ^ k := by
  rw [← Nat.shiftRight_eq_div_pow, ← Nat.shiftLeft_eq]
  apply Nat.eq_of_testBit_eq
  intro i
  rw [Nat.testBit_and, Nat.testBit_shiftLeft, Nat.testBit_shiftRight]
  by_cases h : k ≤ i
  · have : k + (i - k) = i := by omega
    simp [h, this]
  · simp [h]
theorem xor_low (n k : Nat) : Builtin.bitXor (n : Int) (((n / 2 ^ k : Nat) : Int) * 2 ^ k) = ((n % 2 ^ k : Nat) : Int) := by
  have e : (((n / 2 ^ k : Nat) : Int) * 2 ^ k) = ((n / 2 ^ k * 2 ^ k : Nat) : Int) := by norm_cast
  rw [e, bitXor_and]
  have ha : Builtin.bitAnd (n : Int) ((n / 2 ^ k * 2 ^ k : Nat) : Int) = ((n / 2 ^ k * 2 ^ k : Nat) : Int) := by
    unfold Builtin.bitAnd
    have h1 : decide ((n : Int) ≥ 0) = true := by simp
    have h2 : decide (((n / 2 ^ k * 2 ^ k : Nat) : Int) ≥ 0) = true := decide_eq_true (Int.natCast_nonneg _)
    simp only [h1, h2]
    rw [Int.toNat_natCast, Int.toNat_natCast, nat_and_shift]
  rw [ha]
  have := Nat.div_add_mod n (2 ^ k)
  rw [Nat.mul_comm] at this
  omega

def digs (n X len : Nat) : List Int := (List.range len).map fun i => ((X / 2 ^ (n * i) % 2 ^ n : Nat) : Int)
theorem digs_length (n X len : Nat) : (digs n X len).length = len := by simp [digs]
theorem digs_one {n X : Nat} (h : X < 2 ^ n) : digs n X 1 = [(X : Int)] := by
  have e : X / 2 ^ (n * 0) % 2 ^ n = X := by rw [Nat.mul_zero, Nat.pow_zero, Nat.div_one, Nat.mod_eq_of_lt h]
  show [((X / 2 ^ (n * 0) % 2 ^ n : Nat) : Int)] = _
  rw [e]
theorem digs_add (n X k j : Nat) : digs n X (k + j) = digs n (X % 2 ^ (n * k)) k ++ digs n (X / 2 ^ (n * k)) j := by
  unfold digs
  rw [List.range_add, List.map_append, List.map_map]
  congr 1
  · apply List.map_congr_left
    intro i hi
    have hi' : i < k := List.mem_range.mp hi
    congr 1
    have e : 2 ^ (n * k) = 2 ^ (n * i) * 2 ^ (n * (k - i)) := by
      rw [← Nat.pow_add, ← Nat.mul_add]; congr 2; omega
    rw [e, Nat.mod_mul_right_div_self]
    have e2 : 2 ^ (n * (k - i)) = 2 ^ n * 2 ^ (n * (k - i - 1)) := by
      rw [← Nat.pow_add]; congr 1
      have : k - i = (k - i - 1) + 1 := by omega
      rw [this, Nat.mul_add]; simp; omega
    rw [e2, Nat.mod_mul_right_mod]
  · apply List.map_congr_left
    intro i _
    simp only [Function.comp]
    congr 2
    rw [Nat.div_div_eq_div_mul, ← Nat.pow_add, ← Nat.mul_add]
def putD (ns : List Int) (lo : Nat) (ds : List Int) : List Int := ns.take lo ++ ds ++ ns.drop (lo + ds.length)
theorem putD_length {ns ds : List Int} {lo : Nat} (h : lo + ds.length ≤ ns.length) : (putD ns lo ds).length = ns.length := by
  simp [putD]; omega
theorem putD_one {ns : List Int} {lo : Nat} {x : Int} (h : lo < ns.length) : ns.set lo x = putD ns lo [x] := by
  unfold putD
  rw [List.set_eq_take_append_cons_drop, if_pos h]
  simp
theorem putD_two {ns a b : List Int} {lo : Nat} (h : lo + a.length + b.length ≤ ns.length) : putD (putD ns lo a) (lo + a.length) b = putD ns lo (a ++ b) := by
  unfold putD
  have h1 : (ns.take lo).length = lo := by rw [List.length_take]; omega
  have e1 : (ns.take lo ++ a ++ ns.drop (lo + a.length)).take (lo + a.length) = ns.take lo ++ a := by
    rw [List.take_append_of_le_length (by simp; omega)]
    apply List.take_of_length_le
    simp; omega
  have e2 : (ns.take lo ++ a ++ ns.drop (lo + a.length)).drop (lo + a.length + b.length) = ns.drop (lo + (a ++ b).length) := by
    rw [List.drop_append]
    have : (ns.take lo ++ a).drop (lo + a.length + b.length) = [] := by
      apply List.drop_of_length_le; simp; omega
    rw [this, List.nil_append, List.drop_drop, List.length_append, List.length_append, h1]
    congr 1
    omega
  rw [e1, e2]
  simp
theorem putD_all {ns ds : List Int} (h : ds.length = ns.length) : putD ns 0 ds = ds := by
  simp [putD, h]
theorem len_eq {b : Nat} {n : Int} {N : Nat} (hn : n = N) (h : 0 < N) : Int.fdiv ((b : Int) + n - 1) n = (((b + N - 1) / N : Nat) : Int) := by
  subst hn
  rw [Int.fdiv_eq_ediv_of_nonneg _ (by omega)]
  have : ((b : Int) + N - 1) = ((b + N - 1 : Nat) : Int) := by omega
  rw [this]; norm_cast

theorem mid_eq {Lo Ri : Int} {lo ri : Nat} (el : Lo = lo) (er : Ri = ri) : Int.fdiv (Lo + Ri) (2 ^ Int.toNat 1) = (((lo + ri) / 2 : Nat) : Int) := by
  subst el er
  have e : (2 : Int) ^ Int.toNat 1 = 2 := by decide
  rw [e, Int.fdiv_eq_ediv_of_nonneg _ (by decide)]
  norm_cast
theorem shift_eq {Lo nI : Int} {lo mid N : Nat} (el : Lo = lo) (en : nI = N) (h : lo ≤ mid) : ((mid : Int) - Lo) * nI = ((N * (mid - lo) : Nat) : Int) := by
  subst el en
  have : ((mid : Int) - lo) = ((mid - lo : Nat) : Int) := by omega
  rw [this, Nat.mul_comm]; norm_cast
theorem upper_eq {x : Int} {X k : Nat} (ex : x = X) : Int.fdiv x (2 ^ Int.toNat (k : Int)) = ((X / 2 ^ k : Nat) : Int) := by
  subst ex
  rw [Int.toNat_natCast, Int.fdiv_eq_ediv_of_nonneg _ (Int.le_of_lt (Int.pow_pos (by decide)))]
  norm_cast
theorem intBits_nat {X k : Nat} (h : X < 2 ^ k) : Builtin.Int.intBits (X : Int) ≤ k := by
  rw [intBits_le_iff]; simpa using h

theorem len_pos {X N len : Nat} {x : Int} (ex : x = X) (h0 : x ≠ 0) (hN : 0 < N) (hlen : len = (Builtin.Int.intBits x + N - 1) / N) : 0 < len ∧ X < 2 ^ (N * len) := by
  subst ex
  have hb : 0 < Builtin.Int.intBits (X : Int) := by
    unfold Builtin.Int.intBits
    have : ((X : Int) == 0) = false := by simpa using h0
    rw [this]; simp
  constructor
  · rw [hlen]; exact Nat.div_pos (by omega) hN
  · have h1 : X < 2 ^ Builtin.Int.intBits (X : Int) := by
      have := (intBits_le_iff (x := (X : Int)) (m := Builtin.Int.intBits (X : Int))).mp (Nat.le_refl _)
      simpa using this
    refine Nat.lt_of_lt_of_le h1 (Nat.pow_le_pow_right (by decide) ?_)
    rw [hlen]
    have h2 := Nat.div_add_mod (Builtin.Int.intBits (X : Int) + N - 1) N
    have h3 := Nat.mod_lt (Builtin.Int.intBits (X : Int) + N - 1) hN
    omega
theorem len_zero {X N len : Nat} {x : Int} (ex : x = X) (e : x = 0) (hN : 0 < N) (hlen : len = (Builtin.Int.intBits x + N - 1) / N) : len = 0 ∧ digs N X len = List.replicate len 0 := by
  have : len = 0 := by
    rw [hlen, e]
    have : Builtin.Int.intBits 0 = 0 := by decide
    rw [this]
    exact Nat.div_eq_of_lt (by omega)
  subst this
  exact ⟨rfl, rfl⟩

theorem upper_back (X sh : Nat) : ((X / 2 ^ sh : Nat) : Int) * 2 ^ Int.toNat (sh : Int) = ((X / 2 ^ sh : Nat) : Int) * 2 ^ sh := by rw [Int.toNat_natCast]
theorem shl_fits {Y sh k : Nat} (h : Y < 2 ^ k) (hk : k + sh ≤ 134217728) : (Builtin.Int.intBits (Y : Int) : Int) + (sh : Int) ≤ 2 ^ 27 := by
  have := intBits_nat h
  have e : (2 : Int) ^ 27 = 134217728 := by decide
  omega

theorem base_ints {vs : List Value} {ns : List Int} {lo ri X N : Nat} {t : Tok} (h : IntsAre (vs.set (Int.toNat (lo : Int)) (.int (X : Int) t)) (ns.set (Int.toNat (lo : Int)) (X : Int))) (e : (lo : Int) + 1 = ri)
    (hX : X < 2 ^ (N * (ri - lo))) (hl : ri ≤ ns.length) : IntsAre (vs.set (Int.toNat (lo : Int)) (.int (X : Int) t)) (putD ns lo (digs N X (ri - lo))) := by
  have e1 : ri - lo = 1 := by omega
  rw [e1] at hX ⊢
  rw [Nat.mul_one] at hX
  rw [digs_one hX, ← putD_one (by omega)]
  rw [Int.toNat_natCast] at h ⊢
  exact h
theorem two_digs {ns : List Int} {lo mid ri N X sh : Nat} (h1 : lo ≤ mid) (h2 : mid ≤ ri) (hl : ri ≤ ns.length) (hs : N * (mid - lo) = sh) :
    putD (putD ns lo (digs N (X % 2 ^ sh) (mid - lo))) mid (digs N (X / 2 ^ sh) (ri - mid)) = putD ns lo (digs N X (ri - lo)) := by
  subst hs
  have e1 : ri - lo = (mid - lo) + (ri - mid) := by omega
  have e2 : lo + (digs N (X % 2 ^ (N * (mid - lo))) (mid - lo)).length = mid := by rw [digs_length]; omega
  rw [e1, digs_add]
  have := putD_two (ns := ns) (lo := lo) (a := digs N (X % 2 ^ (N * (mid - lo))) (mid - lo)) (b := digs N (X / 2 ^ (N * (mid - lo))) (ri - mid)) (by rw [digs_length, digs_length]; omega)
  rw [e2] at this
  exact this
theorem div_bound {X N sh lo mid ri : Nat} (h1 : lo ≤ mid) (h2 : mid ≤ ri) (hs : N * (mid - lo) = sh) (hX : X < 2 ^ (N * (ri - lo))) : X / 2 ^ sh < 2 ^ (N * (ri - mid)) := by
  subst hs
  apply Nat.div_lt_of_lt_mul
  rw [← Nat.pow_add, ← Nat.mul_add]
  have : mid - lo + (ri - mid) = ri - lo := by omega
  rw [this]; exact hX
theorem half_le {lo mid ri dep : Nat} (hm : (lo + ri) / 2 = mid) (hlr : lo < ri) (hd : ri - lo ≤ 2 ^ dep) (h1 : ¬ (lo : Int) + 1 = ri) : 0 < dep ∧ lo < mid ∧ mid < ri ∧ mid - lo ≤ 2 ^ (dep - 1) ∧ ri - mid ≤ 2 ^ (dep - 1) := by
  cases dep with
  | zero => simp at hd; omega
  | succ n =>
    have e : 2 ^ (n + 1) = 2 * 2 ^ n := by rw [Nat.pow_succ, Nat.mul_comm]
    rw [e] at hd
    simp only [Nat.add_sub_cancel]
    omega
theorem low_bits {lo ri n : Nat} (h : ri ≤ n) (hn : n ≤ 256) (N : Nat) (hN : N ≤ 2000) : N * (ri - lo) ≤ 512000 := by
  have : N * (ri - lo) ≤ 2000 * 256 := Nat.mul_le_mul hN (by omega)
  omega

/-! the value of figures -/
def val (N : Nat) : List Int → Int
  | [] => 0
  | d :: r => d + val N r * 2 ^ N
def InR (N : Nat) (ns : List Int) : Prop := ∀ d ∈ ns, 0 ≤ d ∧ d < 2 ^ N
theorem val_append (N : Nat) : ∀ a b : List Int, val N (a ++ b) = val N b * 2 ^ (N * a.length) + val N a
  | [], b => by simp [val]
  | d :: r, b => by
    show d + val N (r ++ b) * 2 ^ N = val N b * 2 ^ (N * (r.length + 1)) + (d + val N r * 2 ^ N)
    rw [val_append N r b, Nat.mul_add, Nat.mul_one, Int.pow_add, Int.add_mul, Int.mul_assoc]
    omega
theorem val_bounds (N : Nat) : ∀ ns : List Int, InR N ns → 0 ≤ val N ns ∧ val N ns < 2 ^ (N * ns.length)
  | [], _ => by simp [val]
  | d :: r, h => by
    have hd := h d (.head _)
    have hr := val_bounds N r fun x hx => h x (.tail _ hx)
    have hp : (0 : Int) < 2 ^ N := Int.pow_pos (by decide)
    refine ⟨?_, ?_⟩
    · show 0 ≤ d + val N r * 2 ^ N
      have := Int.mul_nonneg hr.1 (Int.le_of_lt hp)
      omega
    · show d + val N r * 2 ^ N < 2 ^ (N * (r.length + 1))
      rw [Nat.mul_add, Nat.mul_one, Int.pow_add]
      have h1 : (val N r + 1) * 2 ^ N ≤ 2 ^ (N * r.length) * 2 ^ N := Int.mul_le_mul_of_nonneg_right (by omega) (Int.le_of_lt hp)
      rw [Int.add_mul] at h1
      omega
theorem digs_inR (N X len : Nat) : InR N (digs N X len) := by
  intro d hd
  obtain ⟨i, _, rfl⟩ := List.mem_map.mp hd
  refine ⟨Int.natCast_nonneg _, ?_⟩
  have := Nat.mod_lt (X / 2 ^ (N * i)) (show 0 < 2 ^ N from Nat.pow_pos (by decide))
  exact_mod_cast this
theorem val_digs (N : Nat) : ∀ len X : Nat, X < 2 ^ (N * len) → val N (digs N X len) = X
  | 0, X, h => by
    have : X = 0 := by simpa using h
    subst this
    rfl
  | len + 1, X, h => by
    have hd : digs N X (1 + len) = digs N (X % 2 ^ (N * 1)) 1 ++ digs N (X / 2 ^ (N * 1)) len := digs_add N X 1 len
    rw [Nat.add_comm, hd, val_append, digs_length, Nat.mul_one]
    have hlt : X % 2 ^ N < 2 ^ N := Nat.mod_lt _ (Nat.pow_pos (by decide))
    rw [digs_one hlt]
    rw [val_digs N len (X / 2 ^ N) (by
      apply Nat.div_lt_of_lt_mul
      rw [← Nat.pow_add]
      have : N + N * len = N * (len + 1) := by rw [Nat.mul_add]; omega
      rw [this]; exact h)]
    show ((X / 2 ^ N : Nat) : Int) * 2 ^ N + (((X % 2 ^ N : Nat) : Int) + 0 * 2 ^ N) = X
    have := Nat.div_add_mod X (2 ^ N)
    rw [Nat.mul_comm] at this
    have h2 : ((X / 2 ^ N * 2 ^ N + X % 2 ^ N : Nat) : Int) = (X : Int) := by rw [this]
    push_cast at h2 ⊢
    omega
/-- the part from lo up to ri -/
def seg (ns : List Int) (lo ri : Nat) : List Int := (ns.drop lo).take (ri - lo)
theorem seg_length {ns : List Int} {lo ri : Nat} (h : ri ≤ ns.length) : (seg ns lo ri).length = ri - lo := by
  simp [seg]; omega
theorem seg_one {ns : List Int} {lo : Nat} (h : lo < ns.length) : seg ns lo (lo + 1) = [ns.getD lo 0] := by
  unfold seg
  rw [Nat.add_sub_cancel_left, List.drop_eq_getElem_cons h]
  show [ns[lo]] = [ns.getD lo 0]
  rw [List.getD_eq_getElem?_getD, List.getElem?_eq_getElem h]
  rfl
theorem seg_two {ns : List Int} {lo mid ri : Nat} (h1 : lo ≤ mid) (h2 : mid ≤ ri) : seg ns lo ri = seg ns lo mid ++ seg ns mid ri := by
  unfold seg
  have e : ri - lo = (mid - lo) + (ri - mid) := by omega
  rw [e, List.take_add, List.drop_drop]
  congr 3
  omega
theorem seg_all (ns : List Int) : seg ns 0 ns.length = ns := by simp [seg]
theorem seg_inR {N : Nat} {ns : List Int} (h : InR N ns) (lo ri : Nat) : InR N (seg ns lo ri) := fun d hd => h d (List.mem_of_mem_drop (List.mem_of_mem_take hd))
theorem val_seg {N : Nat} {ns : List Int} {lo mid ri : Nat} (h1 : lo ≤ mid) (h2 : mid ≤ ri) (hl : ri ≤ ns.length) {sh : Nat} (hs : N * (mid - lo) = sh) :
    val N (seg ns mid ri) * 2 ^ Int.toNat (sh : Int) + val N (seg ns lo mid) = val N (seg ns lo ri) := by
  subst hs
  rw [seg_two h1 h2, val_append, seg_length (by omega), Int.toNat_natCast]
theorem val_fits {N : Nat} {ns : List Int} {mid ri sh : Nat} (h : InR N ns) (hl : ri ≤ ns.length) (hn : ns.length ≤ 256) (hN : N ≤ 2000) (hs : sh ≤ 512000) :
    (Builtin.Int.intBits (val N (seg ns mid ri)) : Int) + (sh : Int) ≤ 2 ^ 27 := by
  have hb := val_bounds N _ (seg_inR h mid ri)
  rw [seg_length hl] at hb
  have h1 : Builtin.Int.intBits (val N (seg ns mid ri)) ≤ N * (ri - mid) := by
    rw [intBits_le_iff]
    have e := Int.toNat_of_nonneg hb.1
    have h3 : (((val N (seg ns mid ri)).toNat : Nat) : Int) < ((2 ^ (N * (ri - mid)) : Nat) : Int) := by
      rw [e]; push_cast; exact hb.2
    have h4 : (val N (seg ns mid ri)).natAbs = (val N (seg ns mid ri)).toNat := by omega
    rw [h4]
    exact_mod_cast h3
  have h2 := low_bits (lo := mid) hl hn N hN
  have e : (2 : Int) ^ 27 = 134217728 := by decide
  omega

theorem val_one {N : Nat} {ns : List Int} {lo ri : Nat} (e : (lo : Int) + 1 = ri) (h : ri ≤ ns.length) : ns.getD (Int.toNat (lo : Int)) 0 = val N (seg ns lo ri) := by
  have e1 : ri = lo + 1 := by omega
  subst e1
  rw [seg_one (by omega), Int.toNat_natCast]
  show _ = ns.getD lo 0 + 0 * 2 ^ N
  omega
theorem val_nil {N : Nat} {ns : List Int} (h : ¬ 0 < ns.length) : val N ns = 0 := by
  cases ns with
  | nil => rfl
  | cons _ _ => simp at h

theorem bits_pos {Y : Nat} (h : 0 < Y) : 0 < Builtin.Int.intBits (Y : Int) ∧ Y < 2 ^ Builtin.Int.intBits (Y : Int) := by
  constructor
  · unfold Builtin.Int.intBits
    have : ((Y : Int) == 0) = false := by simp; omega
    rw [this]; simp
  · have := (intBits_le_iff (x := (Y : Int)) (m := Builtin.Int.intBits (Y : Int))).mp (Nat.le_refl _)
    simpa using this

theorem div_step {H d Y P : Nat} (hY : 0 < Y) (hd : d < P) : (H * P + d) % Y = (H % Y * P + d) % Y ∧ (H * P + d) / Y = H / Y * P + (H % Y * P + d) / Y ∧ (H % Y * P + d) / Y < P ∧ H % Y * P + d < Y * P := by
  have e : H * P + d = H % Y * P + d + Y * (H / Y * P) := by
    have h1 := Nat.div_add_mod H Y
    have h2 : H * P = (Y * (H / Y) + H % Y) * P := by rw [h1]
    rw [h2, Nat.add_mul, Nat.mul_assoc]; omega
  have hm := Nat.mod_lt H hY
  have hb : H % Y * P + d < Y * P := by
    have h3 : (H % Y + 1) * P ≤ Y * P := Nat.mul_le_mul_right P hm
    rw [Nat.add_mul] at h3
    omega
  refine ⟨?_, ?_, ?_, hb⟩
  · rw [e, Nat.add_mul_mod_self_left]
  · rw [e, Nat.add_mul_div_left _ _ hY]; omega
  · exact Nat.div_lt_of_lt_mul hb
/-- the top i figures -/
def top (X N len i : Nat) : Nat := X / 2 ^ (N * (len - i))
theorem top_zero {X N len : Nat} (h : X < 2 ^ (N * len)) : top X N len 0 = 0 := Nat.div_eq_of_lt h
theorem top_all (X N len : Nat) : top X N len len = X := by simp [top]
theorem top_succ {X N len i : Nat} (hi : i < len) : top X N len (i + 1) = top X N len i * 2 ^ N + X / 2 ^ (N * (len - 1 - i)) % 2 ^ N := by
  unfold top
  have e1 : len - (i + 1) = len - 1 - i := by omega
  have e2 : N * (len - i) = N * (len - 1 - i) + N := by
    have : len - i = (len - 1 - i) + 1 := by omega
    rw [this, Nat.mul_add, Nat.mul_one]
  rw [e1, e2, Nat.pow_add, ← Nat.div_div_eq_div_mul]
  have := Nat.div_add_mod (X / 2 ^ (N * (len - 1 - i))) (2 ^ N)
  rw [Nat.mul_comm] at this
  exact this.symm
theorem digs_getD {N X len j : Nat} (h : j < len) : (digs N X len).getD j 0 = ((X / 2 ^ (N * j) % 2 ^ N : Nat) : Int) := by
  rw [List.getD_eq_getElem?_getD]
  unfold digs
  rw [List.getElem?_map, List.getElem?_range h]
  rfl
theorem log2_small {Y N : Nat} (h : Y < 2 ^ N) (hN : N ≤ 2000) : (Y : Int).natAbs.log2 < 9000 := by
  have e : (Y : Int).natAbs = Y := by omega
  rw [e]
  rcases Nat.eq_zero_or_pos Y with rfl | hp
  · decide
  · have := (Nat.log2_lt (Nat.ne_of_gt hp)).mpr (Nat.lt_of_lt_of_le h (Nat.pow_le_pow_right (by decide) (show N ≤ 9000 by omega)))
    exact this
theorem nat_fdiv (a b : Nat) : Int.fdiv (a : Int) (b : Int) = ((a / b : Nat) : Int) := by
  rw [Int.fdiv_eq_ediv_of_nonneg _ (Int.natCast_nonneg b)]; norm_cast
theorem nat_fmod (a b : Nat) : Int.fmod (a : Int) (b : Int) = ((a % b : Nat) : Int) := by
  rw [Int.fmod_eq_emod_of_nonneg _ (Int.natCast_nonneg b)]; norm_cast
theorem bits_two {xx N Y : Nat} (h : xx < Y * 2 ^ N) (hY : Y < 2 ^ N) : Builtin.Int.intBits (xx : Int) ≤ 2 * N := by
  apply intBits_nat
  have e : 2 ^ (2 * N) = 2 ^ N * 2 ^ N := by rw [← Nat.pow_add]; congr 1; omega
  rw [e]
  exact Nat.lt_of_lt_of_le h (Nat.mul_le_mul_right _ (Nat.le_of_lt hY))

theorem inR_snoc {N : Nat} {qs : List Int} {q : Nat} (h : InR N qs) (hq : q < 2 ^ N) : InR N (qs ++ [(q : Int)]) := by
  intro d hd
  rcases List.mem_append.mp hd with hd | hd
  · exact h d hd
  · rw [List.mem_singleton.mp hd]
    exact ⟨Int.natCast_nonneg _, by exact_mod_cast hq⟩
theorem inR_rev {N : Nat} {qs : List Int} (h : InR N qs) : InR N qs.reverse := fun d hd => h d (List.mem_reverse.mp hd)
theorem val_snoc_rev {N : Nat} {qs : List Int} {q : Int} : val N (qs ++ [q]).reverse = q + val N qs.reverse * 2 ^ N := by
  rw [List.reverse_append]; rfl
end
section
/-- an object that may be a table of codes -/
def tlk (o : Obj) : Bool := match o.data with
  | .fields vs => o.cls == .none || (match (vs[1]? : Option Value) with | some (.str _ _) => true | _ => false)
  | _ => false
/-- a table of codes, or like one -/
def tabby (o : Obj) : Bool := match o.data with
  | .fields vs => o.cls == .none && (match (vs[1]? : Option Value) with | some (.str _ _) => false | _ => true)
  | _ => false
/-- where the tables of codes stand -/
def tabAdr : List Addr := [30, 37, 102]
def NT (l : List (Addr × Obj)) : Prop := ∀ p ∈ l, tabby p.2 = false ∨ p.1 ∉ tabAdr
theorem NT.nil : NT [] := fun _ h => nomatch h
theorem NT.cons {a : Addr} {o : Obj} {l : List (Addr × Obj)} (h : tabby o = false) (r : NT l) : NT ((a, o) :: l) := fun p hp => by
  rcases List.mem_cons.mp hp with rfl | hp
  · exact .inl h
  · exact r p hp
theorem NT.consA {a : Addr} {o : Obj} {l : List (Addr × Obj)} (h : a ∉ tabAdr) (r : NT l) : NT ((a, o) :: l) := fun p hp => by
  rcases List.mem_cons.mp hp with rfl | hp
  · exact .inr h
  · exact r p hp
/-- what a step may leave behind: what was there, tables, and what is new -/
def Fresh (rest tl tl' : List (Addr × Obj)) : Prop := ∀ q ∈ tl', q ∈ tl ∨ q.1 ∈ tabAdr ∨ ∀ p ∈ rest, p.1 < q.1
theorem Fresh.refl (rest tl : List (Addr × Obj)) : Fresh rest tl tl := fun _ hq => .inl hq
theorem Fresh.trans {rest rest' tl tl₁ tl₂ : List (Addr × Obj)} (h1 : Fresh rest tl tl₁) (h2 : Fresh rest' tl₁ tl₂) (hs : ∀ p ∈ rest, p ∈ rest') : Fresh rest tl tl₂ := fun q hq => by
  rcases h2 q hq with h | h | h
  · exact h1 q h
  · exact .inr (.inl h)
  · exact .inr (.inr fun p hp => h p (hs p hp))
theorem Fresh.sub {rest rest' tl tl' : List (Addr × Obj)} (h : Fresh rest' tl tl') (hs : ∀ p ∈ rest, p ∈ rest') : Fresh rest tl tl' := Fresh.trans (Fresh.refl rest tl) h hs
theorem tabby_of_tlk {o : Obj} (h : tlk o = false) : tabby o = false := by
  unfold tlk at h; unfold tabby
  split
  · rename_i vs e
    rw [e] at h
    simp only [Bool.or_eq_false_iff] at h
    simp [h.1]
  · rfl
theorem tabby_cell {o : Obj} {v : Option Value} (h : o.data = .cell v) : tabby o = false := by unfold tabby; rw [h]
theorem tabby_code {o : Obj} {vs : Array Value} {x : Str} {t : Tok} (h : o.data = .fields vs) (hv : vs[1]? = some (.str x t)) : tabby o = false := by unfold tabby; rw [h]; simp [hv]
theorem tlk_cell {o : Obj} {v : Option Value} (h : o.data = .cell v) : tlk o = false := by unfold tlk; rw [h]
theorem tlk_code {o : Obj} {vs : Array Value} {x : Str} {t : Tok} (h : o.data = .fields vs) (hv : vs[1]? = some (.str x t)) : tlk o = true := by unfold tlk; rw [h]; simp [hv]

structure TS where
  P : Nat
  line : Nat
  col : Nat
  qual : Str

def TabSt (tl : List (Addr × Obj)) (T : TS) (ps : Array Value) : Prop :=
  ps = #[] ∨ ∃ c' oc vs t, ps = #[rawInt T.line, rawInt T.col, .ref c'] ∧ (c', oc) ∈ tl ∧ oc.data = .fields vs ∧ vs[1]? = some (.str T.qual t)
def TsOk (Ts : List TS) : Prop := (∀ T₁ ∈ Ts, ∀ T₂ ∈ Ts, T₁.P = T₂.P → T₁ = T₂) ∧ ∀ T ∈ Ts, T.P ∈ tabAdr
/-- what the ledger's tail says of the tables of codes -/
def TabsOk (Ts : List TS) (tl : List (Addr × Obj)) : Prop := (∀ p ∈ tl, tlk p.2 = true) ∧ ∀ T ∈ Ts, ∃ ps, (T.P, tabObj ps) ∈ tl ∧ TabSt tl T ps

theorem tlk_tab (ps : Array Value) : tlk (tabObj ps) = true := rfl
theorem triples_tab {tl : List (Addr × Obj)} {T : TS} {ps : Array Value} (h : TabSt tl T ps) : TriplesOk ps.toList := by
  rcases h with rfl | ⟨_, _, _, _, rfl, _⟩
  · exact trivial
  · exact trivial

inductive Spl : List (Addr × Obj) → List (Addr × Obj) → List (Addr × Obj) → Prop
  | base {rest tl} : NT rest → Spl (rest ++ tl) rest tl
  | keep {a o news rest tl} : tabby o = false → Spl news rest tl → Spl ((a, o) :: news) ((a, o) :: rest) tl
  | drop {p news rest tl} : Spl news rest tl → Spl (p :: news) rest tl
theorem Spl.nt {news rest tl : List (Addr × Obj)} (h : Spl news rest tl) : NT rest := by
  induction h with
  | base h => exact h
  | keep h _ ih => exact NT.cons h ih
  | drop _ ih => exact ih
theorem Spl.sub {news rest tl : List (Addr × Obj)} (h : Spl news rest tl) : ∀ p ∈ rest ++ tl, p ∈ news := by
  induction h with
  | base h => exact fun p hp => hp
  | keep h _ ih =>
    intro p hp
    rcases List.mem_cons.mp hp with rfl | hp
    · exact .head _
    · exact .tail _ (ih p hp)
  | drop _ ih => exact fun p hp => .tail _ (ih p hp)
theorem memL {α : Type} {a : α} {l r : List α} (h : a ∈ l) : List.Mem a (l ++ r) := List.mem_append_left _ h
theorem memR {α : Type} {a : α} {l r : List α} (h : a ∈ r) : List.Mem a (l ++ r) := List.mem_append_right _ h
theorem memL' {α : Type} {a : α} {l r : List α} (h : a ∈ l) : a ∈ l ++ r := List.mem_append_left _ h
theorem memR' {α : Type} {a : α} {l r : List α} (h : a ∈ r) : a ∈ l ++ r := List.mem_append_right _ h
theorem memI {α : Type} {a : α} {l : List α} (h : a ∈ l) : List.Mem a l := h
theorem ne_above {l : List (Addr × Obj)} {a d : Addr} (h : ∀ p ∈ l, p.1 < a) (ha : @LE.le Nat _ a d) : ∀ p ∈ l, p.1 ≠ d := fun p hp => Nat.ne_of_lt (Nat.lt_of_lt_of_le (h p hp) ha)
theorem newsSub {h₀ h : Heap} {L : Addr} {l l' : List (Addr × Obj)} (N : News h₀ L h l) (hs : ∀ p ∈ l', p ∈ l) : News h₀ L h l' := fun p hp => N p (hs p hp)
theorem Spl.news {h₀ h : Heap} {L : Addr} {news rest tl : List (Addr × Obj)} (hs : Spl news rest tl) (N : News h₀ L h news) : News h₀ L h (rest ++ tl) := newsSub N hs.sub
theorem news_same {h₀ h : Heap} {L a : Addr} {o o' : Obj} {news : List (Addr × Obj)} (N : News h₀ L h news) (h1 : (a, o) ∈ news) (h2 : (a, o') ∈ news) : o = o' := by
  have e1 := (N _ h1).1
  have e2 := (N _ h2).1
  exact Option.some.inj (e1.symm.trans e2)

inductive TailOf (tl : List (Addr × Obj)) : List (Addr × Obj) → Prop
  | base {rest} : TailOf tl (rest ++ tl)
  | cons {p news} : TailOf tl news → TailOf tl (p :: news)
theorem TailOf.sub {tl news : List (Addr × Obj)} (h : TailOf tl news) : ∀ p ∈ tl, p ∈ news := by
  induction h with
  | base => exact fun p hp => List.mem_append_right _ hp
  | cons _ ih => exact fun p hp => .tail _ (ih p hp)
inductive Suf (l : List (Addr × Obj)) : List (Addr × Obj) → Prop
  | base : Suf l l
  | cons {p news} : Suf l news → Suf l (p :: news)
theorem Suf.sub {l news : List (Addr × Obj)} (h : Suf l news) : ∀ p ∈ l, p ∈ news := by
  induction h with
  | base => exact fun p hp => hp
  | cons _ ih => exact fun p hp => .tail _ (ih p hp)
inductive Pick : List (Addr × Obj) → List (Addr × Obj) → Prop
  | base {l news} : Suf l news → Pick l news
  | cons {p l news} : p ∈ news → Pick l news → Pick (p :: l) news
theorem Pick.sub {l news : List (Addr × Obj)} (h : Pick l news) : ∀ p ∈ l, p ∈ news := by
  induction h with
  | base h => exact h.sub
  | cons h _ ih =>
    intro p hp
    rcases List.mem_cons.mp hp with rfl | hp
    · exact h
    · exact ih p hp
theorem Pick.news {h₀ h : Heap} {L : Addr} {l news : List (Addr × Obj)} (hp : Pick l news) (N : News h₀ L h news) : News h₀ L h l := newsSub N hp.sub
theorem news_hd {h₀ h : Heap} {L : Addr} {news l : List (Addr × Obj)} {q : Addr × Obj} (N : News h₀ L h news) (hm : q ∈ news) (hs : Suf l news) : News h₀ L h (q :: l) := newsSub N fun p hp => by
  rcases List.mem_cons.mp hp with rfl | hp
  · exact hm
  · exact hs.sub p hp
theorem lt_suf {news rest tl : List (Addr × Obj)} {d : Addr} (h : ∀ p ∈ news, p.1 < d) (hs : Suf (rest ++ tl) news) : ∀ p ∈ rest, p.1 < d := fun p hp => h p (hs.sub p (List.mem_append_left _ hp))
/-- an object that is no record stands apart from the tables and their codes -/
theorem off_all {Ts : List TS} {h₀ h : Heap} {L c : Addr} {o : Obj} {news rest tl : List (Addr × Obj)} (N : News h₀ L h news) (ht : TabsOk Ts tl) (hs : TailOf tl news) (hm : (c, o) ∈ news) (hd : tlk o = false)
    (hr : ∀ p ∈ rest, p.1 ≠ c) : ∀ p ∈ rest ++ tl, p.1 ≠ c := fun p hp e => by
  rcases List.mem_append.mp hp with hp | hp
  · exact hr p hp e
  · obtain ⟨b, o'⟩ := p
    cases e
    have hv := ht.1 _ hp
    have q := news_same N (hs.sub _ hp) hm
    cases q
    rw [hd] at hv
    cases hv
inductive Sel (c : Addr) : List (Addr × Obj) → List (Addr × Obj) → Prop
  | base {l} : (∀ p ∈ l, p.1 ≠ c) → Sel c l l
  | keep {a : Addr} {o r r'} : a ≠ c → Sel c r r' → Sel c ((a, o) :: r) ((a, o) :: r')
  | drop {p r r'} : Sel c r r' → Sel c (p :: r) r'
theorem Sel.hit {c : Addr} {o : Obj} {r r' : List (Addr × Obj)} (h : Sel c r r') : Sel c ((c, o) :: r) r' := .drop h
theorem Sel.sub {c : Addr} {l l' : List (Addr × Obj)} (h : Sel c l l') : ∀ p ∈ l', p ∈ l ∧ p.1 ≠ c := by
  induction h with
  | base h => exact fun p hp => ⟨hp, h p hp⟩
  | keep h _ ih =>
    intro p hp
    rcases List.mem_cons.mp hp with rfl | hp
    · exact ⟨.head _, h⟩
    · exact ⟨.tail _ (ih p hp).1, (ih p hp).2⟩
  | drop _ ih => exact fun p hp => ⟨.tail _ (ih p hp).1, (ih p hp).2⟩
theorem ne_kind {h₀ h : Heap} {L a c : Addr} {o o' : Obj} {news : List (Addr × Obj)} (N : News h₀ L h news) (h1 : (a, o) ∈ news) (h2 : (c, o') ∈ news) (hn : (o.cls == o'.cls) = false) : a ≠ c := fun e => by
  cases e
  rw [news_same N h1 h2] at hn
  simp at hn

section
variable {M : Model} {A : Around} {E : Value → Shared → Prop} {s : Shared} {h₀ : Heap} {L a : Addr} {m : Str → Option Value} {cn : Str} {cs : Scope} {ccd : Value} {cl : List (Str × Addr)}
  {x : Str} {v : Value} {Q : Unit → Shared → Prop} {news news' : List (Addr × Obj)} {c : Addr} {o : Obj} {v₀ : Option Value}
/-- a store into a cell of the frame's -/
theorem store_cell (F : Fr h₀ L s.heap m) (N : News h₀ L s.heap news) (hc : cl.lookup x = some c) (hm : (c, o) ∈ news) (hd : o.data = .cell v₀) (hs : Sel c news news')
    (h : ∀ h' o', Fr h₀ L h' m → News h₀ L h' ((c, o') :: news') → o'.data = .cell (some v) → Q () { s with heap := h' })
    (hk : cs.kind = .function := by rfl) (hx : (envX cn cs L a ccd cl).kindOf x = some .cell := by rfl) : wpAny M A (storeName (envX cn cs L a ccd cl) x v) Q E s :=
  storeX_C F (newsSub N (l' := (c, o) :: news') fun p hp => by
    rcases List.mem_cons.mp hp with rfl | hp
    · exact hm
    · exact (hs.sub p hp).1) hc (.head fun p hp => (hs.sub p hp).2) hd h hk hx
end

section
variable {M : Model} {A : Around} {E : Value → Shared → Prop} {s : Shared} {h₀ : Heap} {L a c : Addr} {m mg mb : Str → Option Value} {cn : Str} {cs : Scope} {ccd : Value} {cl : List (Str × Addr)} {rest tl : List (Addr × Obj)}
  {p : Program} {loose : List Str} {mean : ExcName → Option Value} {name qual : Str} {params : Arguments} {body : List Stmt} {scope : Scope} {pos : Pos} {firstLine : Nat} {clos : List (Str × Addr)} {Ts : List TS}

/-- the ledger that a table's own step wants, and what it leaves -/
theorem tab_put {T : TS} {ps : Array Value} {h' : Heap} {f c' : Addr} {fo oc : Obj} {vs : Array Value} {t : Tok} (N : News h₀ L s.heap (rest ++ tl)) (ht : TabsOk Ts tl) (hu : TsOk Ts) (hT : T ∈ Ts) (hm : (T.P, tabObj ps) ∈ tl) (hs : ps = #[])
    (N' : News h₀ L h' ((f, fo) :: (c', oc) :: (T.P, tabObj (ps ++ #[rawInt T.line, rawInt T.col, .ref c'])) :: (rest ++ tl.filter fun p => decide (p.1 ≠ T.P)))) (hd : oc.data = .fields vs) (hv : vs[1]? = some (.str T.qual t)) (hlt : ∀ p ∈ rest, p.1 < c') :
    ∃ tl', News h₀ L h' ((f, fo) :: (rest ++ tl')) ∧ TabsOk Ts tl' ∧ (c', oc) ∈ tl' ∧ Fresh rest tl tl' := by
  subst hs
  refine ⟨(c', oc) :: (T.P, tabObj #[rawInt T.line, rawInt T.col, .ref c']) :: (tl.filter fun p => decide (p.1 ≠ T.P)), newsSub N' (fun p hp => ?_), ⟨fun p hp => ?_, fun T₁ h1 => ?_⟩, .head _, fun q hq => ?_⟩
  · rcases List.mem_cons.mp hp with rfl | hp
    · exact .head _
    · refine .tail _ ?_
      rcases List.mem_append.mp hp with hp | hp
      · exact .tail _ (.tail _ (List.mem_append_left _ hp))
      · rcases List.mem_cons.mp hp with rfl | hp
        · exact .head _
        · rcases List.mem_cons.mp hp with rfl | hp
          · exact .tail _ (.head _)
          · exact .tail _ (.tail _ (List.mem_append_right _ hp))
  · rcases List.mem_cons.mp hp with rfl | hp
    · exact tlk_code hd hv
    · rcases List.mem_cons.mp hp with rfl | hp
      · exact tlk_tab _
      · exact ht.1 p (List.mem_filter.mp hp).1
  · obtain ⟨ps₁, hm₁, hs₁⟩ := ht.2 T₁ h1
    by_cases e : T₁.P = T.P
    · have := hu.1 T₁ h1 T hT e
      subst this
      exact ⟨_, .tail _ (.head _), .inr ⟨c', oc, vs, t, rfl, .head _, hd, hv⟩⟩
    · refine ⟨ps₁, .tail _ (.tail _ (List.mem_filter.mpr ⟨hm₁, by simpa using e⟩)), ?_⟩
      rcases hs₁ with rfl | ⟨c₁, oc₁, vs₁, t₁, rfl, hc₁, hd₁, hv₁⟩
      · exact .inl rfl
      · refine .inr ⟨c₁, oc₁, vs₁, t₁, rfl, .tail _ (.tail _ (List.mem_filter.mpr ⟨hc₁, ?_⟩)), hd₁, hv₁⟩
        by_cases e₂ : c₁ = T.P
        · subst e₂
          have q := news_same N (List.mem_append_right _ hc₁) (List.mem_append_right _ hm)
          rw [q] at hd₁
          cases hd₁
          cases hv₁
        · simpa using e₂
  · rcases List.mem_cons.mp hq with rfl | hq
    · exact .inr (.inr hlt)
    · rcases List.mem_cons.mp hq with rfl | hq
      · exact .inr (.inl (hu.2 T hT))
      · exact .inl (List.mem_filter.mp hq).1
theorem tab_need {T : TS} {ps : Array Value} (N : News h₀ L s.heap (rest ++ tl)) (hr : NT rest) (hTP : T.P ∈ tabAdr) (hm : (T.P, tabObj ps) ∈ tl) (hs : ps = #[]) :
    News h₀ L s.heap ((T.P, tabObj ps) :: (rest ++ tl.filter fun p => decide (p.1 ≠ T.P))) ∧ ∀ p ∈ rest ++ tl.filter (fun p => decide (p.1 ≠ T.P)), p.1 ≠ T.P := by
  refine ⟨fun p hp => ?_, fun p hp e => ?_⟩
  · rcases List.mem_cons.mp hp with rfl | hp
    · exact N _ (List.mem_append_right _ hm)
    · rcases List.mem_append.mp hp with hp | hp
      · exact N _ (List.mem_append_left _ hp)
      · exact N _ (List.mem_append_right _ (List.mem_filter.mp hp).1)
  · rcases List.mem_append.mp hp with hp | hp
    · obtain ⟨b, o⟩ := p
      cases e
      have q := news_same N (List.mem_append_left _ hp) (List.mem_append_right _ hm)
      rcases hr _ hp with this | this
      · rw [q, hs] at this
        cases this
      · exact this hTP
    · have := (List.mem_filter.mp hp).2
      simp [e] at this

theorem nest_any {Q : Value → Shared → Prop} (T : TS) (hT : T ∈ Ts) (hu : TsOk Ts) (F : Fr h₀ L s.heap m) (N : News h₀ L s.heap (rest ++ tl)) (hr : NT rest) (ht : TabsOk Ts tl) (Tp : Top p loose mean mg mb h₀) (C : CodeHd h₀ c T.P) (hcd : ccd = .ref c)
    (hl : T.line = pos.line) (hc : T.col = pos.col) (hq : T.qual = qual) (hcl : closureFor scope (envX cn cs L a ccd cl) = pure clos)
    (h : ∀ f c' oc vs t ctv doc h' tk tl', Fr h₀ L h' m → News h₀ L h' ((f, fnMade name qual params body scope clos doc ((mg "__name__").getD .none) c' ctv) :: (rest ++ tl')) → TabsOk Ts tl' →
      (c', oc) ∈ tl' → oc.data = .fields vs → vs[1]? = some (.str qual t) → (∀ q ∈ rest, q.1 < f) → Fresh rest tl tl' → Q (.ref f) { s with heap := h', toks := tk }) :
    wpAny M A (makeFunction name qual params (.stmts body) scope (envX cn cs L a ccd cl) [] [] [] pos firstLine) Q E s := by
  obtain ⟨ps, hm, hs⟩ := ht.2 T hT
  rcases hs with hs | ⟨c₁, oc₁, vs₁, t₁, hs, hc₁, hd₁, hv₁⟩
  · obtain ⟨N₁, hoff⟩ := tab_need (T := T) N hr (hu.2 T hT) hm hs
    refine nest_K F N₁ Tp C hcd (.head hoff) (by rw [hs]; exact trivial) (by rw [hs]; rfl) hcl fun f c' oc vs t ctv doc h' tk F' N' hd hv l1 l2 => ?_
    rw [← hl, ← hc] at N'
    obtain ⟨tl', N₂, ht', hc', hfr⟩ := tab_put N ht hu hT hm hs N' hd (hq ▸ hv) (fun q hq => l1 q (.tail _ (List.mem_append_left _ hq)))
    exact h f c' oc vs t ctv doc h' tk tl' F' N₂ ht' hc' hd hv (fun q hq => Nat.lt_trans (l1 q (.tail _ (List.mem_append_left _ hq))) l2) hfr
  · have hf : codeAmong pos ps.toList = some (.ref c₁) := by
      rw [hs]
      show codeAmong pos [.int (T.line : Int) 0, .int (T.col : Int) 0, .ref c₁] = _
      unfold codeAmong
      rw [hl, hc]
      simp
    exact nestHit_K F N Tp C hcd (List.mem_append_right _ hm) (by rw [hs]; exact trivial) hf hcl fun f ctv doc h' tk F' N' l1 =>
      h f c₁ oc₁ vs₁ t₁ ctv doc h' tk tl F' N' ht hc₁ hd₁ (hq ▸ hv₁) (fun q hq => l1 q (List.mem_append_left _ hq)) (Fresh.refl _ _)
theorem nest_spl {Q : Value → Shared → Prop} {news : List (Addr × Obj)} (T : TS) (hu : TsOk Ts) (hT : T ∈ Ts) (F : Fr h₀ L s.heap m) (N : News h₀ L s.heap news) (hs : Spl news rest tl) (ht : TabsOk Ts tl) (Tp : Top p loose mean mg mb h₀) (C : CodeHd h₀ c T.P) (hcd : ccd = .ref c)
    (hl : T.line = pos.line) (hc : T.col = pos.col) (hq : T.qual = qual) (hcl : closureFor scope (envX cn cs L a ccd cl) = pure clos)
    (h : ∀ f c' oc vs t ctv doc h' tk tl', Fr h₀ L h' m → News h₀ L h' ((f, fnMade name qual params body scope clos doc ((mg "__name__").getD .none) c' ctv) :: (rest ++ tl')) → TabsOk Ts tl' →
      (c', oc) ∈ tl' → oc.data = .fields vs → vs[1]? = some (.str qual t) → (∀ q ∈ rest, q.1 < f) → Fresh rest tl tl' → Q (.ref f) { s with heap := h', toks := tk }) :
    wpAny M A (makeFunction name qual params (.stmts body) scope (envX cn cs L a ccd cl) [] [] [] pos firstLine) Q E s :=
  nest_any T hT hu F (hs.news N) hs.nt ht Tp C hcd hl hc hq hcl h
theorem lam_any {Q : Value → Shared → Prop} {body : Expr} (T : TS) (hT : T ∈ Ts) (hu : TsOk Ts) (F : Fr h₀ L s.heap m) (N : News h₀ L s.heap (rest ++ tl)) (hr : NT rest) (ht : TabsOk Ts tl) (Tp : Top p loose mean mg mb h₀) (C : CodeHd h₀ c T.P) (hcd : ccd = .ref c)
    (hl : T.line = pos.line) (hc : T.col = pos.col) (hq : T.qual = qual) (hcl : closureFor scope (envX cn cs L a ccd cl) = pure clos)
    (h : ∀ f c' oc vs t ctv h' tk tl', Fr h₀ L h' m → News h₀ L h' ((f, kla_obj name qual params body scope clos ((mg "__name__").getD .none) c' ctv) :: (rest ++ tl')) → TabsOk Ts tl' →
      (c', oc) ∈ tl' → oc.data = .fields vs → vs[1]? = some (.str qual t) → (∀ q ∈ rest, q.1 < f) → Q (.ref f) { s with heap := h', toks := tk }) :
    wpAny M A (makeFunction name qual params (.expr body) scope (envX cn cs L a ccd cl) [] [] [] pos firstLine) Q E s := by
  obtain ⟨ps, hm, hs⟩ := ht.2 T hT
  rcases hs with hs | ⟨c₁, oc₁, vs₁, t₁, hs, hc₁, hd₁, hv₁⟩
  · obtain ⟨N₁, hoff⟩ := tab_need (T := T) N hr (hu.2 T hT) hm hs
    refine kla_nest F N₁ Tp C hcd (.head hoff) (by rw [hs]; exact trivial) (by rw [hs]; rfl) hcl fun f c' oc vs t ctv h' tk F' N' hd hv l1 l2 => ?_
    rw [← hl, ← hc] at N'
    obtain ⟨tl', N₂, ht', hc', hfr⟩ := tab_put N ht hu hT hm hs N' hd (hq ▸ hv) (fun q hq => l1 q (.tail _ (List.mem_append_left _ hq)))
    exact h f c' oc vs t ctv h' tk tl' F' N₂ ht' hc' hd hv fun q hq => Nat.lt_trans (l1 q (.tail _ (List.mem_append_left _ hq))) l2
  · have hf : codeAmong pos ps.toList = some (.ref c₁) := by
      rw [hs]
      show codeAmong pos [.int (T.line : Int) 0, .int (T.col : Int) 0, .ref c₁] = _
      unfold codeAmong
      rw [hl, hc]
      simp
    exact kla_hit F N Tp C hcd (List.mem_append_right _ hm) (by rw [hs]; exact trivial) hf hcl fun f ctv h' tk F' N' l1 =>
      h f c₁ oc₁ vs₁ t₁ ctv h' tk tl F' N' ht hc₁ hd₁ (hq ▸ hv₁) fun q hq => l1 q (List.mem_append_left _ hq)
end

section
variable {prog : Program} {w : World} {A : Around} {E : Value → Shared → Prop} {s : Shared} {h₀ : Heap} {L : Addr} {m : Str → Option Value} {news : List (Addr × Obj)} {l : Addr} {x : Int} {u : Tok} {Q : Value → Shared → Prop}
theorem ints_replicate (tz : Tok) : ∀ n : Nat, IntsAre (List.replicate n (.int 0 tz)) (List.replicate n 0)
  | 0 => .nil
  | n + 1 => .cons 0 tz (ints_replicate tz n)
/-- [0] * k -/
theorem mul_zero_list {tz : Tok} {len : Nat} (Fm : Fr h₀ L s.heap m) (N : News h₀ L s.heap news) (hl : (l, PySem.W.listOf #[.int 0 tz] 0) ∈ news) (hx : x = (len : Int)) (hsz : len ≤ 256)
    (h : ∀ D h' vs, Fr h₀ L h' m → News h₀ L h' ((D, PySem.W.listOf vs.toArray 0) :: news) → IntsAre vs (List.replicate len 0) → (∀ p ∈ news, p.1 < D) → Q (.ref D) { s with heap := h' }) : wpAny (model prog w) A (binaryOp .Mult (.ref l) (.int x u)) Q E s := by
  subst hx
  have e : (List.replicate ((len : Int).toNat) [Value.int 0 tz]).flatten = List.replicate len (.int 0 tz) := by
    rw [Int.toNat_natCast]
    clear h hsz
    induction len with
    | zero => rfl
    | succ n ih => rw [List.replicate_succ, List.flatten_cons, ih]; rfl
  exact KMa.mul (vs := [.int 0 tz]) Fm N ⟨_, (N _ hl).1, rfl, 0, rfl⟩ (by omega) (by omega) (by simp; omega) e fun D h' F' N' l1 => h D h' _ F' N' (ints_replicate tz len) l1
end

section
variable {prog : Program} {w : World} {A : Around} {E : Value → Shared → Prop} {s : Shared} {a b n r : Int} {t u : Tok} {Q : Value → Shared → Prop}
theorem rshift_eq (hn : 0 ≤ n) (e : a.fdiv (2 ^ n.toNat) = r) (h : Q (.int r s.toks) { s with toks := s.toks + 1 }) : wpAny (model prog w) A (binaryOp .RShift (.int a t) (.int n u)) Q E s := by
  subst e; exact rshift_int hn h
theorem lshift_eq (e : a * 2 ^ n.toNat = r) (hn : 0 ≤ n) (hsz : (Builtin.Int.intBits a : Int) + n ≤ 2 ^ 27) (h : Q (.int r s.toks) { s with toks := s.toks + 1 }) : wpAny (model prog w) A (binaryOp .LShift (.int a t) (.int n u)) Q E s := by
  subst e; exact lshift_int hn hsz h
theorem xor_eq (e : Builtin.bitXor a b = r) (h : Q (.int r s.toks) { s with toks := s.toks + 1 }) : wpAny (model prog w) A (binaryOp .BitXor (.int a t) (.int b u)) Q E s := by
  subst e; exact xor_int h
theorem mul_eq (e : a * b = r) (hm : IntMulOk a b) (h : Q (.int r s.toks) { s with toks := s.toks + 1 }) : wpAny (model prog w) A (binaryOp .Mult (.int a t) (.int b u)) Q E s := by
  subst e; exact mul_int h hm
theorem add_eq (e : a + b = r) (h : Q (.int r s.toks) { s with toks := s.toks + 1 }) : wpAny (model prog w) A (binaryOp .Add (.int a t) (.int b u)) Q E s := by
  subst e; exact add_int h
theorem sub_eq (e : a - b = r) (h : Q (.int r s.toks) { s with toks := s.toks + 1 }) : wpAny (model prog w) A (binaryOp .Sub (.int a t) (.int b u)) Q E s := by
  subst e; exact sub_int h
end

/-- the contract of the def within _int2digits -/
structure I2dInner (prog : Program) (w : World) (K : Frag) (qual : Str) (params : Arguments) (body : List Stmt) (scope : Scope) (nI : Int) (N₁ : Nat) (dep : Nat) : Prop where
  out : ∀ {dp un : Nat} {gd : Option (List Code)} {cn : Str} {cs : Scope} {a : Addr} {ccd : Value} {cl : List (Str × Addr)} {outer : List Env}
    {A₀ : Around} {base h₀ : Heap} {L : Addr} {m mg mb : Str → Option Value} {loose : List Str} {mean : ExcName → Option Value} {R : List (Addr × Obj)} {s : Shared}
    {f c' cN cI cA d : Addr} {oc oN oI oA : Obj} {doc pm ctv : Value} {vs0 : Array Value} {t0 tN t1 t2 t3 : Tok} {vs : List Value} {ns : List Int} {k : Nat} {x Lo Ri : Int} {X lo ri : Nat} {Q E : Value → Shared → Prop},
    Below A₀ base outer h₀ → Fr h₀ L s.heap m → K.In h₀ → News h₀ L s.heap ((d, PySem.W.listOf vs.toArray k) :: R) → Top topProg loose mean mg mb h₀ → cs.kind = .function → dp + dep + 1 < 1000 → (∀ p ∈ R, p.1 ≠ d) →
    (f, fnMade (Str.ofString "inner") qual params body scope [(Str.ofString "n", cN), (Str.ofString "inner", cI), (Str.ofString "a_digits", cA)] doc pm c' ctv) ∈ R → (c', oc) ∈ R → oc.data = .fields vs0 → vs0[1]? = some (.str qual t0) →
    (cN, oN) ∈ R → oN.data = .cell (some (.int nI tN)) → (cI, oI) ∈ R → oI.data = .cell (some (.ref f)) → (cA, oA) ∈ R → oA.data = .cell (some (.ref d)) →
    IntsAre vs ns → x = X → Lo = lo → Ri = ri → lo < ri → ri ≤ ns.length → ns.length ≤ 256 → ri - lo ≤ 2 ^ dep → X < 2 ^ (N₁ * (ri - lo)) →
    (∀ r h' tk' vs', Fr h₀ L h' m → News h₀ L h' ((d, PySem.W.listOf vs'.toArray k) :: R) → IntsAre vs' (putD ns lo (digs N₁ X (ri - lo))) → Q r { s with heap := h', toks := tk' }) →
    wpAny (model prog w) (ktrTop dp un gd cn cs L a ccd cl outer) (call (.ref f) [.int x t1, .int Lo t2, .int Ri t3]) Q E s
theorem I2dInner.all {prog : Program} {w : World} {K : Frag} {qual : Str} {params : Arguments} {body : List Stmt} {scope : Scope} {nI : Int} {N₁ : Nat}
    (step : ∀ dep, (∀ d', d' < dep → I2dInner prog w K qual params body scope nI N₁ d') → I2dInner prog w K qual params body scope nI N₁ dep) (dep : Nat) : I2dInner prog w K qual params body scope nI N₁ dep :=
  Nat.strongRecOn dep step
theorem I2dInner.use {prog : Program} {w : World} {K : Frag} {qual : Str} {params : Arguments} {body : List Stmt} {scope : Scope} {nI : Int} {N₁ : Nat} {dep : Nat} (I : I2dInner prog w K qual params body scope nI N₁ dep)
    {dp un : Nat} {gd : Option (List Code)} {cn : Str} {cs : Scope} {a : Addr} {ccd : Value} {cl : List (Str × Addr)} {outer : List Env}
    {A₀ : Around} {base h₀ : Heap} {L : Addr} {m mg mb : Str → Option Value} {loose : List Str} {mean : ExcName → Option Value} {news R : List (Addr × Obj)} {s : Shared}
    {f c' cN cI cA d : Addr} {oc oN oI oA : Obj} {doc pm ctv : Value} {vs0 : Array Value} {t0 tN t1 t2 t3 : Tok} {vs : List Value} {ns : List Int} {k : Nat} {x Lo Ri : Int} {X lo ri : Nat} {Q E : Value → Shared → Prop}
    (B : Below A₀ base outer h₀) (F : Fr h₀ L s.heap m) (X₀ : K.In h₀) (N : News h₀ L s.heap news) (T : Top topProg loose mean mg mb h₀) (hk : cs.kind = .function) (hdp : dp + dep + 1 < 1000)
    (hm : (d, PySem.W.listOf vs.toArray k) ∈ news) (hs : Sel d news R)
    (hf : (f, fnMade (Str.ofString "inner") qual params body scope [(Str.ofString "n", cN), (Str.ofString "inner", cI), (Str.ofString "a_digits", cA)] doc pm c' ctv) ∈ R) (hc : (c', oc) ∈ R) (hcd : oc.data = .fields vs0) (hcv : vs0[1]? = some (.str qual t0))
    (hN : (cN, oN) ∈ R) (hNd : oN.data = .cell (some (.int nI tN))) (hI : (cI, oI) ∈ R) (hId : oI.data = .cell (some (.ref f))) (hA : (cA, oA) ∈ R) (hAd : oA.data = .cell (some (.ref d)))
    (hi : IntsAre vs ns) (ex : x = X) (el : Lo = lo) (er : Ri = ri) (hlr : lo < ri) (hrn : ri ≤ ns.length) (hn : ns.length ≤ 256) (hdep : ri - lo ≤ 2 ^ dep) (hX : X < 2 ^ (N₁ * (ri - lo)))
    (hret : ∀ r h' tk' vs', Fr h₀ L h' m → News h₀ L h' ((d, PySem.W.listOf vs'.toArray k) :: R) → IntsAre vs' (putD ns lo (digs N₁ X (ri - lo))) → Q r { s with heap := h', toks := tk' }) :
    wpAny (model prog w) (ktrTop dp un gd cn cs L a ccd cl outer) (call (.ref f) [.int x t1, .int Lo t2, .int Ri t3]) Q E s :=
  I.out B F X₀ (fun p hp => by
    rcases List.mem_cons.mp hp with rfl | hp
    · exact N _ hm
    · exact N _ (hs.sub p hp).1) T hk hdp (fun p hp => (hs.sub p hp).2) hf hc hcd hcv hN hNd hI hId hA hAd hi ex el er hlr hrn hn hdep hX hret

/-- the contract of the def within _digits2int -/
structure D2iInner (prog : Program) (w : World) (K : Frag) (qual : Str) (params : Arguments) (body : List Stmt) (scope : Scope) (nI : Int) (N₁ : Nat) (dep : Nat) : Prop where
  out : ∀ {dp un : Nat} {gd : Option (List Code)} {cn : Str} {cs : Scope} {a : Addr} {ccd : Value} {cl : List (Str × Addr)} {outer : List Env}
    {A₀ : Around} {base h₀ : Heap} {L : Addr} {m mg mb : Str → Option Value} {loose : List Str} {mean : ExcName → Option Value} {R : List (Addr × Obj)} {s : Shared}
    {f c' cN cI cA d : Addr} {oc oN oI oA : Obj} {doc pm ctv : Value} {vs0 : Array Value} {t0 tN t2 t3 : Tok} {vs : List Value} {ns : List Int} {k : Nat} {Lo Ri : Int} {lo ri : Nat} {Q E : Value → Shared → Prop},
    Below A₀ base outer h₀ → Fr h₀ L s.heap m → K.In h₀ → News h₀ L s.heap R → Top topProg loose mean mg mb h₀ → cs.kind = .function → dp + dep + 1 < 1000 →
    (f, fnMade (Str.ofString "inner") qual params body scope [(Str.ofString "n", cN), (Str.ofString "inner", cI), (Str.ofString "digits", cA)] doc pm c' ctv) ∈ R → (c', oc) ∈ R → oc.data = .fields vs0 → vs0[1]? = some (.str qual t0) →
    (cN, oN) ∈ R → oN.data = .cell (some (.int nI tN)) → (cI, oI) ∈ R → oI.data = .cell (some (.ref f)) → (cA, oA) ∈ R → oA.data = .cell (some (.ref d)) →
    (d, PySem.W.listOf vs.toArray k) ∈ R → IntsAre vs ns → InR N₁ ns → Lo = lo → Ri = ri → lo < ri → ri ≤ ns.length → ns.length ≤ 256 → ri - lo ≤ 2 ^ dep →
    (∀ tk h' tk', Fr h₀ L h' m → News h₀ L h' R → Q (.int (val N₁ (seg ns lo ri)) tk) { s with heap := h', toks := tk' }) →
    wpAny (model prog w) (ktrTop dp un gd cn cs L a ccd cl outer) (call (.ref f) [.int Lo t2, .int Ri t3]) Q E s
theorem D2iInner.all {prog : Program} {w : World} {K : Frag} {qual : Str} {params : Arguments} {body : List Stmt} {scope : Scope} {nI : Int} {N₁ : Nat}
    (step : ∀ dep, (∀ d', d' < dep → D2iInner prog w K qual params body scope nI N₁ d') → D2iInner prog w K qual params body scope nI N₁ dep) (dep : Nat) : D2iInner prog w K qual params body scope nI N₁ dep :=
  Nat.strongRecOn dep step
theorem D2iInner.use {prog : Program} {w : World} {K : Frag} {qual : Str} {params : Arguments} {body : List Stmt} {scope : Scope} {nI : Int} {N₁ : Nat} {dep : Nat} (I : D2iInner prog w K qual params body scope nI N₁ dep)
    {dp un : Nat} {gd : Option (List Code)} {cn : Str} {cs : Scope} {a : Addr} {ccd : Value} {cl : List (Str × Addr)} {outer : List Env}
    {A₀ : Around} {base h₀ : Heap} {L : Addr} {m mg mb : Str → Option Value} {loose : List Str} {mean : ExcName → Option Value} {R : List (Addr × Obj)} {s : Shared}
    {f c' cN cI cA d : Addr} {oc oN oI oA : Obj} {doc pm ctv : Value} {vs0 : Array Value} {t0 tN t2 t3 : Tok} {vs : List Value} {ns : List Int} {k : Nat} {Lo Ri : Int} {lo ri : Nat} {Q E : Value → Shared → Prop}
    (B : Below A₀ base outer h₀) (F : Fr h₀ L s.heap m) (X₀ : K.In h₀) (N : News h₀ L s.heap R) (T : Top topProg loose mean mg mb h₀) (hk : cs.kind = .function) (hdp : dp + dep + 1 < 1000)
    (hf : (f, fnMade (Str.ofString "inner") qual params body scope [(Str.ofString "n", cN), (Str.ofString "inner", cI), (Str.ofString "digits", cA)] doc pm c' ctv) ∈ R) (hc : (c', oc) ∈ R) (hcd : oc.data = .fields vs0) (hcv : vs0[1]? = some (.str qual t0))
    (hN : (cN, oN) ∈ R) (hNd : oN.data = .cell (some (.int nI tN))) (hI : (cI, oI) ∈ R) (hId : oI.data = .cell (some (.ref f))) (hA : (cA, oA) ∈ R) (hAd : oA.data = .cell (some (.ref d)))
    (hm : (d, PySem.W.listOf vs.toArray k) ∈ R) (hi : IntsAre vs ns) (hr : InR N₁ ns) (el : Lo = lo) (er : Ri = ri) (hlr : lo < ri) (hrn : ri ≤ ns.length) (hn : ns.length ≤ 256) (hdep : ri - lo ≤ 2 ^ dep)
    (hret : ∀ tk h' tk', Fr h₀ L h' m → News h₀ L h' R → Q (.int (val N₁ (seg ns lo ri)) tk) { s with heap := h', toks := tk' }) :
    wpAny (model prog w) (ktrTop dp un gd cn cs L a ccd cl outer) (call (.ref f) [.int Lo t2, .int Ri t3]) Q E s :=
  I.out B F X₀ N T hk hdp hf hc hcd hcv hN hNd hI hId hA hAd hm hi hr el er hlr hrn hn hdep hret

section
variable {prog : Program} {w : World} {A : Around} {E : Value → Shared → Prop} {s : Shared} {h₀ : Heap} {L l : Addr} {news : List (Addr × Obj)}
theorem truthy_list {vs : List Value} {ns : List Int} {k : Nat} {Q : Bool → Shared → Prop} (N : News h₀ L s.heap news) (hm : (l, PySem.W.listOf vs.toArray k) ∈ news) (hi : IntsAre vs ns) (hfit : ns.length ≤ 1000000)
    (h : Q (decide (0 < ns.length)) { s with toks := s.toks + 1 + 1 }) : wpAny (model prog w) A (truthy (.ref l)) Q E s :=
  truthy_ints_fit ⟨_, (N _ hm).1, rfl, k, rfl⟩ hi (by omega) h
theorem len_list' {vs : List Value} {ns : List Int} {k : Nat} {Q : Value → Shared → Prop} (N : News h₀ L s.heap news) (hm : (l, PySem.W.listOf vs.toArray k) ∈ news) (hi : IntsAre vs ns) (hfit : ns.length ≤ 1000000)
    (h : Q (.int (ns.length : Int) (s.toks + 1)) { s with toks := s.toks + 1 + 1 }) : wpAny (model prog w) A (call (.builtin "len") [.ref l]) Q E s :=
  kst_len N hm hi.length (by omega) h
end
end
section
/-! loops whose ledger may grow and change: the state is any word J of the turn's number, the frame's map, the ledger -/
section
variable {prog : Program} {w : World} {A : Around} {E : Value → Shared → Prop} {s : Shared} {env : Env} {h₀ : Heap} {x : Str} {body : List Stmt} {Q : Flow → Shared → Prop}
def TurnPost (h₀ : Heap) (L I : Addr) (itO : Obj) (J : (Str → Option Value) → List (Addr × Obj) → Prop) (s₁ : Shared) (Q : Flow → Shared → Prop) (f : Flow) (s₂ : Shared) : Prop :=
  match f with
  | .ret v => Q (.ret v) s₂
  | .brk => Q .next s₂
  | _ => ∃ h' tk m' news', s₂ = { s₁ with heap := h', toks := tk } ∧ Fr h₀ L h' m' ∧ News h₀ L h' ((I, itO) :: news') ∧ (∀ p ∈ news', p.1 ≠ I) ∧ J m' news'
theorem TurnPost.next {L I : Addr} {itO : Obj} {J : (Str → Option Value) → List (Addr × Obj) → Prop} {s₁ : Shared} {h' : Heap} {tk : Nat} {m' : Str → Option Value} {news' : List (Addr × Obj)}
    (F : Fr h₀ L h' m') (N : News h₀ L h' ((I, itO) :: news')) (ho : ∀ p ∈ news', p.1 ≠ I) (hj : J m' news') : TurnPost h₀ L I itO J s₁ Q .next { s₁ with heap := h', toks := tk } := ⟨h', tk, m', news', rfl, F, N, ho, hj⟩
theorem loop_gen {I : Addr} {fp : List Addr} {n : Nat} {P : Nat → Value → Prop} {St : Nat → Heap → Prop} {m₀ : Str → Option Value} {news₀ : List (Addr × Obj)} (J : Nat → (Str → Option Value) → List (Addr × Obj) → Prop)
    (W : Walks prog w A I fp [I] n P St) (hI : I ∈ fp) (hfp : ∀ b ∈ fp, b = I ∨ ∃ lo, ∀ i m news, J i m news → (b, lo) ∈ news) (hSt : ∀ i h, St i h → ∃ o, h.get? I = some o ∧ tlk o = false)
    (hLf : env.locals ∉ fp) (hI0 : h₀.get? I = none) (hnI : ∀ p ∈ news₀, p.1 ≠ I) (hst : St 0 s.heap) (F : Fr h₀ env.locals s.heap m₀) (N : News h₀ env.locals s.heap news₀) (hj : J 0 m₀ news₀)
    (turn : ∀ i v m₁ news₁ h tk itO, i < n → P i v → J i m₁ news₁ → (∀ p ∈ news₁, p.1 ≠ I) → tlk itO = false → Fr h₀ env.locals h (fun y => if y = x then some v else m₁ y) → News h₀ env.locals h ((I, itO) :: news₁) →
      wpAny (model prog w) A (execs body env) (TurnPost h₀ env.locals I itO (J (i + 1)) { s with heap := h, toks := tk } Q) E { s with heap := h, toks := tk })
    (done : ∀ h tk m₁ news₁, J n m₁ news₁ → Fr h₀ env.locals h m₁ → News h₀ env.locals h news₁ → Q .next { s with heap := h, toks := tk }) :
    LoopAtV prog w A h₀ env x body Q E (.ref I) s := by
  refine ⟨I, fp, [I], n, P, St, m₀, news₀, J, rfl, W, hLf, ?_, ?_, hst, F, N, hj, ?_, ?_⟩
  · intro b hb
    rw [List.mem_singleton.mp hb]; exact hI0
  · intro p hp hq
    exact hnI p hp (List.mem_singleton.mp hq)
  · rintro i v m₁ news₁ s₁ own ⟨hh', tk', rfl⟩ hin hP hJ hoff hown hget hall hst₁ F₁ N₁
    obtain ⟨itO, hit, hk⟩ := hSt _ _ hst₁
    have hIown : (I, itO) ∈ own := hall I hI hI0 itO hit
    have N₂ : News h₀ env.locals hh' ((I, itO) :: news₁) := fun p hp => by
      rcases List.mem_cons.mp hp with rfl | hp
      · exact N₁ _ (List.mem_append_left _ hIown)
      · exact N₁ _ (List.mem_append_right _ hp)
    refine wpAny_mono (turn i v m₁ news₁ hh' tk' itO hin hP hJ (fun p hp e => hoff p hp (List.mem_singleton.mpr e)) hk F₁ N₂) (fun f s₂ p => ?_) fun _ _ e => e
    have fin : (∃ h' tk m' news', s₂ = { { s with heap := hh', toks := tk' } with heap := h', toks := tk } ∧ Fr h₀ env.locals h' m' ∧ News h₀ env.locals h' ((I, itO) :: news') ∧ (∀ p ∈ news', p.1 ≠ I) ∧ J (i + 1) m' news') →
        LoopStepU h₀ env.locals [I] own (J (i + 1)) { s with heap := hh', toks := tk' } .next s₂ := by
      rintro ⟨h', tk, m', news', e, F', N', hne, hm⟩
      refine ⟨rfl, h', tk, m', news', e, F', fun p hp => ?_, fun p hp hq => hne p hp (List.mem_singleton.mp hq), hm⟩
      rcases List.mem_append.mp hp with hp | hp
      · obtain ⟨b, o⟩ := p
        rcases hfp b (hown _ hp) with rfl | ⟨lo, hlo⟩
        · have h1 := hget _ hp
          rw [hit] at h1
          cases h1
          exact N' _ (.head _)
        · have h1 := hget _ hp
          have h2 := (N₂ _ (.tail _ (hlo i m₁ news₁ hJ))).1
          have h3 : o = lo := Option.some.inj (h1.symm.trans h2)
          subst h3
          exact N' _ (.tail _ (hlo (i + 1) m' news' hm))
      · exact N' _ (.tail _ hp)
    cases f with
    | ret v => exact .ret p
    | brk => exact .brk p
    | next => exact .next (fin p)
    | cont => exact .cont (fin p)
  · rintro h' tk m' news' F' N' _ hJ
    exact done h' tk m' news' hJ F' N'

/-- for x in reversed(l), l a list of ints of the ledger's -/
theorem loop_rev {D l : Addr} {vs : List Value} {ns : List Int} {k : Nat} {m₀ : Str → Option Value} {news₀ news : List (Addr × Obj)} (J : Nat → (Str → Option Value) → List (Addr × Obj) → Prop)
    (hh : A.handled = none) (hi : IntsAre vs ns) (hD : (D, revObj l ((vs.length : Int) - 1)) ∈ news) (hs : Sel D news news₀) (hl : (l, PySem.W.listOf vs.toArray k) ∈ news₀)
    (hlJ : ∀ i m news, J i m news → (l, PySem.W.listOf vs.toArray k) ∈ news) (F : Fr h₀ env.locals s.heap m₀) (N : News h₀ env.locals s.heap news) (hj : J 0 m₀ news₀)
    (turn : ∀ i t m₁ news₁ h tk itO, i < ns.length → J i m₁ news₁ → (∀ p ∈ news₁, p.1 ≠ D) → tlk itO = false → Fr h₀ env.locals h (fun y => if y = x then some (.int (ns.getD (ns.length - 1 - i) 0) t) else m₁ y) → News h₀ env.locals h ((D, itO) :: news₁) →
      wpAny (model prog w) A (execs body env) (TurnPost h₀ env.locals D itO (J (i + 1)) { s with heap := h, toks := tk } Q) E { s with heap := h, toks := tk })
    (done : ∀ h tk m₁ news₁, J ns.length m₁ news₁ → Fr h₀ env.locals h m₁ → News h₀ env.locals h news₁ → Q .next { s with heap := h, toks := tk }) :
    wpAny (model prog w) A (pyIter (.ref D)) (fun it s₂ => LoopAtV prog w A h₀ env x body Q E it s₂) E s := by
  have hDx := N _ hD
  have hlx := N _ (hs.sub _ hl).1
  have hls : s.heap.IsList l vs.toArray := ⟨_, hlx.1, rfl, k, rfl⟩
  have hne : l ≠ D := (hs.sub _ hl).2
  have hit : s.heap.IsRevIter D l ((vs.length : Int) - 1) := ⟨_, hDx.1, rfl, rfl⟩
  refine wpAny_pyIter_revIter hit ?_
  have W := Walks.listRev (prog := prog) (w := w) hh D l hne vs.toArray
  have hlen : vs.toArray.size = ns.length := by simp [hi.length]
  rw [hlen] at W
  refine loop_gen J W (.head _) ?_ ?_ ?_ hDx.2.2 (fun p hp => (hs.sub p hp).2) ⟨Nat.zero_le _, ?_, hls⟩ F (fun p hp => N p (hs.sub p hp).1) hj ?_ done
  · intro b hb
    rcases List.mem_cons.mp hb with rfl | hb
    · exact .inl rfl
    · rw [List.mem_singleton.mp hb]
      exact .inr ⟨_, hlJ⟩
  · rintro i h ⟨_, ⟨o, ho, hc, hd⟩, _⟩
    refine ⟨o, ho, ?_⟩
    unfold tlk
    rw [hd, hc]
    rfl
  · intro hm
    rcases List.mem_cons.mp hm with e | hm
    · exact hDx.2.1 e.symm
    · exact hlx.2.1 (List.mem_singleton.mp hm).symm
  · have e : ((ns.length : Nat) : Int) - 1 - ((0 : Nat) : Int) = (vs.length : Int) - 1 := by rw [hi.length]; simp
    rw [e]; exact hit
  · intro i v m₁ news₁ h tk itO hin hP hJ hoff hk F₁ N₁
    obtain ⟨t, hx⟩ := hi.get (ns.length - 1 - i) (ns[ns.length - 1 - i]'(by omega)) (List.getElem?_eq_getElem (by omega))
    have hv : v = .int (ns.getD (ns.length - 1 - i) 0) t := by
      have hP' : vs[ns.length - 1 - i]? = some v := by simpa using hP
      rw [hx] at hP'
      have e : ns.getD (ns.length - 1 - i) 0 = ns[ns.length - 1 - i]'(by omega) := by
        rw [List.getD_eq_getElem?_getD, List.getElem?_eq_getElem (by omega)]; rfl
      rw [e]
      exact (Option.some.inj hP').symm
    subst hv
    exact turn i t m₁ news₁ h tk itO hin hJ hoff hk F₁ N₁

/-- for x in range(..), by ones -/
theorem loop_range {r : Addr} {a₀ b₀ : Int} {t₀ u₀ v₀ : Tok} {n : Nat} {m₀ : Str → Option Value} {news : List (Addr × Obj)} (J : Nat → (Str → Option Value) → List (Addr × Obj) → Prop)
    (hh : A.handled = none) (hr : IsRange s.heap r a₀ b₀ 1 t₀ u₀ v₀) (hsmall : Builtin.Range.small a₀ b₀ 1 = true) (hn : Builtin.Range.rangeSize a₀ b₀ 1 = (n : Int)) (F : Fr h₀ env.locals s.heap m₀) (N : News h₀ env.locals s.heap news) (hj : J 0 m₀ news)
    (turn : ∀ i t m₁ news₁ h tk I itO, i < n → J i m₁ news₁ → (∀ p ∈ news, p.1 < I) → (∀ p ∈ news₁, p.1 ≠ I) → tlk itO = false → Fr h₀ env.locals h (fun y => if y = x then some (.int (a₀ + (i : Int)) t) else m₁ y) → News h₀ env.locals h ((I, itO) :: news₁) →
      wpAny (model prog w) A (execs body env) (TurnPost h₀ env.locals I itO (J (i + 1)) { s with heap := h, toks := tk } Q) E { s with heap := h, toks := tk })
    (done : ∀ h tk m₁ news₁, J n m₁ news₁ → Fr h₀ env.locals h m₁ → News h₀ env.locals h news₁ → Q .next { s with heap := h, toks := tk }) :
    wpAny (model prog w) A (pyIter (.ref r)) (fun it s₂ => LoopAtV prog w A h₀ env x body Q E it s₂) E s := by
  refine wpAny_pyIter_range hr hsmall ?_
  have W : Walks prog w A s.heap.objs.size [s.heap.objs.size] [s.heap.objs.size] n (fun i v => i < n ∧ ∃ t, v = .int (a₀ + i * 1) t)
      (fun i h => IsRangeIter h s.heap.objs.size (a₀ + (i : Nat) * 1) ((n : Int) - (i : Nat)) 1) := (Walks.range hh _ a₀ 1 n).bound
  refine loop_gen J W (.head _) ?_ ?_ ?_ (next_is_new F) (fun p hp e => absurd (Heap.lt_size (N p hp).1) (e ▸ Nat.lt_irrefl _)) (by show IsRangeIter _ _ _ _ _; rw [hn]; simpa using Heap.get?_push_size _ rfl) (F.push _) (fun p hp => ⟨Heap.get?_push_of_some _ (N p hp).1, (N p hp).2⟩) hj ?_ done
  · intro b hb
    exact .inl (List.mem_singleton.mp hb)
  · intro i h hst
    exact ⟨_, hst, rfl⟩
  · intro hm
    exact absurd F.ns.lt ((List.mem_singleton.mp hm) ▸ Nat.lt_irrefl _)
  · rintro i v m₁ news₁ h tk itO hin ⟨_, t, rfl⟩ hJ hoff hk F₁ N₁
    have e : a₀ + (i : Int) * 1 = a₀ + (i : Int) := by omega
    rw [e] at F₁
    exact turn i t m₁ news₁ h tk _ itO hin hJ (fun p hp => Heap.lt_size (N p hp).1) hoff hk F₁ N₁

/-- for x in it, it the iterator of a list of ints of the ledger's -/
theorem loop_listit {D l : Addr} {itO₀ : Obj} {vs : List Value} {ns : List Int} {k : Nat} {m₀ : Str → Option Value} {news₀ news : List (Addr × Obj)} (J : Nat → (Str → Option Value) → List (Addr × Obj) → Prop)
    (hh : A.handled = none) (hi : IntsAre vs ns) (hD : (D, itO₀) ∈ news) (hc : itO₀.cls = .type "list_iterator") (hd : itO₀.data = .fields #[.ref l, .int 0 0]) (hs : Sel D news news₀) (hl : (l, PySem.W.listOf vs.toArray k) ∈ news₀)
    (hlJ : ∀ i m news, J i m news → (l, PySem.W.listOf vs.toArray k) ∈ news) (F : Fr h₀ env.locals s.heap m₀) (N : News h₀ env.locals s.heap news) (hj : J 0 m₀ news₀)
    (turn : ∀ i t m₁ news₁ h tk itO, i < ns.length → J i m₁ news₁ → (∀ p ∈ news₁, p.1 ≠ D) → tlk itO = false → Fr h₀ env.locals h (fun y => if y = x then some (.int (ns.getD i 0) t) else m₁ y) → News h₀ env.locals h ((D, itO) :: news₁) →
      wpAny (model prog w) A (execs body env) (TurnPost h₀ env.locals D itO (J (i + 1)) { s with heap := h, toks := tk } Q) E { s with heap := h, toks := tk })
    (done : ∀ h tk m₁ news₁, J ns.length m₁ news₁ → Fr h₀ env.locals h m₁ → News h₀ env.locals h news₁ → Q .next { s with heap := h, toks := tk }) :
    wpAny (model prog w) A (pyIter (.ref D)) (fun it s₂ => LoopAtV prog w A h₀ env x body Q E it s₂) E s := by
  have hDx := N _ hD
  have hlx := N _ (hs.sub _ hl).1
  have hls : s.heap.IsList l vs.toArray := ⟨_, hlx.1, rfl, k, rfl⟩
  have hne : l ≠ D := (hs.sub _ hl).2
  have hit : s.heap.IsListIter D l 0 := ⟨_, hDx.1, hc, hd⟩
  refine wpAny_pyIter_listiter hit ?_
  have W := Walks.list (prog := prog) (w := w) hh D l hne vs.toArray
  have hlen : vs.toArray.size = ns.length := by simp [hi.length]
  rw [hlen] at W
  refine loop_gen J W (.head _) ?_ ?_ ?_ hDx.2.2 (fun p hp => (hs.sub p hp).2) ⟨hit, hls⟩ F (fun p hp => N p (hs.sub p hp).1) hj ?_ done
  · intro b hb
    rcases List.mem_cons.mp hb with rfl | hb
    · exact .inl rfl
    · rw [List.mem_singleton.mp hb]
      exact .inr ⟨_, hlJ⟩
  · rintro i h ⟨⟨o, ho, hc, hd⟩, _⟩
    refine ⟨o, ho, ?_⟩
    unfold tlk
    rw [hd, hc]
    rfl
  · intro hm
    rcases List.mem_cons.mp hm with e | hm
    · exact hDx.2.1 e.symm
    · exact hlx.2.1 (List.mem_singleton.mp hm).symm
  · intro i v m₁ news₁ h tk itO hin hP hJ hoff hk F₁ N₁
    obtain ⟨t, hx⟩ := hi.get i (ns[i]'hin) (List.getElem?_eq_getElem hin)
    have hv : v = .int (ns.getD i 0) t := by
      have hP' : vs[i]? = some v := by simpa using hP
      rw [hx] at hP'
      have e : ns.getD i 0 = ns[i]'hin := by
        rw [List.getD_eq_getElem?_getD, List.getElem?_eq_getElem hin]; rfl
      rw [e]
      exact (Option.some.inj hP').symm
    subst hv
    exact turn i t m₁ news₁ h tk itO hin hJ hoff hk F₁ N₁

/-- for x in it, it a range's iterator -/
theorem loop_rangeit {D : Addr} {n : Nat} {m₀ : Str → Option Value} {news₀ news : List (Addr × Obj)} (J : Nat → (Str → Option Value) → List (Addr × Obj) → Prop)
    (hh : A.handled = none) (hit : IsRangeIter s.heap D 0 (n : Int) 1) (hD : (D, (⟨.type "range_iterator", none, .fields #[rawInt 0, rawInt n, rawInt 1], #[]⟩ : Obj)) ∈ news) (hs : Sel D news news₀)
    (F : Fr h₀ env.locals s.heap m₀) (N : News h₀ env.locals s.heap news) (hj : J 0 m₀ news₀)
    (turn : ∀ i t m₁ news₁ h tk itO, i < n → J i m₁ news₁ → (∀ p ∈ news₁, p.1 ≠ D) → tlk itO = false → Fr h₀ env.locals h (fun y => if y = x then some (.int (i : Int) t) else m₁ y) → News h₀ env.locals h ((D, itO) :: news₁) →
      wpAny (model prog w) A (execs body env) (TurnPost h₀ env.locals D itO (J (i + 1)) { s with heap := h, toks := tk } Q) E { s with heap := h, toks := tk })
    (done : ∀ h tk m₁ news₁, J n m₁ news₁ → Fr h₀ env.locals h m₁ → News h₀ env.locals h news₁ → Q .next { s with heap := h, toks := tk }) :
    wpAny (model prog w) A (pyIter (.ref D)) (fun it s₂ => LoopAtV prog w A h₀ env x body Q E it s₂) E s := by
  have hDx := N _ hD
  refine wpAny_pyIter_rangeiter hit ?_
  have W : Walks prog w A D [D] [D] n (fun i v => i < n ∧ ∃ t, v = .int (0 + i * 1) t)
      (fun i h => IsRangeIter h D (0 + (i : Nat) * 1) ((n : Int) - (i : Nat)) 1) := (Walks.range hh _ 0 1 n).bound
  refine loop_gen J W (.head _) ?_ ?_ ?_ hDx.2.2 (fun p hp => (hs.sub p hp).2) (by simpa using hit) F (fun p hp => N p (hs.sub p hp).1) hj ?_ done
  · intro b hb
    exact .inl (List.mem_singleton.mp hb)
  · intro i h hst
    exact ⟨_, hst, rfl⟩
  · intro hm
    exact hDx.2.1 (List.mem_singleton.mp hm).symm
  · rintro i v m₁ news₁ h tk itO hin ⟨_, t, rfl⟩ hJ hoff hk F₁ N₁
    have e : (0 : Int) + (i : Int) * 1 = (i : Int) := by omega
    rw [e] at F₁
    exact turn i t m₁ news₁ h tk itO hin hJ hoff hk F₁ N₁
end

section
variable {prog : Program} {w : World} {A : Around} {E : Value → Shared → Prop} {s : Shared} {h₀ : Heap} {L d : Addr} {m : Str → Option Value} {news news' : List (Addr × Obj)}
theorem append_my {vs : List Value} {k : Nat} {v : Value} {Q : Value → Shared → Prop} (F : Fr h₀ L s.heap m) (N : News h₀ L s.heap news) (hm : (d, PySem.W.listOf vs.toArray k) ∈ news) (hs : Sel d news news') (hsz : vs.length ≤ 1000000)
    (h : ∀ h', Fr h₀ L h' m → News h₀ L h' ((d, PySem.W.listOf (vs ++ [v]).toArray (k + 1)) :: news') → Q .none { s with heap := h' }) : wpAny (model prog w) A (call (.builtin "list.append") [.ref d, v]) Q E s := by
  refine append_K (news := (d, PySem.W.listOf vs.toArray k) :: news') F (fun p hp => ?_) (.head fun p hp => (hs.sub p hp).2) (fun h' F' N' => h h' F' ?_) (by rw [List.size_toArray, PySem.sizeLine_eq]; omega)
  · rcases List.mem_cons.mp hp with rfl | hp
    · exact N _ hm
    · exact N _ (hs.sub p hp).1
  · simpa using N'
theorem reverse_my {vs : List Value} {k : Nat} {Q : Value → Shared → Prop} (F : Fr h₀ L s.heap m) (N : News h₀ L s.heap news) (hm : (d, PySem.W.listOf vs.toArray k) ∈ news) (hs : Sel d news news') (hsz : vs.length ≤ 1000000)
    (h : ∀ h', Fr h₀ L h' m → News h₀ L h' ((d, PySem.W.listOf vs.reverse.toArray k) :: news') → Q .none { s with heap := h' }) : wpAny (model prog w) A (call (.builtin "list.reverse") [.ref d]) Q E s := by
  refine kl_reverse (its := vs.toArray) (news := (d, PySem.W.listOf vs.toArray k) :: news') F (fun p hp => ?_) (by simp) (.head fun p hp => (hs.sub p hp).2) (by simp [PySem.sizeLine_eq]; omega) (fun h' F' N' => h h' F' N')
  rcases List.mem_cons.mp hp with rfl | hp
  · exact N _ hm
  · exact N _ (hs.sub p hp).1
theorem kstB_fr {h : Heap} {m₁ : Str → Option Value} {ps : List (Str × Value)} (F : Fr h₀ L h m₁) (hp : ∀ p ∈ ps, m₁ p.1 = some p.2) : Fr h₀ L h (kstB m₁ ps) := by
  have e : kstB m₁ ps = m₁ := by
    funext z
    exact kstB_eq hp fun _ => rfl
  rw [e]; exact F
theorem kstB_frX {h : Heap} {m₁ : Str → Option Value} {x : Str} {v : Value} {ps : List (Str × Value)} (F : Fr h₀ L h (fun y => if y = x then some v else m₁ y)) (hp : ∀ p ∈ ps, m₁ p.1 = some p.2) : Fr h₀ L h (fun y => if y = x then some v else kstB m₁ ps y) := by
  have e : kstB m₁ ps = m₁ := by
    funext z
    exact kstB_eq hp fun _ => rfl
  rw [e]; exact F
end

section
variable {prog : Program} {w : World} {A : Around} {E : Value → Shared → Prop} {s : Shared} {a r : Int} {t : Tok} {Q : Value → Shared → Prop}
theorem invert_eq (e : Builtin.bitNot a = r) (h : Q (.int r s.toks) { s with toks := s.toks + 1 }) : wpAny (model prog w) A (unaryOp .Invert (.int a t)) Q E s := by
  subst e; exact invert_int h
theorem neg_eq (e : -a = r) (h : Q (.int r s.toks) { s with toks := s.toks + 1 }) : wpAny (model prog w) A (unaryOp .USub (.int a t)) Q E s := by
  subst e; exact PyProof.Rows.neg_int h
end

section
variable {prog : Program} {w : World} {A : Around} {E : Value → Shared → Prop} {s : Shared} {h₀ : Heap} {L l : Addr} {m : Str → Option Value} {news : List (Addr × Obj)} {Q : Value → Shared → Prop}
theorem iter_list_my {vs : List Value} {k : Nat} (F : Fr h₀ L s.heap m) (N : News h₀ L s.heap news) (hm : (l, PySem.W.listOf vs.toArray k) ∈ news)
    (h : ∀ I h', Fr h₀ L h' m → News h₀ L h' ((I, ({ cls := .type "list_iterator", data := .fields #[.ref l, .int 0 0] } : Obj)) :: news) → (∀ p ∈ news, p.1 < I) → Q (.ref I) { s with heap := h' }) :
    wpAny (model prog w) A (call (.builtin "iter") [.ref l]) Q E s := by
  refine call_function_entry (by decide +kernel) (by decide +kernel) kdk_entry_iter (kdk_args_iter _) ?_
  unfold Builtin.«iter»
  refine wpAny_bind (m := someArgs "iter" 1 2 _) (wpAny_of_eq (a := [Value.ref l]) (by first | rfl | kernel_rfl!) ?_)
  show wpAny _ _ (pyIter (.ref l) >>= _) _ _ _
  refine wpAny_bind (wpAny_pyIter_list ⟨_, (N _ hm).1, rfl, k, rfl⟩ ?_)
  exact wpAny_pure ⟨_, rfl, h _ _ (F.push _) (News.push F N _ rfl) fun q hq => Heap.lt_size (N q hq).1⟩
theorem iter_range_my {a b c : Int} {t u v : Tok} (F : Fr h₀ L s.heap m) (N : News h₀ L s.heap news) (hr : IsRange s.heap l a b c t u v) (hsmall : Builtin.Range.small a b c = true)
    (h : ∀ I h', Fr h₀ L h' m → News h₀ L h' ((I, ({ cls := .type "range_iterator", data := .fields #[rawInt a, rawInt (Builtin.Range.rangeSize a b c), rawInt c] } : Obj)) :: news) → (∀ p ∈ news, p.1 < I) → Q (.ref I) { s with heap := h' }) :
    wpAny (model prog w) A (call (.builtin "iter") [.ref l]) Q E s := by
  refine call_function_entry (by decide +kernel) (by decide +kernel) kdk_entry_iter (kdk_args_iter _) ?_
  unfold Builtin.«iter»
  refine wpAny_bind (m := someArgs "iter" 1 2 _) (wpAny_of_eq (a := [Value.ref l]) (by first | rfl | kernel_rfl!) ?_)
  show wpAny _ _ (pyIter (.ref l) >>= _) _ _ _
  refine wpAny_bind (wpAny_pyIter_range hr hsmall ?_)
  exact wpAny_pure ⟨_, rfl, h _ _ (F.push _) (News.push F N _ rfl) fun q hq => Heap.lt_size (N q hq).1⟩
end
end
section
abbrev T1 : TS := ⟨30, 32, 4, Str.ofString "_int2digits.<locals>.inner"⟩
abbrev T2 : TS := ⟨37, 47, 4, Str.ofString "_digits2int.<locals>.inner"⟩
abbrev T3 : TS := ⟨102, 133, 16, Str.ofString "law.<locals>.<lambda>"⟩
def Ts : List TS := [T1, T2, T3]
theorem Ts_one : TsOk Ts := by
  refine ⟨?_, ?_⟩
  rotate_left
  · intro T hT
    simp only [Ts, List.mem_cons, List.not_mem_nil, or_false] at hT
    rcases hT with rfl | rfl | rfl <;> decide
  intro T₁ h1 T₂ h2 e
  simp only [Ts, List.mem_cons, List.not_mem_nil, or_false] at h1 h2
  rcases h1 with rfl | rfl | rfl <;> rcases h2 with rfl | rfl | rfl <;> first | rfl | (exact absurd e (by decide))
end
section


local macro_rules | `(tactic| ktr_rel) => `(tactic| first | refine' TailOf.base | (refine' TailOf.cons ?t9; (case t9 => ktr_rel)))
local macro_rules | `(tactic| ktr_rel) => `(tactic| first | ((with_reducible refine' Sel.hit ?s9); (case s9 => ktr_rel)) | (refine' Sel.keep ?ne ?s9; (case ne => first | k_ne | (refine' ne_kind ?x1 ?x2 ?x3 ?x4; (case x1 => k_asm); (case x2 => k_mem); (case x3 => k_mem); (case x4 => with_unfolding_all rfl)) | fail "ne"); (case s9 => ktr_rel)) | (refine' Sel.base ?b9; (case b9 => (refine' off_all ?n1 ?n2 ?n3 ?n4 ?n5 ?n6; (case n1 => assumption); (case n2 => assumption); (case n3 => ktr_rel); (case n4 => k_mem); (case n5 => first | exact rfl | assumption | (refine' tlk_cell ?n7; (case n7 => assumption))); (case n6 => (refine' ne_above ?n8 ?n9; (case n8 => assumption); (case n9 => omega)))))))
local macro_rules | `(tactic| walk_at "storeName") => `(tactic| (k_here; k_dflt (refine' store_cell ?F ?N ?c ?m ?d ?S ?_ ?a ?b; (case a => rfl); (case b => rfl); (case F => k_asm); (case N => k_asm); (case c => rfl); (case m => k_mem); (case d => k_asm); (case S => ktr_rel); k_whole; intro h' o' F' N' d'; (try dsimp only at N'); (try k_sweep))))
local macro_rules | `(tactic| ktr_rel) => `(tactic| first | (refine' Spl.base ?b9; (case b9 => assumption)) | (refine' Spl.keep ?ta ?s9; (case ta => (first | exact rfl | assumption | (refine' tabby_cell ?b8; (case b8 => assumption)) | (refine' tabby_of_tlk ?b8; (case b8 => assumption)) | (refine' tabby_code ?b8 ?b7; (case b8 => assumption); (case b7 => assumption)) | fail "ta")); (case s9 => ktr_rel)) | (refine' Spl.drop ?s9; (case s9 => ktr_rel)))
local macro_rules | `(tactic| ktr_rel) => `(tactic| first | refine' Suf.base | (refine' Suf.cons ?t9; (case t9 => ktr_rel)))
local macro_rules | `(tactic| walk_at "callWith ref") => `(tactic| (k_here; k_dflt (first
  | (refine' callWith_F ?k1 ?_; (case k1 => exact FnAt.of (by k_asm) (by k_mem)); k_whole)
  | (refine' callWith_F0 ?k1 ?_; (case k1 => exact FnAt.of (by k_asm) (by k_mem)); k_whole; try dsimp only [List.nil_append, List.cons_append]))))
local macro_rules | `(tactic| walk_at "eval Name") => `(tactic| (k_here; k_dflt (refine' nameX_F ?N ?c ?m ?d ?_ ?a ?b; (case a => rfl); (case b => rfl); (case N => k_asm); (case c => rfl); (case m => k_mem); (case d => k_asm); k_whole)))
local macro_rules | `(tactic| k_all) => `(tactic| assumption)
local macro_rules | `(tactic| k_mem) => `(tactic| first | ((with_reducible refine' memL ?_); assumption) | ((with_reducible refine' memR ?_); assumption) | ((with_reducible refine' memI ?_); ktr_member) | fail "k_mem")
local macro_rules | `(tactic| walk_at "binaryOp RShift int int") => `(tactic| (k_here; (refine' rshift_eq ?n ?e ?_; (case n => first | decide | assumption | exact Int.natCast_nonneg _); (case e => assumption); k_whole)))
local macro_rules | `(tactic| walk_at "binaryOp Mult int int") => `(tactic| (k_here; (refine' mul_eq ?e ?n ?_; (case e => assumption); (case n => assumption); k_whole)))
local macro_rules | `(tactic| walk_at "binaryOp LShift int int") => `(tactic| (k_here; (refine' lshift_eq ?e ?n ?m ?_; (case e => assumption); (case n => first | decide | assumption | exact Int.natCast_nonneg _); (case m => assumption); k_whole)))
local macro_rules | `(tactic| walk_at "binaryOp BitXor int int") => `(tactic| (k_here; (refine' xor_eq ?e ?_; (case e => assumption); k_whole)))

local macro_rules | `(tactic| walk_at "call builtin:len") => `(tactic| (k_here; (with_reducible show wpAny _ _ (call (Value.builtin "len") [Value.ref _]) _ _ _); k_dflt (refine' len_list' ?kl1 ?kl2 ?kl3 ?kl4 ?_; (case kl1 => k_asm); (case kl2 => k_mem); (case kl3 => assumption); (case kl4 => first | omega | ((try simp only [List.length_replicate]); omega)); k_whole); (try simp only [List.length_replicate])))
local macro_rules | `(tactic| walk_at "truthy ref") => `(tactic| (k_here; (with_reducible show wpAny _ _ (truthy (Value.ref _)) _ _ _); k_dflt (refine' truthy_list ?kl1 ?kl2 ?kl3 ?kl4 ?_; (case kl1 => k_asm); (case kl2 => k_mem); (case kl3 => assumption); (case kl4 => omega); k_whole)))

local macro_rules | `(tactic| ktr_rel) => `(tactic| first | (refine' Pick.base ?pb9; (case pb9 => ktr_rel)) | (refine' Pick.cons ?pm9 ?pr9; (case pm9 => k_mem); (case pr9 => ktr_rel)) | fail "pick")
local macro_rules | `(tactic| walk_at "call builtin:list.append") => `(tactic| (k_here; k_dflt (show wpAny _ _ (call (Value.builtin _) [Value.ref _, _]) _ _ _); k_dflt (refine' append_my ?ap1 ?ap2 ?ap3 ?ap4 ?ap5 ?_; (case ap1 => k_asm); (case ap2 => k_asm); (case ap3 => k_mem); (case ap4 => ktr_rel); (case ap5 => omega); k_whole); intro h' F' N'))
local macro_rules | `(tactic| walk_at "call builtin:list.reverse") => `(tactic| (k_here; k_dflt (show wpAny _ _ (call (Value.builtin _) [Value.ref _]) _ _ _); k_dflt (refine' reverse_my ?ap1 ?ap2 ?ap3 ?ap4 ?ap5 ?_; (case ap1 => k_asm); (case ap2 => k_asm); (case ap3 => k_mem); (case ap4 => ktr_rel); (case ap5 => omega); k_whole); intro h' F' N'))
local macro_rules | `(tactic| walk_at "binaryOp Add int int") => `(tactic| (k_here; (refine' add_eq ?e ?_; (case e => assumption); k_whole)))
local macro_rules | `(tactic| walk_at "compareOp Is") => `(tactic| (k_here; (with_reducible show wpAny _ _ (compareOp CmpOp.Is (Value.int _ _) (Value.ref _)) _ _ _); k_dflt (refine' wpAny_is_other ?io1 ?io2 ?_; (case io1 => with_unfolding_all rfl); (case io2 => (intro x; cases x)); k_whole)))
local macro_rules | `(tactic| walk_at "binaryOp Mult ref int") => `(tactic| (k_here; (with_reducible show wpAny _ _ (binaryOp Operator.Mult (Value.ref _) (Value.int _ _)) _ _ _); k_dflt (refine' mul_zero_list ?F ?N ?l ?x ?z ?_; (case F => k_asm); (case N => k_asm); (case l => exact List.Mem.head _); (case x => assumption); (case z => assumption); k_whole); intro D' h' vs' F' N' i1 l1; (have l0 := l1); (try k_lt l1); (try k_sweep)))
local macro_rules | `(tactic| walk_at "exec FunctionDef") => `(tactic| (k_here; k_dflt (refine' nestDef_K ?d0 ?k0 ?a0 ?_; (case d0 => exact rfl); (case k0 => exact rfl); (case a0 => exact rfl)); k_dflt (refine' nest_spl T1 Ts_one (.head _) ?F ?N ?S ?ht ?T ?C ?cd ?l ?c ?q ?cl ?_; (case F => k_asm); (case N => k_asm); (case T => k_asm); (case cd => exact rfl); (case C => exact codeHd_of_K (c := 34) (P := 30) (by assumption) (by kernel_rfl)); (case S => ktr_rel); (case ht => assumption); (case l => rfl); (case c => rfl); (case q => rfl); (case cl => exact rfl); k_whole); intro f' c' oc' vs' t' ct' dc' h' tk' tl' F' N' ht' hc' d1' d2' l1 fr1; (try k_lt l1); (try dsimp only [List.cons_append] at N')))
theorem i2d_spec0 {w : World} {dp un : Nat} {gd : Option (List Code)} {cn : Str} {cs : Scope} {a : Addr} {ccd : Value} {cl : List (Str × Addr)} {outer : List Env}
    {A₀ : Around} {base h₀ : Heap} {L : Addr} {m mg mb : Str → Option Value} {loose : List Str} {mean : ExcName → Option Value} {rest tl : List (Addr × Obj)} {s : Shared}
    {x n : Int} {X₁ N₁ len : Nat} {t u : Tok} {Q E : Value → Shared → Prop}
    (B : Below A₀ base outer h₀) (F : Fr h₀ L s.heap m) (X : (Mine.hd.heap_39 w.params).In h₀) (N : News h₀ L s.heap (rest ++ tl)) (T : Top topProg loose mean mg mb h₀)
    (hk : cs.kind = .function) (hd : dp + 10 < 1000) (hr : NT rest) (ht : TabsOk Ts tl) (hx : x = X₁) (hn : n = N₁) (hn0 : 0 < N₁) (hn2 : N₁ ≤ 2000) (hlen : len = (Builtin.Int.intBits x + N₁ - 1) / N₁) (hl2 : len ≤ 256)
    (hret : ∀ d h' tk' vs k tl', Fr h₀ L h' m → News h₀ L h' ((d, PySem.W.listOf vs.toArray k) :: (rest ++ tl')) → TabsOk Ts tl' → IntsAre vs (digs N₁ X₁ len) → (∀ p ∈ rest, p.1 < d) → Fresh rest tl tl' → Q (.ref d) { s with heap := h', toks := tk' }) :
    wpAny (model PySem.Challenge.rw_xi0012_03.row.prog w) (ktrTop dp un gd cn cs L a ccd cl outer) (call (.ref 35) [.int x t, .int n u]) Q E s := by
  revert X; k_fill; intro X
  have hn3 : n < 1000000 := by omega
  have hn4 : 0 < n := by omega
  have hq : Int.fdiv ((Builtin.Int.intBits x : Int) + n - 1) n = (len : Int) := by rw [hlen]; exact len_eq hn hn0
  refine wpAny_call ?_
  k_dflt (refine' code_defC ?k1 ?k2 ?k3 ?k4 ?k5 ?kA ?kF ?kK ?k6 ?k7 ?k8 ?k9 ?kB ?kD ?_ ?c2 ?c3 ?c4; (case kA => exact rfl); (case kF => exact rfl); (case kK => exact hk); (case k1 => k_asm); (case k2 => k_asm); (case k3 => k_asm); (case k4 => k_asm); (case k5 => k_asm); (case k6 => k_is); (case k7 => k_is); (case k8 => ktr_room); (case k9 => exact BindsTo.of_eq rfl); (case kB => exact rfl); (case kD => decide +kernel); (case c2 => exact rfl); (case c3 => exact rfl); (case c4 => exact rfl); k_whole; intro g' L' h' tk' cells' FG' F' N' Y' B' X' T' l1; (try dsimp only); (try k_lift B'); (try k_fold))
  obtain ⟨o1, o2, o3, hE, d1, d2, d3⟩ := CellsAre.three Y'
  subst hE
  have lr : ∀ p ∈ rest, p.1 < L' := fun p hp => l1 p (List.mem_append_left _ hp)
  replace d1 : o1.data = .cell none := d1
  replace d2 : o2.data = .cell none := d2
  replace d3 : o3.data = .cell (some (.int n u)) := d3
  (try simp only [List.cons_append, List.nil_append] at N')
  k_steps
  all_goals try dsimp only
  · rename_i hx0
    obtain ⟨hp0, hpX⟩ := len_pos hx hx0 hn0 hlen
    k_dflt (refine' I2dInner.use (dep := 8) (nI := n) (N₁ := N₁) (X := X₁) (lo := 0) (ri := len) ?u9I ?u9B ?u9F ?u9X ?u9N ?u9T ?u9k ?u9p ?u9m ?u9S ?u9f ?u9c ?u9cd ?u9cv ?u9hN ?u9hNd ?u9hI ?u9hId ?u9hA ?u9hAd ?u9i ?u9ex ?u9el ?u9er ?u9lr ?u9rn ?u9n ?u9dp ?u9xx ?_; (case u9B => k_asm); (case u9F => k_asm); (case u9X => k_asm); (case u9N => k_asm); (case u9T => k_asm); (case u9k => exact rfl); (case u9p => omega); (case u9m => k_mem); (case u9S => ktr_rel); (case u9f => k_mem); (case u9c => k_mem); (case u9cd => assumption); (case u9cv => assumption); (case u9hN => k_mem); (case u9hNd => assumption); (case u9hI => k_mem); (case u9hId => assumption); (case u9hA => k_mem); (case u9hAd => assumption); (case u9i => assumption); (case u9ex => exact hx); (case u9el => exact rfl); (case u9er => exact rfl); (case u9lr => exact hp0); (case u9rn => (rw [List.length_replicate]; exact Nat.le_refl _)); (case u9n => (rw [List.length_replicate]; exact hl2)); (case u9dp => exact hl2); (case u9xx => exact hpX))
    · skip
      refine I2dInner.all (fun dep ih => ⟨?_⟩) 8
      intro dp un gd cn cs a ccd cl outer A₀ base h₀ L m mg mb loose mean R s f c' cN cI cA d oc oN oI oA doc pm ctv vs0 t0 tN t1 t2 t3 vs ns k x Lo Ri X lo ri Q E B F X₀ N T hk hdp hoff hf hc hcd hcv hN hNd hI hId hA hAd hi ex el er hlr hrn hnl hdep hX hret
      subst ex el er
      obtain ⟨mid, hmid⟩ : ∃ mid, (lo + ri) / 2 = mid := ⟨_, rfl⟩
      have hm := mid_eq (lo := lo) (ri := ri) rfl rfl
      rw [hmid] at hm
      have hsh := shift_eq (nI := n) (lo := lo) (mid := mid) rfl hn (by omega)
      have hmo : IntMulOk ((mid : Int) - (lo : Int)) n := IntMulOk.of_right (intBits_le_64 (by omega) (by omega))
      obtain ⟨sh, hshe⟩ : ∃ sh, N₁ * (mid - lo) = sh := ⟨_, rfl⟩
      rw [hshe] at hsh
      have hu := upper_eq (x := (X : Int)) (k := sh) rfl
      have hub := upper_back X sh
      have hxl := xor_low X sh
      have hszz : (Builtin.Int.intBits ((X / 2 ^ sh : Nat) : Int) : Int) + (sh : Int) ≤ 2 ^ 27 := by
        have b1 := low_bits (lo := lo) hrn hnl N₁ hn2
        have b2 : sh ≤ 512000 := by
          have b3 := low_bits (lo := lo) (ri := mid) (n := ns.length) (by omega) hnl N₁ hn2
          omega
        exact shl_fits (Nat.lt_of_le_of_lt (Nat.div_le_self _ _) hX) (by omega)
      refine wpAny_call ?_
      k_dflt (refine' code_nest ?k1 ?k2 ?k3 ?k4 ?k5 ?kA ?kF ?kK ?k6 ?k7 ?k8 ?k9 ?kB ?_ ?c2 ?c3 ?c4 ?c5; (case kA => exact rfl); (case kF => exact rfl); (case kK => assumption); (case k1 => k_asm); (case k2 => k_asm); (case k3 => k_asm); (case k4 => k_asm); (case k5 => k_asm); (case k6 => exact List.Mem.tail _ hf); (case k7 => exact codeRec_news N (List.Mem.tail _ hc) hcd hcv); (case k8 => ktr_room); (case k9 => exact BindsTo.of_eq rfl); (case c5 => decide); (case kB => exact locs rfl); (case c2 => exact rfl); (case c3 => exact rfl); (case c4 => exact rfl); k_whole; intro g' L' h' FG' F' N' B' X' T'; (try dsimp only); (try k_fold))
      k_steps
      · refine' hret _ _ _ _ ?v1F ?v1N ?v1I
        case v1F => k_asm
        case v1N => k_asm
        case v1I => (refine' base_ints ?v1h ?v1e hX hrn; (case v1h => assumption); (case v1e => assumption))
      have hne : ¬ (lo : Int) + 1 = (ri : Int) := by assumption
      obtain ⟨hd0, hlm, hmr, hd1, hd2⟩ := half_le hmid hlr hdep hne
      k_dflt (refine' I2dInner.use (ih (dep - 1) (by omega)) (nI := n) (N₁ := N₁) (X := X % 2 ^ sh) (lo := lo) (ri := mid) ?w1B ?w1F ?w1X ?w1N ?w1T ?w1k ?w1p ?w1m ?w1S hf hc hcd hcv hN hNd hI hId hA hAd ?w1i ?w1ex ?w1el ?w1er ?w1lr ?w1rn ?w1n ?w1dp ?w1xx ?_; (case w1B => k_asm); (case w1F => k_asm); (case w1X => k_asm); (case w1N => k_asm); (case w1T => k_asm); (case w1k => exact rfl); (case w1p => ktr_room); (case w1m => exact List.Mem.head _); (case w1S => exact Sel.hit (Sel.base hoff)))
      case w1i => assumption
      case w1ex => exact rfl
      case w1el => exact rfl
      case w1er => exact rfl
      case w1lr => exact hlm
      case w1rn => omega
      case w1n => exact hnl
      case w1dp => exact hd1
      case w1xx => (rw [hshe]; exact Nat.mod_lt _ (Nat.pow_pos (by decide)))
      intro r1 h1 tk1 vs1 F1 N1 i1
      have hpl : (putD ns lo (digs N₁ (X % 2 ^ sh) (mid - lo))).length = ns.length := putD_length (by rw [digs_length]; omega)
      k_steps
      try dsimp only
      k_dflt (refine' I2dInner.use (ih (dep - 1) (by omega)) (nI := n) (N₁ := N₁) (X := X / 2 ^ sh) (lo := mid) (ri := ri) ?w2B ?w2F ?w2X ?w2N ?w2T ?w2k ?w2p ?w2m ?w2S hf hc hcd hcv hN hNd hI hId hA hAd ?w2i ?w2ex ?w2el ?w2er ?w2lr ?w2rn ?w2n ?w2dp ?w2xx ?_; (case w2B => k_asm); (case w2F => k_asm); (case w2X => k_asm); (case w2N => k_asm); (case w2T => k_asm); (case w2k => exact rfl); (case w2p => ktr_room); (case w2m => exact List.Mem.head _); (case w2S => exact Sel.hit (Sel.base hoff)))
      case w2i => exact i1
      case w2ex => exact rfl
      case w2el => exact rfl
      case w2er => exact rfl
      case w2lr => exact hmr
      case w2rn => (rw [hpl]; exact hrn)
      case w2n => (rw [hpl]; exact hnl)
      case w2dp => exact hd2
      case w2xx => exact div_bound (by omega) (by omega) hshe hX
      intro r2 h2 tk2 vs2 F2 N2 i2
      rw [two_digs (by omega) (by omega) hrn hshe] at i2
      k_steps
      refine' hret _ _ _ vs2 ?v2F ?v2N ?v2I
      case v2F => k_asm
      case v2N => k_asm
      case v2I => exact i2
    · intro r h9 tk9 vs9 F9 N9 i9
      rw [putD_all (by rw [digs_length, List.length_replicate]; rfl)] at i9
      k_steps
      refine' hret _ _ _ vs9 _ _ ?r1F ?r1N ?r1T ?r1I ?r1l ?r1f
      case r1F => k_asm
      case r1N => (refine' news_hd ?r1n1 ?r1n2 ?r1n3; (case r1n1 => k_asm); (case r1n2 => k_mem); (case r1n3 => ktr_rel))
      case r1T => assumption
      case r1I => exact i9
      case r1l => (refine' lt_suf ?r1m1 ?r1m3; (case r1m1 => assumption); (case r1m3 => ktr_rel))
      case r1f => (rename Fresh _ _ _ => fr8; refine' Fresh.sub fr8 (Suf.sub ?r1g); (case r1g => ktr_rel))
  · rename_i hx0 _ _ _ _
    obtain ⟨h0, h1⟩ := len_zero hx hx0 hn0 hlen
    refine' hret _ _ _ _ _ _ ?r2F ?r2N ?r2T ?r2I ?r2l ?r2f
    case r2F => k_asm
    case r2N => (refine' news_hd ?r2n1 ?r2n2 ?r2n3; (case r2n1 => k_asm); (case r2n2 => k_mem); (case r2n3 => ktr_rel))
    case r2T => assumption
    case r2I => (rw [h1]; assumption)
    case r2l => (refine' lt_suf ?r2m1 ?r2m3; (case r2m1 => assumption); (case r2m3 => ktr_rel))
    case r2f => (rename Fresh _ _ _ => fr8; refine' Fresh.sub fr8 (Suf.sub ?r2g); (case r2g => ktr_rel))
theorem i2d_spec {w : World} {dp un : Nat} {gd : Option (List Code)} {cn : Str} {cs : Scope} {a : Addr} {ccd : Value} {cl : List (Str × Addr)} {outer : List Env}
    {A₀ : Around} {base h₀ : Heap} {L : Addr} {m mg mb : Str → Option Value} {loose : List Str} {mean : ExcName → Option Value} {rest tl : List (Addr × Obj)} {s : Shared}
    {x n : Int} {X₁ N₁ len : Nat} {t u : Tok} {Q E : Value → Shared → Prop}
    (B : Below A₀ base outer h₀) (F : Fr h₀ L s.heap m) (X : (Mine.hd.heap_39 w.params).In h₀) (N : News h₀ L s.heap (rest ++ tl)) (T : Top topProg loose mean mg mb h₀)
    (hk : cs.kind = .function) (hd : dp + 10 < 1000) (hr : NT rest) (ht : TabsOk Ts tl) (hx : x = X₁) (hn : n = N₁) (hn0 : 0 < N₁) (hn2 : N₁ ≤ 2000) (hlen : len = (Builtin.Int.intBits x + N₁ - 1) / N₁) (hl2 : len ≤ 256)
    (hret : ∀ d h' tk' vs k tl', Fr h₀ L h' m → News h₀ L h' ((d, PySem.W.listOf vs.toArray k) :: (rest ++ tl')) → TabsOk Ts tl' → IntsAre vs (digs N₁ X₁ len) → (∀ p ∈ rest, p.1 < d) → Q (.ref d) { s with heap := h', toks := tk' }) :
    wpAny (model PySem.Challenge.rw_xi0012_03.row.prog w) (ktrTop dp un gd cn cs L a ccd cl outer) (call (.ref 35) [.int x t, .int n u]) Q E s :=
  i2d_spec0 B F X N T hk hd hr ht hx hn hn0 hn2 hlen hl2 fun d h' tk' vs k tl' F' N' ht' hi hl _ => hret d h' tk' vs k tl' F' N' ht' hi hl
end
section
local macro_rules | `(tactic| walk_at "no key 3") => `(tactic| fail)
local macro_rules | `(tactic| walk_at "no key 2") => `(tactic| fail)
local macro_rules | `(tactic| walk_at "no key 1") => `(tactic| fail)
local macro_rules | `(tactic| walk_at "no key 0") => `(tactic| fail)


local macro_rules | `(tactic| ktr_rel) => `(tactic| first | refine' TailOf.base | (refine' TailOf.cons ?t9; (case t9 => ktr_rel)))
local macro_rules | `(tactic| ktr_rel) => `(tactic| first | ((with_reducible refine' Sel.hit ?s9); (case s9 => ktr_rel)) | (refine' Sel.keep ?ne ?s9; (case ne => first | k_ne | (refine' ne_kind ?x1 ?x2 ?x3 ?x4; (case x1 => k_asm); (case x2 => k_mem); (case x3 => k_mem); (case x4 => with_unfolding_all rfl)) | fail "ne"); (case s9 => ktr_rel)) | (refine' Sel.base ?b9; (case b9 => (refine' off_all ?n1 ?n2 ?n3 ?n4 ?n5 ?n6; (case n1 => assumption); (case n2 => assumption); (case n3 => ktr_rel); (case n4 => k_mem); (case n5 => first | exact rfl | assumption | (refine' tlk_cell ?n7; (case n7 => assumption))); (case n6 => (refine' ne_above ?n8 ?n9; (case n8 => assumption); (case n9 => omega)))))))
local macro_rules | `(tactic| walk_at "storeName") => `(tactic| (k_here; k_dflt (refine' store_cell ?F ?N ?c ?m ?d ?S ?_ ?a ?b; (case a => rfl); (case b => rfl); (case F => k_asm); (case N => k_asm); (case c => rfl); (case m => k_mem); (case d => k_asm); (case S => ktr_rel); k_whole; intro h' o' F' N' d'; (try dsimp only at N'); (try k_sweep))))
local macro_rules | `(tactic| ktr_rel) => `(tactic| first | (refine' Spl.base ?b9; (case b9 => assumption)) | (refine' Spl.keep ?ta ?s9; (case ta => (first | exact rfl | assumption | (refine' tabby_cell ?b8; (case b8 => assumption)) | (refine' tabby_of_tlk ?b8; (case b8 => assumption)) | (refine' tabby_code ?b8 ?b7; (case b8 => assumption); (case b7 => assumption)) | fail "ta")); (case s9 => ktr_rel)) | (refine' Spl.drop ?s9; (case s9 => ktr_rel)))
local macro_rules | `(tactic| ktr_rel) => `(tactic| first | refine' Suf.base | (refine' Suf.cons ?t9; (case t9 => ktr_rel)))
local macro_rules | `(tactic| walk_at "callWith ref") => `(tactic| (k_here; k_dflt (first
  | (refine' callWith_F ?k1 ?_; (case k1 => exact FnAt.of (by k_asm) (by k_mem)); k_whole)
  | (refine' callWith_F0 ?k1 ?_; (case k1 => exact FnAt.of (by k_asm) (by k_mem)); k_whole; try dsimp only [List.nil_append, List.cons_append]))))
local macro_rules | `(tactic| walk_at "eval Name") => `(tactic| (k_here; k_dflt (refine' nameX_F ?N ?c ?m ?d ?_ ?a ?b; (case a => rfl); (case b => rfl); (case N => k_asm); (case c => rfl); (case m => k_mem); (case d => k_asm); k_whole)))
local macro_rules | `(tactic| k_all) => `(tactic| assumption)
local macro_rules | `(tactic| k_mem) => `(tactic| first | ((with_reducible refine' memL ?_); assumption) | ((with_reducible refine' memR ?_); assumption) | ((with_reducible refine' memI ?_); ktr_member) | fail "k_mem")
local macro_rules | `(tactic| walk_at "binaryOp RShift int int") => `(tactic| (k_here; (refine' rshift_eq ?n ?e ?_; (case n => first | decide | assumption | exact Int.natCast_nonneg _); (case e => assumption); k_whole)))
local macro_rules | `(tactic| walk_at "binaryOp Mult int int") => `(tactic| (k_here; (refine' mul_eq ?e ?n ?_; (case e => assumption); (case n => assumption); k_whole)))
local macro_rules | `(tactic| walk_at "binaryOp LShift int int") => `(tactic| (k_here; (refine' lshift_eq ?e ?n ?m ?_; (case e => assumption); (case n => first | decide | assumption | exact Int.natCast_nonneg _); (case m => assumption); k_whole)))
local macro_rules | `(tactic| walk_at "binaryOp BitXor int int") => `(tactic| (k_here; (refine' xor_eq ?e ?_; (case e => assumption); k_whole)))

local macro_rules | `(tactic| walk_at "call builtin:len") => `(tactic| (k_here; (with_reducible show wpAny _ _ (call (Value.builtin "len") [Value.ref _]) _ _ _); k_dflt (refine' len_list' ?kl1 ?kl2 ?kl3 ?kl4 ?_; (case kl1 => k_asm); (case kl2 => k_mem); (case kl3 => assumption); (case kl4 => first | omega | ((try simp only [List.length_replicate]); omega)); k_whole); (try simp only [List.length_replicate])))
local macro_rules | `(tactic| walk_at "truthy ref") => `(tactic| (k_here; (with_reducible show wpAny _ _ (truthy (Value.ref _)) _ _ _); k_dflt (refine' truthy_list ?kl1 ?kl2 ?kl3 ?kl4 ?_; (case kl1 => k_asm); (case kl2 => k_mem); (case kl3 => assumption); (case kl4 => omega); k_whole)))

local macro_rules | `(tactic| ktr_rel) => `(tactic| first | (refine' Pick.base ?pb9; (case pb9 => ktr_rel)) | (refine' Pick.cons ?pm9 ?pr9; (case pm9 => k_mem); (case pr9 => ktr_rel)) | fail "pick")
local macro_rules | `(tactic| walk_at "call builtin:list.append") => `(tactic| (k_here; k_dflt (show wpAny _ _ (call (Value.builtin _) [Value.ref _, _]) _ _ _); k_dflt (refine' append_my ?ap1 ?ap2 ?ap3 ?ap4 ?ap5 ?_; (case ap1 => k_asm); (case ap2 => k_asm); (case ap3 => k_mem); (case ap4 => ktr_rel); (case ap5 => omega); k_whole); intro h' F' N'))
local macro_rules | `(tactic| walk_at "call builtin:list.reverse") => `(tactic| (k_here; k_dflt (show wpAny _ _ (call (Value.builtin _) [Value.ref _]) _ _ _); k_dflt (refine' reverse_my ?ap1 ?ap2 ?ap3 ?ap4 ?ap5 ?_; (case ap1 => k_asm); (case ap2 => k_asm); (case ap3 => k_mem); (case ap4 => ktr_rel); (case ap5 => omega); k_whole); intro h' F' N'))
local macro_rules | `(tactic| walk_at "binaryOp Add int int") => `(tactic| (k_here; (refine' add_eq ?e ?_; (case e => assumption); k_whole)))
local macro_rules | `(tactic| walk_at "compareOp Is") => `(tactic| (k_here; (with_reducible show wpAny _ _ (compareOp CmpOp.Is (Value.int _ _) (Value.ref _)) _ _ _); k_dflt (refine' wpAny_is_other ?io1 ?io2 ?_; (case io1 => with_unfolding_all rfl); (case io2 => (intro x; cases x)); k_whole)))
local macro_rules | `(tactic| walk_at "exec FunctionDef") => `(tactic| (k_here; k_dflt (refine' nestDef_K ?d0 ?k0 ?a0 ?_; (case d0 => exact rfl); (case k0 => exact rfl); (case a0 => exact rfl)); k_dflt (refine' nest_spl T2 Ts_one (.tail _ (.head _)) ?F ?N ?S ?ht ?T ?C ?cd ?l ?c ?q ?cl ?_; (case F => k_asm); (case N => k_asm); (case T => k_asm); (case cd => exact rfl); (case C => exact codeHd_of_K (c := 41) (P := 37) (by assumption) (by kernel_rfl)); (case S => ktr_rel); (case ht => assumption); (case l => rfl); (case c => rfl); (case q => rfl); (case cl => exact rfl); k_whole); intro f' c' oc' vs' t' ct' dc' h' tk' tl' F' N' ht' hc' d1' d2' l1 fr1; (try k_lt l1); (try dsimp only [List.cons_append] at N')))
theorem d2i_spec {w : World} {dp un : Nat} {gd : Option (List Code)} {cn : Str} {cs : Scope} {a : Addr} {ccd : Value} {cl : List (Str × Addr)} {outer : List Env}
    {A₀ : Around} {base h₀ : Heap} {L : Addr} {m mg mb : Str → Option Value} {loose : List Str} {mean : ExcName → Option Value} {rest tl : List (Addr × Obj)} {s : Shared}
    {n : Int} {N₁ : Nat} {d : Addr} {vs : List Value} {ns : List Int} {k : Nat} {u : Tok} {Q E : Value → Shared → Prop}
    (B : Below A₀ base outer h₀) (F : Fr h₀ L s.heap m) (X : (Mine.hd.heap_39 w.params).In h₀) (N : News h₀ L s.heap (rest ++ tl)) (T : Top topProg loose mean mg mb h₀)
    (hk : cs.kind = .function) (hd : dp + 10 < 1000) (hr : NT rest) (ht : TabsOk Ts tl) (hdm : (d, PySem.W.listOf vs.toArray k) ∈ rest) (hi : IntsAre vs ns) (hin : InR N₁ ns) (hn : n = N₁) (hn2 : N₁ ≤ 2000) (hl2 : ns.length ≤ 256)
    (hret : ∀ tk h' tk' tl', Fr h₀ L h' m → News h₀ L h' (rest ++ tl') → TabsOk Ts tl' → Q (.int (val N₁ ns) tk) { s with heap := h', toks := tk' }) :
    wpAny (model PySem.Challenge.rw_xi0012_03.row.prog w) (ktrTop dp un gd cn cs L a ccd cl outer) (call (.ref 42) [.ref d, .int n u]) Q E s := by
  revert X; k_fill; intro X
  refine wpAny_call ?_
  k_dflt (refine' code_defC ?k1 ?k2 ?k3 ?k4 ?k5 ?kA ?kF ?kK ?k6 ?k7 ?k8 ?k9 ?kB ?kD ?_ ?c2 ?c3 ?c4; (case kA => exact rfl); (case kF => exact rfl); (case kK => exact hk); (case k1 => k_asm); (case k2 => k_asm); (case k3 => k_asm); (case k4 => k_asm); (case k5 => k_asm); (case k6 => k_is); (case k7 => k_is); (case k8 => ktr_room); (case k9 => exact BindsTo.of_eq rfl); (case kB => exact rfl); (case kD => decide +kernel); (case c2 => exact rfl); (case c3 => exact rfl); (case c4 => exact rfl); k_whole; intro g' L' h' tk' cells' FG' F' N' Y' B' X' T' l1; (try dsimp only); (try k_lift B'); (try k_fold))
  obtain ⟨o1, o2, o3, hE, d1, d2, d3⟩ := CellsAre.three Y'
  subst hE
  have lr : ∀ p ∈ rest, p.1 < L' := fun p hp => l1 p (List.mem_append_left _ hp)
  replace d1 : o1.data = .cell none := d1
  replace d2 : o2.data = .cell (some (.int n u)) := d2
  replace d3 : o3.data = .cell (some (.ref d)) := d3
  simp only [List.cons_append, List.nil_append] at N'
  k_steps
  all_goals try dsimp only
  · have hlen : 0 < ns.length := by first | assumption | (rename_i h; exact of_decide_eq_true h)
    k_dflt (refine' D2iInner.use (dep := 8) ?w0I (nI := n) (N₁ := N₁) (lo := 0) (ri := ns.length) ?w0B ?w0F ?w0X ?w0N ?w0T ?w0k ?w0p ?w0f ?w0c ?w0cd ?w0cv ?w0hN ?w0hNd ?w0hI ?w0hId ?w0hA ?w0hAd ?w0m ?w0i ?w0r ?w0el ?w0er ?w0lr ?w0rn ?w0n ?w0dp ?_; (case w0B => k_asm); (case w0F => k_asm); (case w0X => k_asm); (case w0N => k_asm); (case w0T => k_asm); (case w0k => exact rfl); (case w0p => ktr_room); (case w0f => k_mem); (case w0c => k_mem); (case w0cd => assumption); (case w0cv => assumption); (case w0hN => k_mem); (case w0hNd => assumption); (case w0hI => k_mem); (case w0hId => assumption); (case w0hA => k_mem); (case w0hAd => assumption); (case w0m => k_mem); (case w0i => assumption); (case w0r => assumption); (case w0el => exact rfl); (case w0er => exact rfl))
    · refine D2iInner.all (fun dep ih => ⟨?_⟩) 8
      intro dp un gd cn cs a ccd cl outer A₀ base h₀ L m mg mb loose mean R s f c' cN cI cA d oc oN oI oA doc pm ctv vs0 t0 tN t2 t3 vs ns k Lo Ri lo ri Q E B F X₀ N T hk hdp hf hc hcd hcv hN hNd hI hId hA hAd hm0 hi hin el er hlr hrn hnl hdep hret
      subst el er
      obtain ⟨mid, hmid⟩ : ∃ mid, (lo + ri) / 2 = mid := ⟨_, rfl⟩
      have hm := mid_eq (lo := lo) (ri := ri) rfl rfl
      rw [hmid] at hm
      have hsh := shift_eq (nI := n) (lo := lo) (mid := mid) rfl hn (by omega)
      have hmo : IntMulOk ((mid : Int) - (lo : Int)) n := IntMulOk.of_right (intBits_le_64 (by omega) (by omega))
      obtain ⟨sh, hshe⟩ : ∃ sh, N₁ * (mid - lo) = sh := ⟨_, rfl⟩
      rw [hshe] at hsh
      have hsb : sh ≤ 512000 := by
        have b3 := low_bits (lo := lo) (ri := mid) (n := ns.length) (by omega) hnl N₁ hn2
        omega
      have hszz := val_fits (mid := mid) hin hrn hnl hn2 hsb
      have hV : val N₁ (seg ns mid ri) * 2 ^ Int.toNat (sh : Int) = val N₁ (seg ns mid ri) * 2 ^ Int.toNat (sh : Int) := rfl
      refine wpAny_call ?_
      k_dflt (refine' code_nest ?k1 ?k2 ?k3 ?k4 ?k5 ?kA ?kF ?kK ?k6 ?k7 ?k8 ?k9 ?kB ?_ ?c2 ?c3 ?c4 ?c5; (case kA => exact rfl); (case kF => exact rfl); (case kK => assumption); (case k1 => k_asm); (case k2 => k_asm); (case k3 => k_asm); (case k4 => k_asm); (case k5 => k_asm); (case k6 => exact hf); (case k7 => exact codeRec_news N hc hcd hcv); (case k8 => ktr_room); (case k9 => exact BindsTo.of_eq rfl); (case c5 => decide); (case kB => exact locs rfl); (case c2 => exact rfl); (case c3 => exact rfl); (case c4 => exact rfl); k_whole; intro g' L' h' FG' F' N' B' X' T'; (try dsimp only); (try k_fold))
      k_steps
      · rw [val_one (by assumption) hrn]
        refine' hret _ _ _ ?v1F ?v1N
        case v1F => k_asm
        case v1N => k_asm
      have hne : ¬ (lo : Int) + 1 = (ri : Int) := by assumption
      obtain ⟨hd0, hlm, hmr, hd1, hd2⟩ := half_le hmid hlr hdep hne
      k_dflt (refine' D2iInner.use (ih (dep - 1) (by omega)) (nI := n) (N₁ := N₁) (lo := mid) (ri := ri) ?w1B ?w1F ?w1X ?w1N ?w1T ?w1k ?w1p hf hc hcd hcv hN hNd hI hId hA hAd hm0 hi hin ?w1el ?w1er ?w1lr ?w1rn hnl ?w1dp ?_; (case w1B => k_asm); (case w1F => k_asm); (case w1X => k_asm); (case w1N => k_asm); (case w1T => k_asm); (case w1k => exact rfl); (case w1p => ktr_room); (case w1el => exact rfl); (case w1er => exact rfl))
      case w1lr => exact hmr
      case w1rn => exact hrn
      case w1dp => exact hd2
      intro tk1 h1 tkk1 F1 N1
      k_steps
      try dsimp only
      k_dflt (refine' D2iInner.use (ih (dep - 1) (by omega)) (nI := n) (N₁ := N₁) (lo := lo) (ri := mid) ?w2B ?w2F ?w2X ?w2N ?w2T ?w2k ?w2p hf hc hcd hcv hN hNd hI hId hA hAd hm0 hi hin ?w2el ?w2er ?w2lr ?w2rn hnl ?w2dp ?_; (case w2B => k_asm); (case w2F => k_asm); (case w2X => k_asm); (case w2N => k_asm); (case w2T => k_asm); (case w2k => exact rfl); (case w2p => ktr_room); (case w2el => exact rfl); (case w2er => exact rfl))
      case w2lr => exact hlm
      case w2rn => omega
      case w2dp => exact hd1
      intro tk2 h2 tkk2 F2 N2
      k_steps
      rw [val_seg (by omega) (by omega) hrn hshe]
      refine' hret _ _ _ ?v2F ?v2N
      case v2F => k_asm
      case v2N => k_asm
    case w0lr => exact hlen
    case w0rn => exact Nat.le_refl _
    case w0n => exact hl2
    case w0dp => exact hl2
    intro tk9 h9 tkk9 F9 N9
    rw [seg_all]
    k_steps
    refine' hret _ _ _ _ ?r1F ?r1N ?r1T
    case r1F => k_asm
    case r1N => (refine' newsSub ?r1a (Suf.sub ?r1b); (case r1a => k_asm); (case r1b => ktr_rel))
    case r1T => assumption
  · rw [val_nil (by assumption)] at hret
    refine' hret _ _ _ _ ?r2F ?r2N ?r2T
    case r2F => k_asm
    case r2N => (refine' newsSub ?r2a (Suf.sub ?r2b); (case r2a => k_asm); (case r2b => ktr_rel))
    case r2T => assumption
end
section


local macro_rules | `(tactic| ktr_rel) => `(tactic| first | refine' TailOf.base | (refine' TailOf.cons ?t9; (case t9 => ktr_rel)))
local macro_rules | `(tactic| ktr_rel) => `(tactic| first | ((with_reducible refine' Sel.hit ?s9); (case s9 => ktr_rel)) | (refine' Sel.keep ?ne ?s9; (case ne => first | k_ne | (refine' ne_kind ?x1 ?x2 ?x3 ?x4; (case x1 => k_asm); (case x2 => k_mem); (case x3 => k_mem); (case x4 => with_unfolding_all rfl)) | fail "ne"); (case s9 => ktr_rel)) | (refine' Sel.base ?b9; (case b9 => (refine' off_all ?n1 ?n2 ?n3 ?n4 ?n5 ?n6; (case n1 => assumption); (case n2 => assumption); (case n3 => ktr_rel); (case n4 => k_mem); (case n5 => first | exact rfl | assumption | (refine' tlk_cell ?n7; (case n7 => assumption))); (case n6 => (refine' ne_above ?n8 ?n9; (case n8 => assumption); (case n9 => omega)))))))
local macro_rules | `(tactic| walk_at "storeName") => `(tactic| (k_here; k_dflt (refine' store_cell ?F ?N ?c ?m ?d ?S ?_ ?a ?b; (case a => rfl); (case b => rfl); (case F => k_asm); (case N => k_asm); (case c => rfl); (case m => k_mem); (case d => k_asm); (case S => ktr_rel); k_whole; intro h' o' F' N' d'; (try dsimp only at N'); (try k_sweep))))
local macro_rules | `(tactic| ktr_rel) => `(tactic| first | (refine' Spl.base ?b9; (case b9 => assumption)) | (refine' Spl.keep ?ta ?s9; (case ta => (first | exact rfl | assumption | (refine' tabby_cell ?b8; (case b8 => assumption)) | (refine' tabby_of_tlk ?b8; (case b8 => assumption)) | (refine' tabby_code ?b8 ?b7; (case b8 => assumption); (case b7 => assumption)) | fail "ta")); (case s9 => ktr_rel)) | (refine' Spl.drop ?s9; (case s9 => ktr_rel)))
local macro_rules | `(tactic| ktr_rel) => `(tactic| first | refine' Suf.base | (refine' Suf.cons ?t9; (case t9 => ktr_rel)))
local macro_rules | `(tactic| walk_at "callWith ref") => `(tactic| (k_here; k_dflt (first
  | (refine' callWith_F ?k1 ?_; (case k1 => exact FnAt.of (by k_asm) (by k_mem)); k_whole)
  | (refine' callWith_F0 ?k1 ?_; (case k1 => exact FnAt.of (by k_asm) (by k_mem)); k_whole; try dsimp only [List.nil_append, List.cons_append]))))
local macro_rules | `(tactic| walk_at "eval Name") => `(tactic| (k_here; k_dflt (refine' nameX_F ?N ?c ?m ?d ?_ ?a ?b; (case a => rfl); (case b => rfl); (case N => k_asm); (case c => rfl); (case m => k_mem); (case d => k_asm); k_whole)))
local macro_rules | `(tactic| k_all) => `(tactic| assumption)
local macro_rules | `(tactic| k_mem) => `(tactic| first | ((with_reducible refine' memL ?_); assumption) | ((with_reducible refine' memR ?_); assumption) | ((with_reducible refine' memI ?_); ktr_member) | fail "k_mem")
local macro_rules | `(tactic| walk_at "binaryOp RShift int int") => `(tactic| (k_here; (refine' rshift_eq ?n ?e ?_; (case n => first | decide | assumption | exact Int.natCast_nonneg _); (case e => assumption); k_whole)))
local macro_rules | `(tactic| walk_at "binaryOp Mult int int") => `(tactic| (k_here; (refine' mul_eq ?e ?n ?_; (case e => assumption); (case n => assumption); k_whole)))
local macro_rules | `(tactic| walk_at "binaryOp LShift int int") => `(tactic| (k_here; (refine' lshift_eq ?e ?n ?m ?_; (case e => assumption); (case n => first | decide | assumption | exact Int.natCast_nonneg _); (case m => assumption); k_whole)))
local macro_rules | `(tactic| walk_at "binaryOp BitXor int int") => `(tactic| (k_here; (refine' xor_eq ?e ?_; (case e => assumption); k_whole)))

local macro_rules | `(tactic| walk_at "call builtin:len") => `(tactic| (k_here; (with_reducible show wpAny _ _ (call (Value.builtin "len") [Value.ref _]) _ _ _); k_dflt (refine' len_list' ?kl1 ?kl2 ?kl3 ?kl4 ?_; (case kl1 => k_asm); (case kl2 => k_mem); (case kl3 => assumption); (case kl4 => first | omega | ((try simp only [List.length_replicate]); omega)); k_whole); (try simp only [List.length_replicate])))
local macro_rules | `(tactic| walk_at "truthy ref") => `(tactic| (k_here; (with_reducible show wpAny _ _ (truthy (Value.ref _)) _ _ _); k_dflt (refine' truthy_list ?kl1 ?kl2 ?kl3 ?kl4 ?_; (case kl1 => k_asm); (case kl2 => k_mem); (case kl3 => assumption); (case kl4 => omega); k_whole)))

local macro_rules | `(tactic| ktr_rel) => `(tactic| first | (refine' Pick.base ?pb9; (case pb9 => ktr_rel)) | (refine' Pick.cons ?pm9 ?pr9; (case pm9 => k_mem); (case pr9 => ktr_rel)) | fail "pick")
local macro_rules | `(tactic| walk_at "call builtin:list.append") => `(tactic| (k_here; k_dflt (show wpAny _ _ (call (Value.builtin _) [Value.ref _, _]) _ _ _); k_dflt (refine' append_my ?ap1 ?ap2 ?ap3 ?ap4 ?ap5 ?_; (case ap1 => k_asm); (case ap2 => k_asm); (case ap3 => k_mem); (case ap4 => ktr_rel); (case ap5 => omega); k_whole); intro h' F' N'))
local macro_rules | `(tactic| walk_at "call builtin:list.reverse") => `(tactic| (k_here; k_dflt (show wpAny _ _ (call (Value.builtin _) [Value.ref _]) _ _ _); k_dflt (refine' reverse_my ?ap1 ?ap2 ?ap3 ?ap4 ?ap5 ?_; (case ap1 => k_asm); (case ap2 => k_asm); (case ap3 => k_mem); (case ap4 => ktr_rel); (case ap5 => omega); k_whole); intro h' F' N'))
local macro_rules | `(tactic| walk_at "binaryOp Add int int") => `(tactic| (k_here; (refine' add_eq ?e ?_; (case e => assumption); k_whole)))
local macro_rules | `(tactic| walk_at "compareOp Is") => `(tactic| (k_here; (with_reducible show wpAny _ _ (compareOp CmpOp.Is (Value.int _ _) (Value.ref _)) _ _ _); k_dflt (refine' wpAny_is_other ?io1 ?io2 ?_; (case io1 => with_unfolding_all rfl); (case io2 => (intro x; cases x)); k_whole)))
theorem add_spec {w : World} {dp un : Nat} {gd : Option (List Code)} {cn : Str} {cs : Scope} {a : Addr} {ccd : Value} {cl : List (Str × Addr)} {outer : List Env}
    {A₀ : Around} {base h₀ : Heap} {L : Addr} {m mg mb : Str → Option Value} {loose : List Str} {mean : ExcName → Option Value} {news : List (Addr × Obj)} {s : Shared}
    {x y : Int} {t u : Tok} {Q E : Value → Shared → Prop}
    (B : Below A₀ base outer h₀) (F : Fr h₀ L s.heap m) (X : (Mine.hd.heap_39 w.params).In h₀) (N : News h₀ L s.heap news) (T : Top topProg loose mean mg mb h₀)
    (hk : cs.kind = .function) (hd : dp + 1 < 1000)
    (hret : ∀ h' tk tk', Fr h₀ L h' m → News h₀ L h' news → Q (.int (x + y) tk) { s with heap := h', toks := tk' }) :
    wpAny (model PySem.Challenge.rw_xi0012_03.row.prog w) (ktrTop dp un gd cn cs L a ccd cl outer) (call (.ref 72) [.int x t, .int y u]) Q E s := by
  revert X; k_fill; intro X
  refine wpAny_call ?_
  k_dflt ktr_enter
  k_steps
  all_goals exact hret _ _ _ (by k_asm) (by k_asm)
theorem sub_spec {w : World} {dp un : Nat} {gd : Option (List Code)} {cn : Str} {cs : Scope} {a : Addr} {ccd : Value} {cl : List (Str × Addr)} {outer : List Env}
    {A₀ : Around} {base h₀ : Heap} {L : Addr} {m mg mb : Str → Option Value} {loose : List Str} {mean : ExcName → Option Value} {news : List (Addr × Obj)} {s : Shared}
    {x y : Int} {t u : Tok} {Q E : Value → Shared → Prop}
    (B : Below A₀ base outer h₀) (F : Fr h₀ L s.heap m) (X : (Mine.hd.heap_39 w.params).In h₀) (N : News h₀ L s.heap news) (T : Top topProg loose mean mg mb h₀)
    (hk : cs.kind = .function) (hd : dp + 1 < 1000)
    (hret : ∀ h' tk tk', Fr h₀ L h' m → News h₀ L h' news → Q (.int (x - y) tk) { s with heap := h', toks := tk' }) :
    wpAny (model PySem.Challenge.rw_xi0012_03.row.prog w) (ktrTop dp un gd cn cs L a ccd cl outer) (call (.ref 86) [.int x t, .int y u]) Q E s := by
  revert X; k_fill; intro X
  refine wpAny_call ?_
  k_dflt ktr_enter
  k_steps
  all_goals exact hret _ _ _ (by k_asm) (by k_asm)
section
local macro_rules | `(tactic| walk_at "binaryOp Mult int int") => `(tactic| (k_here; (refine' mul_int ?_ ?n; rotate_left; (case n => assumption); k_whole)))
theorem mul_spec {w : World} {dp un : Nat} {gd : Option (List Code)} {cn : Str} {cs : Scope} {a : Addr} {ccd : Value} {cl : List (Str × Addr)} {outer : List Env}
    {A₀ : Around} {base h₀ : Heap} {L : Addr} {m mg mb : Str → Option Value} {loose : List Str} {mean : ExcName → Option Value} {news : List (Addr × Obj)} {s : Shared}
    {x y : Int} {t u : Tok} {Q E : Value → Shared → Prop}
    (B : Below A₀ base outer h₀) (F : Fr h₀ L s.heap m) (X : (Mine.hd.heap_39 w.params).In h₀) (N : News h₀ L s.heap news) (T : Top topProg loose mean mg mb h₀)
    (hk : cs.kind = .function) (hd : dp + 1 < 1000) (hm : IntMulOk x y)
    (hret : ∀ h' tk tk', Fr h₀ L h' m → News h₀ L h' news → Q (.int (x * y) tk) { s with heap := h', toks := tk' }) :
    wpAny (model PySem.Challenge.rw_xi0012_03.row.prog w) (ktrTop dp un gd cn cs L a ccd cl outer) (call (.ref 79) [.int x t, .int y u]) Q E s := by
  revert X; k_fill; intro X
  refine wpAny_call ?_
  k_dflt ktr_enter
  k_steps
  all_goals exact hret _ _ _ (by k_asm) (by k_asm)
end
section
local macro_rules | `(tactic| walk_at "call builtin:divmod") => `(tactic| (k_here; (with_reducible show wpAny _ _ (call (Value.builtin _) [Value.int _ _, Value.int _ _]) _ _ _); (refine' divmod_N ?dF ?dN ?db ?_ (Or.inl ?dp); (case dF => k_asm); (case dN => k_asm); (case db => assumption); (case dp => assumption)); intro h' F' N'))
theorem div2n1n_spec {w : World} {dp un : Nat} {gd : Option (List Code)} {cn : Str} {cs : Scope} {a : Addr} {ccd : Value} {cl : List (Str × Addr)} {outer : List Env}
    {A₀ : Around} {base h₀ : Heap} {L : Addr} {m mg mb : Str → Option Value} {loose : List Str} {mean : ExcName → Option Value} {news : List (Addr × Obj)} {s : Shared}
    {x y n q₁ r₁ : Int} {t u v : Tok} {Q E : Value → Shared → Prop}
    (B : Below A₀ base outer h₀) (F : Fr h₀ L s.heap m) (X : (Mine.hd.heap_39 w.params).In h₀) (N : News h₀ L s.heap news) (T : Top topProg loose mean mg mb h₀)
    (hk : cs.kind = .function) (hd : dp + 1 < 1000) (hle : (Builtin.Int.intBits x : Int) - n ≤ 4000) (hy : y ≠ 0) (hpy : Builtin.divisionGoesByPylong x y = false) (hq₁ : x.fdiv y = q₁) (hr₁ : x.fmod y = r₁)
    (hret : ∀ q h' t1 t2 tk', Fr h₀ L h' m → News h₀ L h' ((q, { cls := .type "tuple", data := .seq #[.int q₁ t1, .int r₁ t2] }) :: news) → Q (.ref q) { s with heap := h', toks := tk' }) :
    wpAny (model PySem.Challenge.rw_xi0012_03.row.prog w) (ktrTop dp un gd cn cs L a ccd cl outer) (call (.ref 21) [.int x t, .int y u, .int n v]) Q E s := by
  revert X; k_fill; intro X
  refine wpAny_call ?_
  k_dflt ktr_enter
  subst hq₁ hr₁
  k_steps
  all_goals exact hret _ _ _ _ _ (by k_asm) (by k_asm)
end
end
section
local macro_rules | `(tactic| walk_at "no key 4") => `(tactic| fail)
local macro_rules | `(tactic| walk_at "no key 3") => `(tactic| fail)
local macro_rules | `(tactic| walk_at "no key 2") => `(tactic| fail)
local macro_rules | `(tactic| walk_at "no key 1") => `(tactic| fail)
local macro_rules | `(tactic| walk_at "no key 0") => `(tactic| fail)


local macro_rules | `(tactic| ktr_rel) => `(tactic| first | refine' TailOf.base | (refine' TailOf.cons ?t9; (case t9 => ktr_rel)))
local macro_rules | `(tactic| ktr_rel) => `(tactic| first | ((with_reducible refine' Sel.hit ?s9); (case s9 => ktr_rel)) | (refine' Sel.keep ?ne ?s9; (case ne => first | k_ne | (refine' ne_kind ?x1 ?x2 ?x3 ?x4; (case x1 => k_asm); (case x2 => k_mem); (case x3 => k_mem); (case x4 => with_unfolding_all rfl)) | fail "ne"); (case s9 => ktr_rel)) | (refine' Sel.base ?b9; (case b9 => (refine' off_all ?n1 ?n2 ?n3 ?n4 ?n5 ?n6; (case n1 => assumption); (case n2 => assumption); (case n3 => ktr_rel); (case n4 => k_mem); (case n5 => first | exact rfl | assumption | (refine' tlk_cell ?n7; (case n7 => assumption))); (case n6 => (refine' ne_above ?n8 ?n9; (case n8 => assumption); (case n9 => omega)))))))
local macro_rules | `(tactic| walk_at "storeName") => `(tactic| (k_here; k_dflt (refine' store_cell ?F ?N ?c ?m ?d ?S ?_ ?a ?b; (case a => rfl); (case b => rfl); (case F => k_asm); (case N => k_asm); (case c => rfl); (case m => k_mem); (case d => k_asm); (case S => ktr_rel); k_whole; intro h' o' F' N' d'; (try dsimp only at N'); (try k_sweep))))
local macro_rules | `(tactic| ktr_rel) => `(tactic| first | (refine' Spl.base ?b9; (case b9 => assumption)) | (refine' Spl.keep ?ta ?s9; (case ta => (first | exact rfl | assumption | (refine' tabby_cell ?b8; (case b8 => assumption)) | (refine' tabby_of_tlk ?b8; (case b8 => assumption)) | (refine' tabby_code ?b8 ?b7; (case b8 => assumption); (case b7 => assumption)) | fail "ta")); (case s9 => ktr_rel)) | (refine' Spl.drop ?s9; (case s9 => ktr_rel)))
local macro_rules | `(tactic| ktr_rel) => `(tactic| first | refine' Suf.base | (refine' Suf.cons ?t9; (case t9 => ktr_rel)))
local macro_rules | `(tactic| walk_at "callWith ref") => `(tactic| (k_here; k_dflt (first
  | (refine' callWith_F ?k1 ?_; (case k1 => exact FnAt.of (by k_asm) (by k_mem)); k_whole)
  | (refine' callWith_F0 ?k1 ?_; (case k1 => exact FnAt.of (by k_asm) (by k_mem)); k_whole; try dsimp only [List.nil_append, List.cons_append]))))
local macro_rules | `(tactic| walk_at "eval Name") => `(tactic| (k_here; k_dflt (refine' nameX_F ?N ?c ?m ?d ?_ ?a ?b; (case a => rfl); (case b => rfl); (case N => k_asm); (case c => rfl); (case m => k_mem); (case d => k_asm); k_whole)))
local macro_rules | `(tactic| k_all) => `(tactic| assumption)
local macro_rules | `(tactic| k_mem) => `(tactic| first | ((with_reducible refine' memL ?_); assumption) | ((with_reducible refine' memR ?_); assumption) | ((with_reducible refine' memI ?_); ktr_member) | fail "k_mem")
local macro_rules | `(tactic| walk_at "binaryOp RShift int int") => `(tactic| (k_here; (refine' rshift_eq ?n ?e ?_; (case n => first | decide | assumption | exact Int.natCast_nonneg _); (case e => assumption); k_whole)))
local macro_rules | `(tactic| walk_at "binaryOp Mult int int") => `(tactic| (k_here; (refine' mul_eq ?e ?n ?_; (case e => assumption); (case n => assumption); k_whole)))
local macro_rules | `(tactic| walk_at "binaryOp LShift int int") => `(tactic| (k_here; (refine' lshift_eq ?e ?n ?m ?_; (case e => assumption); (case n => first | decide | assumption | exact Int.natCast_nonneg _); (case m => assumption); k_whole)))
local macro_rules | `(tactic| walk_at "binaryOp BitXor int int") => `(tactic| (k_here; (refine' xor_eq ?e ?_; (case e => assumption); k_whole)))

local macro_rules | `(tactic| walk_at "call builtin:len") => `(tactic| (k_here; (with_reducible show wpAny _ _ (call (Value.builtin "len") [Value.ref _]) _ _ _); k_dflt (refine' len_list' ?kl1 ?kl2 ?kl3 ?kl4 ?_; (case kl1 => k_asm); (case kl2 => k_mem); (case kl3 => assumption); (case kl4 => first | omega | ((try simp only [List.length_replicate]); omega)); k_whole); (try simp only [List.length_replicate])))
local macro_rules | `(tactic| walk_at "truthy ref") => `(tactic| (k_here; (with_reducible show wpAny _ _ (truthy (Value.ref _)) _ _ _); k_dflt (refine' truthy_list ?kl1 ?kl2 ?kl3 ?kl4 ?_; (case kl1 => k_asm); (case kl2 => k_mem); (case kl3 => assumption); (case kl4 => omega); k_whole)))

local macro_rules | `(tactic| ktr_rel) => `(tactic| first | (refine' Pick.base ?pb9; (case pb9 => ktr_rel)) | (refine' Pick.cons ?pm9 ?pr9; (case pm9 => k_mem); (case pr9 => ktr_rel)) | fail "pick")
local macro_rules | `(tactic| walk_at "call builtin:list.append") => `(tactic| (k_here; k_dflt (show wpAny _ _ (call (Value.builtin _) [Value.ref _, _]) _ _ _); k_dflt (refine' append_my ?ap1 ?ap2 ?ap3 ?ap4 ?ap5 ?_; (case ap1 => k_asm); (case ap2 => k_asm); (case ap3 => k_mem); (case ap4 => ktr_rel); (case ap5 => omega); k_whole); intro h' F' N'))
local macro_rules | `(tactic| walk_at "call builtin:list.reverse") => `(tactic| (k_here; k_dflt (show wpAny _ _ (call (Value.builtin _) [Value.ref _]) _ _ _); k_dflt (refine' reverse_my ?ap1 ?ap2 ?ap3 ?ap4 ?ap5 ?_; (case ap1 => k_asm); (case ap2 => k_asm); (case ap3 => k_mem); (case ap4 => ktr_rel); (case ap5 => omega); k_whole); intro h' F' N'))
local macro_rules | `(tactic| walk_at "binaryOp Add int int") => `(tactic| (k_here; (refine' add_eq ?e ?_; (case e => assumption); k_whole)))
local macro_rules | `(tactic| walk_at "compareOp Is") => `(tactic| (k_here; (with_reducible show wpAny _ _ (compareOp CmpOp.Is (Value.int _ _) (Value.ref _)) _ _ _); k_dflt (refine' wpAny_is_other ?io1 ?io2 ?_; (case io1 => with_unfolding_all rfl); (case io2 => (intro x; cases x)); k_whole)))
/-- the state of _divmod_pos' loop behind i turns -/
def DivJ (X₁ Y₁ N₁ len : Nat) (y : Int) (lq da : Addr) (va : List Value) (ka : Nat) (R : List (Addr × Obj)) (i : Nat) (m : Str → Option Value) (nx : List (Addr × Obj)) : Prop :=
  ∃ (vq : List Value) (kq : Nat) (qs : List Int) (tr tb tn : Tok), nx = (lq, PySem.W.listOf vq.toArray kq) :: (da, PySem.W.listOf va.toArray ka) :: R ∧ IntsAre vq qs ∧ qs.length = i ∧ InR N₁ qs ∧ val N₁ qs.reverse = ((top X₁ N₁ len i / Y₁ : Nat) : Int) ∧
    ∀ p ∈ [(Str.ofString "r", Value.int ((top X₁ N₁ len i % Y₁ : Nat) : Int) tr), (Str.ofString "b", Value.int y tb), (Str.ofString "n", Value.int (N₁ : Int) tn), (Str.ofString "q_digits", Value.ref lq)], m p.1 = some p.2
theorem divmod_pos_spec {w : World} {dp un : Nat} {gd : Option (List Code)} {cn : Str} {cs : Scope} {a : Addr} {ccd : Value} {cl : List (Str × Addr)} {outer : List Env}
    {A₀ : Around} {base h₀ : Heap} {L : Addr} {m mg mb : Str → Option Value} {loose : List Str} {mean : ExcName → Option Value} {rest tl : List (Addr × Obj)} {s : Shared}
    {x y : Int} {X₁ Y₁ N₁ len : Nat} {t u : Tok} {Q E : Value → Shared → Prop}
    (B : Below A₀ base outer h₀) (F : Fr h₀ L s.heap m) (X : (Mine.hd.heap_39 w.params).In h₀) (N : News h₀ L s.heap (rest ++ tl)) (T : Top topProg loose mean mg mb h₀)
    (hk : cs.kind = .function) (hd : dp + 20 < 1000) (hr : NT rest) (ht : TabsOk Ts tl) (hx : x = X₁) (hy : y = Y₁) (hy0 : 0 < Y₁) (hN : N₁ = Builtin.Int.intBits y) (hn2 : N₁ ≤ 2000) (hlen : len = (Builtin.Int.intBits x + N₁ - 1) / N₁) (hl2 : len ≤ 256)
    (hret : ∀ q h' t1 t2 tk' tl', Fr h₀ L h' m → News h₀ L h' ((q, { cls := .type "tuple", data := .seq #[.int ((X₁ / Y₁ : Nat) : Int) t1, .int ((X₁ % Y₁ : Nat) : Int) t2] }) :: (rest ++ tl')) → TabsOk Ts tl' → Q (.ref q) { s with heap := h', toks := tk' }) :
    wpAny (model PySem.Challenge.rw_xi0012_03.row.prog w) (ktrTop dp un gd cn cs L a ccd cl outer) (call (.ref 49) [.int x t, .int y u]) Q E s := by
  revert X; k_fill; intro X
  refine wpAny_call ?_
  k_dflt ktr_enter
  k_steps
  have hb := bits_pos hy0
  rw [← hy, ← hN] at hb
  obtain ⟨hN0, hYN⟩ := hb
  have hXl : X₁ < 2 ^ (N₁ * len) := by
    by_cases h0 : x = 0
    · have : X₁ = 0 := by omega
      rw [this]; exact Nat.pow_pos (by decide)
    · exact (len_pos hx h0 hN0 hlen).2
  k_dflt (refine' i2d_spec (X₁ := X₁) (N₁ := N₁) (len := len) ?a1 ?a2 ?a3 (Spl.news ?aS ?a4) ?a5 ?a6 ?a7 (Spl.nt ?aS) ?a8 hx ?a9 ?a10 hn2 hlen hl2 ?_; (case a1 => k_asm); (case a2 => k_asm); (case a3 => k_asm); (case a4 => k_asm); (case aS => ktr_rel); (case a5 => k_asm); (case a6 => exact rfl); (case a7 => ktr_room); (case a8 => assumption); (case a9 => (rw [hN])); (case a10 => exact hN0))
  intro da h9 tk9 va ka tl9 F9 N9 ht9 i9 l9
  k_steps
  all_goals try dsimp only
  rename_i lq hq1 lq1 hq2 Dq hq3 Fq Nq lD
  k_dflt (refine' loop_rev (DivJ X₁ Y₁ N₁ len y lq da va ka (rest ++ tl9)) ?b1 i9 ?b2 ?b3 ?b4 ?b5 ?b6 ?b7 ?b8 ?_ ?_; (case b1 => rfl); (case b6 => k_asm); (case b7 => k_asm); (case b2 => k_mem); (case b3 => ktr_rel); (case b4 => k_mem))
  case b8 =>
    refine' ⟨[], 0, [], _, _, _, rfl, .nil, rfl, (fun _ h => nomatch h), ?bv, ?bp⟩
    case bp =>
      refine' List.forall_mem_cons.mpr ⟨?bq, List.forall_mem_cons.mpr ⟨rfl, List.forall_mem_cons.mpr ⟨?br, List.forall_mem_cons.mpr ⟨rfl, List.forall_mem_nil _⟩⟩⟩⟩
      case bq => (rw [top_zero hXl, Nat.zero_mod]; rfl)
      case br => (rw [hN]; rfl)
    case bv => (rw [top_zero hXl, Nat.zero_div]; rfl)
  case b5 =>
    rintro i m nx ⟨vq, kq, qs, tr, tb, tn, rfl, _⟩
    exact .tail _ (.head _)
  · intro i t9 m₁ news₁ h1 tk1 itO hi ⟨vq, kq, qs, tr, tb, tn, e1, hvq, hql, hqr, hqv, hps⟩ hoff hkI F1 N1
    subst e1
    rw [digs_length] at hi F1
    rw [digs_getD (show len - 1 - i < len by omega)] at F1
    replace F1 := kstB_frX F1 hps
    obtain ⟨d9, hd9⟩ : ∃ d9, X₁ / 2 ^ (N₁ * (len - 1 - i)) % 2 ^ N₁ = d9 := ⟨_, rfl⟩
    have hd2 : d9 < 2 ^ N₁ := by rw [← hd9]; exact Nat.mod_lt _ (Nat.pow_pos (by decide))
    have htop := top_succ (X := X₁) (N := N₁) hi
    rw [hd9] at F1 htop
    obtain ⟨H, hH⟩ : ∃ H, top X₁ N₁ len i = H := ⟨_, rfl⟩
    rw [hH] at F1 htop hqv
    obtain ⟨s1, s2, s3, s4⟩ := div_step (H := H) hy0 hd2
    have f1 : ((H % Y₁ : Nat) : Int) * 2 ^ Int.toNat (N₁ : Int) = ((H % Y₁ * 2 ^ N₁ : Nat) : Int) := by rw [Int.toNat_natCast]; norm_cast
    have f2 : ((H % Y₁ * 2 ^ N₁ : Nat) : Int) + (d9 : Int) = ((H % Y₁ * 2 ^ N₁ + d9 : Nat) : Int) := by norm_cast
    have f3 : (Builtin.Int.intBits ((H % Y₁ : Nat) : Int) : Int) + (N₁ : Int) ≤ 2 ^ 27 := shl_fits (k := N₁) (Nat.lt_of_lt_of_le (Nat.mod_lt _ hy0) (Nat.le_of_lt hYN)) (by omega)
    have f4 := bits_two s4 hYN
    have hvl := hvq.length
    have hDl : @Ne Nat Dq lq := fun e => hoff _ (.head _) e.symm
    have hDa : @Ne Nat Dq da := fun e => hoff _ (.tail _ (.head _)) e.symm
    k_steps
    all_goals try dsimp only
    k_dflt (refine' div2n1n_spec (q₁ := (((H % Y₁ * 2 ^ N₁ + d9) / Y₁ : Nat) : Int)) (r₁ := (((H % Y₁ * 2 ^ N₁ + d9) % Y₁ : Nat) : Int)) ?c1 ?c2 ?c3 ?c4 ?c5 ?c6 ?c7 ?c8 ?c9 ?c10 ?c11 ?c12 ?_; (case c1 => k_asm); (case c2 => k_asm); (case c3 => k_asm); (case c4 => k_asm); (case c5 => k_asm); (case c6 => exact rfl); (case c7 => ktr_room); (case c8 => omega); (case c9 => omega); (case c10 => (rw [hy]; exact PyProof.noPylong_of_log2 (log2_small hYN hn2))); (case c11 => (rw [hy, nat_fdiv])); (case c12 => (rw [hy, nat_fmod])))
    intro q9 h2 t1 t2 tk2 F2 N2
    k_steps
    all_goals try dsimp only
    refine' TurnPost.next ?e1 ?e2 ?e3 ?e4
    case e1 => k_asm
    case e4 =>
      refine' ⟨vq ++ [.int (((H % Y₁ * 2 ^ N₁ + d9) / Y₁ : Nat) : Int) t1], kq + 1, qs ++ [(((H % Y₁ * 2 ^ N₁ + d9) / Y₁ : Nat) : Int)], t2, tb, tn, rfl, IntsAre.append hvq (.cons _ t1 .nil), ?f1, inR_snoc hqr s3, ?f2, ?f3⟩
      case f1 => (rw [List.length_append, hql]; rfl)
      case f2 =>
        rw [val_snoc_rev, hqv, htop, s2]
        push_cast
        omega
      case f3 =>
        rw [htop, s1]
        exact List.forall_mem_cons.mpr ⟨rfl, List.forall_mem_cons.mpr ⟨rfl, List.forall_mem_cons.mpr ⟨rfl, List.forall_mem_cons.mpr ⟨rfl, List.forall_mem_nil _⟩⟩⟩⟩
    case e2 => (refine' Pick.news ?g1 ?g2; (case g2 => k_asm); (case g1 => ktr_rel))
    case e3 =>
      intro p hp
      rcases List.mem_cons.mp hp with rfl | hp
      · exact hoff (lq, PySem.W.listOf vq.toArray kq) (.head _)
      · exact hoff p (.tail _ hp)
  · intro h1 tk1 m₁ news₁ ⟨vq, kq, qs, tr, tb, tn, e1, hvq, hql, hqr, hqv, hps⟩ F1 N1
    subst e1
    rw [digs_length] at hql hqv hps
    rw [top_all] at hqv hps
    replace F1 := kstB_fr F1 hps
    have hvl := hvq.length
    k_steps
    all_goals try dsimp only
    k_dflt (refine' d2i_spec (N₁ := N₁) (ns := qs.reverse) ?h1 ?h2 ?h3 (Spl.news ?hS ?h4) ?h5 ?h6 ?h7 (Spl.nt ?hS) ?h8 ?h9 hvq.reverse (inR_rev hqr) ?h10 hn2 ?h11 ?_; (case h1 => k_asm); (case h2 => k_asm); (case h3 => k_asm); (case h4 => k_asm); (case hS => ktr_rel); (case h5 => k_asm); (case h6 => exact rfl); (case h7 => ktr_room); (case h8 => assumption); (case h9 => k_mem); (case h10 => exact rfl); (case h11 => (rw [List.length_reverse]; omega)))
    rw [hqv]
    intro tk3 h3 tkk3 tl3 F3 N3 ht3
    k_steps
    all_goals try dsimp only
    refine' hret _ _ _ _ _ _ ?r1F ?r1N ?r1T
    case r1F => k_asm
    case r1N => (refine' Pick.news ?r1a ?r1b; (case r1b => k_asm); (case r1a => ktr_rel))
    case r1T => assumption
end
section


local macro_rules | `(tactic| ktr_rel) => `(tactic| first | refine' TailOf.base | (refine' TailOf.cons ?t9; (case t9 => ktr_rel)))
local macro_rules | `(tactic| ktr_rel) => `(tactic| first | ((with_reducible refine' Sel.hit ?s9); (case s9 => ktr_rel)) | (refine' Sel.keep ?ne ?s9; (case ne => first | k_ne | (refine' ne_kind ?x1 ?x2 ?x3 ?x4; (case x1 => k_asm); (case x2 => k_mem); (case x3 => k_mem); (case x4 => with_unfolding_all rfl)) | fail "ne"); (case s9 => ktr_rel)) | (refine' Sel.base ?b9; (case b9 => (refine' off_all ?n1 ?n2 ?n3 ?n4 ?n5 ?n6; (case n1 => assumption); (case n2 => assumption); (case n3 => ktr_rel); (case n4 => k_mem); (case n5 => first | exact rfl | assumption | (refine' tlk_cell ?n7; (case n7 => assumption))); (case n6 => (refine' ne_above ?n8 ?n9; (case n8 => assumption); (case n9 => omega)))))))
local macro_rules | `(tactic| walk_at "storeName") => `(tactic| (k_here; k_dflt (refine' store_cell ?F ?N ?c ?m ?d ?S ?_ ?a ?b; (case a => rfl); (case b => rfl); (case F => k_asm); (case N => k_asm); (case c => rfl); (case m => k_mem); (case d => k_asm); (case S => ktr_rel); k_whole; intro h' o' F' N' d'; (try dsimp only at N'); (try k_sweep))))
local macro_rules | `(tactic| ktr_rel) => `(tactic| first | (refine' Spl.base ?b9; (case b9 => assumption)) | (refine' Spl.keep ?ta ?s9; (case ta => (first | exact rfl | assumption | (refine' tabby_cell ?b8; (case b8 => assumption)) | (refine' tabby_of_tlk ?b8; (case b8 => assumption)) | (refine' tabby_code ?b8 ?b7; (case b8 => assumption); (case b7 => assumption)) | fail "ta")); (case s9 => ktr_rel)) | (refine' Spl.drop ?s9; (case s9 => ktr_rel)))
local macro_rules | `(tactic| ktr_rel) => `(tactic| first | refine' Suf.base | (refine' Suf.cons ?t9; (case t9 => ktr_rel)))
local macro_rules | `(tactic| walk_at "callWith ref") => `(tactic| (k_here; k_dflt (first
  | (refine' callWith_F ?k1 ?_; (case k1 => exact FnAt.of (by k_asm) (by k_mem)); k_whole)
  | (refine' callWith_F0 ?k1 ?_; (case k1 => exact FnAt.of (by k_asm) (by k_mem)); k_whole; try dsimp only [List.nil_append, List.cons_append]))))
local macro_rules | `(tactic| walk_at "eval Name") => `(tactic| (k_here; k_dflt (refine' nameX_F ?N ?c ?m ?d ?_ ?a ?b; (case a => rfl); (case b => rfl); (case N => k_asm); (case c => rfl); (case m => k_mem); (case d => k_asm); k_whole)))
local macro_rules | `(tactic| k_all) => `(tactic| assumption)
local macro_rules | `(tactic| k_mem) => `(tactic| first | ((with_reducible refine' memL ?_); assumption) | ((with_reducible refine' memR ?_); assumption) | ((with_reducible refine' memI ?_); ktr_member) | fail "k_mem")
local macro_rules | `(tactic| walk_at "binaryOp RShift int int") => `(tactic| (k_here; (refine' rshift_eq ?n ?e ?_; (case n => first | decide | assumption | exact Int.natCast_nonneg _); (case e => assumption); k_whole)))
local macro_rules | `(tactic| walk_at "binaryOp Mult int int") => `(tactic| (k_here; (refine' mul_eq ?e ?n ?_; (case e => assumption); (case n => assumption); k_whole)))
local macro_rules | `(tactic| walk_at "binaryOp LShift int int") => `(tactic| (k_here; (refine' lshift_eq ?e ?n ?m ?_; (case e => assumption); (case n => first | decide | assumption | exact Int.natCast_nonneg _); (case m => assumption); k_whole)))
local macro_rules | `(tactic| walk_at "binaryOp BitXor int int") => `(tactic| (k_here; (refine' xor_eq ?e ?_; (case e => assumption); k_whole)))

local macro_rules | `(tactic| walk_at "call builtin:len") => `(tactic| (k_here; (with_reducible show wpAny _ _ (call (Value.builtin "len") [Value.ref _]) _ _ _); k_dflt (refine' len_list' ?kl1 ?kl2 ?kl3 ?kl4 ?_; (case kl1 => k_asm); (case kl2 => k_mem); (case kl3 => assumption); (case kl4 => first | omega | ((try simp only [List.length_replicate]); omega)); k_whole); (try simp only [List.length_replicate])))
local macro_rules | `(tactic| walk_at "truthy ref") => `(tactic| (k_here; (with_reducible show wpAny _ _ (truthy (Value.ref _)) _ _ _); k_dflt (refine' truthy_list ?kl1 ?kl2 ?kl3 ?kl4 ?_; (case kl1 => k_asm); (case kl2 => k_mem); (case kl3 => assumption); (case kl4 => omega); k_whole)))

local macro_rules | `(tactic| ktr_rel) => `(tactic| first | (refine' Pick.base ?pb9; (case pb9 => ktr_rel)) | (refine' Pick.cons ?pm9 ?pr9; (case pm9 => k_mem); (case pr9 => ktr_rel)) | fail "pick")
local macro_rules | `(tactic| walk_at "call builtin:list.append") => `(tactic| (k_here; k_dflt (show wpAny _ _ (call (Value.builtin _) [Value.ref _, _]) _ _ _); k_dflt (refine' append_my ?ap1 ?ap2 ?ap3 ?ap4 ?ap5 ?_; (case ap1 => k_asm); (case ap2 => k_asm); (case ap3 => k_mem); (case ap4 => ktr_rel); (case ap5 => omega); k_whole); intro h' F' N'))
local macro_rules | `(tactic| walk_at "call builtin:list.reverse") => `(tactic| (k_here; k_dflt (show wpAny _ _ (call (Value.builtin _) [Value.ref _]) _ _ _); k_dflt (refine' reverse_my ?ap1 ?ap2 ?ap3 ?ap4 ?ap5 ?_; (case ap1 => k_asm); (case ap2 => k_asm); (case ap3 => k_mem); (case ap4 => ktr_rel); (case ap5 => omega); k_whole); intro h' F' N'))
local macro_rules | `(tactic| walk_at "binaryOp Add int int") => `(tactic| (k_here; (refine' add_eq ?e ?_; (case e => assumption); k_whole)))
local macro_rules | `(tactic| walk_at "compareOp Is") => `(tactic| (k_here; (with_reducible show wpAny _ _ (compareOp CmpOp.Is (Value.int _ _) (Value.ref _)) _ _ _); k_dflt (refine' wpAny_is_other ?io1 ?io2 ?_; (case io1 => with_unfolding_all rfl); (case io2 => (intro x; cases x)); k_whole)))
theorem idm_pp {w : World} {dp un : Nat} {gd : Option (List Code)} {cn : Str} {cs : Scope} {a : Addr} {ccd : Value} {cl : List (Str × Addr)} {outer : List Env}
    {A₀ : Around} {base h₀ : Heap} {L : Addr} {m mg mb : Str → Option Value} {loose : List Str} {mean : ExcName → Option Value} {rest tl : List (Addr × Obj)} {s : Shared}
    {x y : Int} {X₁ Y₁ : Nat} {t u : Tok} {Q E : Value → Shared → Prop}
    (B : Below A₀ base outer h₀) (F : Fr h₀ L s.heap m) (X : (Mine.hd.heap_39 w.params).In h₀) (N : News h₀ L s.heap (rest ++ tl)) (T : Top topProg loose mean mg mb h₀)
    (hk : cs.kind = .function) (hd : dp + 30 < 1000) (hr : NT rest) (ht : TabsOk Ts tl) (hx : x = X₁) (hy : y = Y₁) (hy0 : 0 < Y₁) (hn2 : Builtin.Int.intBits y ≤ 2000) (hl2 : (Builtin.Int.intBits x + Builtin.Int.intBits y - 1) / Builtin.Int.intBits y ≤ 256)
    (hret : ∀ q h' t1 t2 tk' tl', Fr h₀ L h' m → News h₀ L h' ((q, { cls := .type "tuple", data := .seq #[.int ((X₁ / Y₁ : Nat) : Int) t1, .int ((X₁ % Y₁ : Nat) : Int) t2] }) :: (rest ++ tl')) → TabsOk Ts tl' → Q (.ref q) { s with heap := h', toks := tk' }) :
    wpAny (model PySem.Challenge.rw_xi0012_03.row.prog w) (ktrTop dp un gd cn cs L a ccd cl outer) (call (.ref 56) [.int x t, .int y u]) Q E s := by
  revert X; k_fill; intro X
  have y0 : 0 < y := by omega
  have x0 : 0 ≤ x := by omega
  refine wpAny_call ?_
  k_dflt ktr_enter
  k_steps
  · exfalso; omega
  all_goals try dsimp only
  k_dflt (refine' divmod_pos_spec (X₁ := X₁) (Y₁ := Y₁) ?daB ?daF ?daX (Spl.news ?daS ?daN) ?daT ?dak ?dad (Spl.nt ?daS) ?dah hx hy hy0 rfl hn2 rfl hl2 ?_; (case daB => k_asm); (case daF => k_asm); (case daX => k_asm); (case daN => k_asm); (case daS => ktr_rel); (case daT => k_asm); (case dak => exact rfl); (case dad => ktr_room); (case dah => assumption))
  intro q h1 t1 t2 tk1 tl1 F1 N1 ht1
  k_steps
  all_goals try dsimp only
  refine' hret _ _ _ _ _ _ ?r1F ?r1N ?r1T
  case r1F => k_asm
  case r1N => (refine' Pick.news ?r1a ?r1b; (case r1b => k_asm); (case r1a => ktr_rel))
  case r1T => assumption
section
local macro_rules | `(tactic| walk_at "unaryOp Invert int") => `(tactic| (k_here; (refine' invert_eq ?e ?_; (case e => assumption); k_whole)))
theorem idm_np {w : World} {dp un : Nat} {gd : Option (List Code)} {cn : Str} {cs : Scope} {a : Addr} {ccd : Value} {cl : List (Str × Addr)} {outer : List Env}
    {A₀ : Around} {base h₀ : Heap} {L : Addr} {m mg mb : Str → Option Value} {loose : List Str} {mean : ExcName → Option Value} {rest tl : List (Addr × Obj)} {s : Shared}
    {x y : Int} {X₁ Y₁ : Nat} {t u : Tok} {Q E : Value → Shared → Prop}
    (B : Below A₀ base outer h₀) (F : Fr h₀ L s.heap m) (X : (Mine.hd.heap_39 w.params).In h₀) (N : News h₀ L s.heap (rest ++ tl)) (T : Top topProg loose mean mg mb h₀)
    (hk : cs.kind = .function) (hd : dp + 32 < 1000) (hr : NT rest) (ht : TabsOk Ts tl) (hx : x = -((X₁ : Int) + 1)) (hy : y = Y₁) (hy0 : 0 < Y₁) (hn2 : Builtin.Int.intBits y ≤ 2000) (hl2 : (Builtin.Int.intBits x + Builtin.Int.intBits y - 1) / Builtin.Int.intBits y ≤ 256)
    (hret : ∀ q h' t1 t2 tk' tl', Fr h₀ L h' m → News h₀ L h' ((q, { cls := .type "tuple", data := .seq #[.int (-((X₁ / Y₁ : Nat) : Int) - 1) t1, .int ((Y₁ : Int) - ((X₁ % Y₁ : Nat) : Int) - 1) t2] }) :: (rest ++ tl')) → TabsOk Ts tl' → Q (.ref q) { s with heap := h', toks := tk' }) :
    wpAny (model PySem.Challenge.rw_xi0012_03.row.prog w) (ktrTop dp un gd cn cs L a ccd cl outer) (call (.ref 56) [.int x t, .int y u]) Q E s := by
  revert X; k_fill; intro X
  have y0 : 0 < y := by omega
  have x0 : x < 0 := by omega
  have e1 : Builtin.bitNot x = (X₁ : Int) := by unfold Builtin.bitNot; omega
  have e2 : Builtin.bitNot ((X₁ / Y₁ : Nat) : Int) = -((X₁ / Y₁ : Nat) : Int) - 1 := rfl
  have e3 : Builtin.bitNot ((X₁ % Y₁ : Nat) : Int) = -((X₁ % Y₁ : Nat) : Int) - 1 := rfl
  have e4 : y + (-((X₁ % Y₁ : Nat) : Int) - 1) = (Y₁ : Int) - ((X₁ % Y₁ : Nat) : Int) - 1 := by omega
  have hl3 : (Builtin.Int.intBits (X₁ : Int) + Builtin.Int.intBits y - 1) / Builtin.Int.intBits y ≤ 256 := by
    refine Nat.le_trans (Nat.div_le_div_right ?_) hl2
    have : Builtin.Int.intBits (X₁ : Int) ≤ Builtin.Int.intBits x := intBits_le_of_natAbs (by omega) (Nat.le_refl _)
    omega
  refine wpAny_call ?_
  k_dflt ktr_enter
  k_steps
  · exfalso; omega
  all_goals try dsimp only
  k_dflt (refine' idm_pp (X₁ := X₁) (Y₁ := Y₁) ?daB ?daF ?daX (Spl.news ?daS ?daN) ?daT ?dak ?dad (Spl.nt ?daS) ?dah rfl hy hy0 hn2 hl3 ?_; (case daB => k_asm); (case daF => k_asm); (case daX => k_asm); (case daN => k_asm); (case daS => ktr_rel); (case daT => k_asm); (case dak => exact rfl); (case dad => ktr_room); (case dah => assumption))
  intro q h1 t1 t2 tk1 tl1 F1 N1 ht1
  k_steps
  all_goals try dsimp only
  refine' hret _ _ _ _ _ _ ?r1F ?r1N ?r1T
  case r1F => k_asm
  case r1N => (refine' Pick.news ?r1a ?r1b; (case r1b => k_asm); (case r1a => ktr_rel))
  case r1T => assumption
end
--03{
theorem ex_pos {z : Int} {x y : Int} {X₁ Y₁ : Nat} (hx : x = z * y) (hy0 : 0 < Y₁) (hy : y = Y₁) (h : x = X₁) : ((X₁ / Y₁ : Nat) : Int) = z ∧ ((X₁ % Y₁ : Nat) : Int) = 0 := by
  subst hy
  have e : (X₁ : Int) = z * (Y₁ : Int) := h.symm.trans hx
  have hp : (Y₁ : Int) ≠ 0 := by omega
  constructor
  · rw [Int.natCast_ediv, e, Int.mul_ediv_cancel _ hp]
  · rw [Int.natCast_emod, e, Int.mul_emod_left]
theorem ex_neg {z : Int} {x y : Int} {X₁ Y₁ : Nat} (hx : x = z * y) (hy0 : 0 < Y₁) (hy : y = Y₁) (h : x = -((X₁ : Int) + 1)) : -((X₁ / Y₁ : Nat) : Int) - 1 = z ∧ (Y₁ : Int) - ((X₁ % Y₁ : Nat) : Int) - 1 = 0 := by
  subst hy
  have e : (X₁ : Int) = (Y₁ - 1) + (-z - 1) * (Y₁ : Int) := by
    have : -((X₁ : Int) + 1) = z * (Y₁ : Int) := h.symm.trans hx
    have e2 : (-z - 1) * (Y₁ : Int) = -(z * (Y₁ : Int)) - Y₁ := by rw [Int.sub_mul, Int.neg_mul, Int.one_mul]
    omega
  have hp : (Y₁ : Int) ≠ 0 := by omega
  have h1 : ((Y₁ : Int) - 1) / (Y₁ : Int) = 0 := Int.ediv_eq_zero_of_lt (by omega) (by omega)
  have h2 : ((Y₁ : Int) - 1) % (Y₁ : Int) = Y₁ - 1 := Int.emod_eq_of_lt (by omega) (by omega)
  constructor
  · rw [Int.natCast_ediv, e, Int.add_mul_ediv_right _ _ hp, h1]; omega
  · rw [Int.natCast_emod, e, Int.add_mul_emod_self_right, h2]; omega
theorem idm_exp {w : World} {dp un : Nat} {gd : Option (List Code)} {cn : Str} {cs : Scope} {a : Addr} {ccd : Value} {cl : List (Str × Addr)} {outer : List Env}
    {A₀ : Around} {base h₀ : Heap} {L : Addr} {m mg mb : Str → Option Value} {loose : List Str} {mean : ExcName → Option Value} {rest tl : List (Addr × Obj)} {s : Shared}
    {x y z : Int} {t u : Tok} {Q E : Value → Shared → Prop}
    (B : Below A₀ base outer h₀) (F : Fr h₀ L s.heap m) (X : (Mine.hd.heap_39 w.params).In h₀) (N : News h₀ L s.heap (rest ++ tl)) (T : Top topProg loose mean mg mb h₀)
    (hk : cs.kind = .function) (hd : dp + 34 < 1000) (hr : NT rest) (ht : TabsOk Ts tl) (hx : x = z * y) (hy : 0 < y) (hn2 : Builtin.Int.intBits y ≤ 2000) (hl2 : (Builtin.Int.intBits x + Builtin.Int.intBits y - 1) / Builtin.Int.intBits y ≤ 256)
    (hret : ∀ q h' t1 t2 tk' tl', Fr h₀ L h' m → News h₀ L h' ((q, { cls := .type "tuple", data := .seq #[.int z t1, .int 0 t2] }) :: (rest ++ tl')) → TabsOk Ts tl' → Q (.ref q) { s with heap := h', toks := tk' }) :
    wpAny (model PySem.Challenge.rw_xi0012_03.row.prog w) (ktrTop dp un gd cn cs L a ccd cl outer) (call (.ref 56) [.int x t, .int y u]) Q E s := by
  by_cases h : 0 ≤ x
  · refine idm_pp (X₁ := x.toNat) (Y₁ := y.toNat) B F X N T hk (by omega) hr ht (by omega) (by omega) (by omega) hn2 hl2 ?_
    obtain ⟨e1, e2⟩ := ex_pos (X₁ := x.toNat) (Y₁ := y.toNat) hx (by omega) (by omega) (by omega)
    rw [e1, e2]; exact hret
  · refine idm_np (X₁ := (-x - 1).toNat) (Y₁ := y.toNat) B F X N T hk (by omega) hr ht (by omega) (by omega) (by omega) hn2 hl2 ?_
    obtain ⟨e1, e2⟩ := ex_neg (X₁ := (-x - 1).toNat) (Y₁ := y.toNat) hx (by omega) (by omega) (by omega)
    rw [e1, e2]; exact hret
section
local macro_rules | `(tactic| walk_at "unaryOp USub int") => `(tactic| (k_here; (refine' neg_eq ?e ?_; (case e => assumption); k_whole)))
theorem idm_ex {w : World} {dp un : Nat} {gd : Option (List Code)} {cn : Str} {cs : Scope} {a : Addr} {ccd : Value} {cl : List (Str × Addr)} {outer : List Env}
    {A₀ : Around} {base h₀ : Heap} {L : Addr} {m mg mb : Str → Option Value} {loose : List Str} {mean : ExcName → Option Value} {rest tl : List (Addr × Obj)} {s : Shared}
    {x y z : Int} {t u : Tok} {Q E : Value → Shared → Prop}
    (B : Below A₀ base outer h₀) (F : Fr h₀ L s.heap m) (X : (Mine.hd.heap_39 w.params).In h₀) (N : News h₀ L s.heap (rest ++ tl)) (T : Top topProg loose mean mg mb h₀)
    (hk : cs.kind = .function) (hd : dp + 38 < 1000) (hr : NT rest) (ht : TabsOk Ts tl) (hx : x = z * y) (hy : y ≠ 0) (hn2 : Builtin.Int.intBits y ≤ 2000) (hl2 : (Builtin.Int.intBits x + Builtin.Int.intBits y - 1) / Builtin.Int.intBits y ≤ 256)
    (hret : ∀ q h' t1 t2 tk' tl', Fr h₀ L h' m → News h₀ L h' ((q, { cls := .type "tuple", data := .seq #[.int z t1, .int 0 t2] }) :: (rest ++ tl')) → TabsOk Ts tl' → Q (.ref q) { s with heap := h', toks := tk' }) :
    wpAny (model PySem.Challenge.rw_xi0012_03.row.prog w) (ktrTop dp un gd cn cs L a ccd cl outer) (call (.ref 56) [.int x t, .int y u]) Q E s := by
  by_cases h : 0 < y
  · exact idm_exp B F X N T hk (by omega) hr ht hx h hn2 hl2 hret
  revert X; k_fill; intro X
  have y0 : y < 0 := by omega
  obtain ⟨x', e1⟩ : ∃ x', -x = x' := ⟨_, rfl⟩
  obtain ⟨y', e2⟩ : ∃ y', -y = y' := ⟨_, rfl⟩
  have e3 : -(0 : Int) = 0 := rfl
  have e4 : x' = z * y' := by rw [← e1, ← e2, hx, Int.mul_neg]
  have b1 : Builtin.Int.intBits x' = Builtin.Int.intBits x := by rw [← e1]; unfold Builtin.Int.intBits; simp
  have b2 : Builtin.Int.intBits y' = Builtin.Int.intBits y := by rw [← e2]; unfold Builtin.Int.intBits; simp
  have hn3 : Builtin.Int.intBits y' ≤ 2000 := by omega
  have hl3 : (Builtin.Int.intBits x' + Builtin.Int.intBits y' - 1) / Builtin.Int.intBits y' ≤ 256 := by rw [b1, b2]; exact hl2
  refine wpAny_call ?_
  k_dflt ktr_enter
  k_steps
  · exfalso; omega
  all_goals try dsimp only
  k_dflt (refine' idm_exp (z := z) ?daB ?daF ?daX (Spl.news ?daS ?daN) ?daT ?dak ?dad (Spl.nt ?daS) ?dah e4 ?day hn3 hl3 ?_; (case daB => k_asm); (case daF => k_asm); (case daX => k_asm); (case daN => k_asm); (case daS => ktr_rel); (case daT => k_asm); (case dak => exact rfl); (case dad => ktr_room); (case dah => assumption); (case day => omega))
  intro q h1 t1 t2 tk1 tl1 F1 N1 ht1
  k_steps
  all_goals try dsimp only
  refine' hret _ _ _ _ _ _ ?r1F ?r1N ?r1T
  case r1F => k_asm
  case r1N => (refine' Pick.news ?r1a ?r1b; (case r1b => k_asm); (case r1a => ktr_rel))
  case r1T => assumption
end
--}03
end
section
local macro_rules | `(tactic| walk_at "no key 0") => `(tactic| fail)


local macro_rules | `(tactic| ktr_rel) => `(tactic| first | refine' TailOf.base | (refine' TailOf.cons ?t9; (case t9 => ktr_rel)))
local macro_rules | `(tactic| ktr_rel) => `(tactic| first | ((with_reducible refine' Sel.hit ?s9); (case s9 => ktr_rel)) | (refine' Sel.keep ?ne ?s9; (case ne => first | k_ne | (refine' ne_kind ?x1 ?x2 ?x3 ?x4; (case x1 => k_asm); (case x2 => k_mem); (case x3 => k_mem); (case x4 => with_unfolding_all rfl)) | fail "ne"); (case s9 => ktr_rel)) | (refine' Sel.base ?b9; (case b9 => (refine' off_all ?n1 ?n2 ?n3 ?n4 ?n5 ?n6; (case n1 => assumption); (case n2 => assumption); (case n3 => ktr_rel); (case n4 => k_mem); (case n5 => first | exact rfl | assumption | (refine' tlk_cell ?n7; (case n7 => assumption))); (case n6 => (refine' ne_above ?n8 ?n9; (case n8 => assumption); (case n9 => omega)))))))
local macro_rules | `(tactic| walk_at "storeName") => `(tactic| (k_here; k_dflt (refine' store_cell ?F ?N ?c ?m ?d ?S ?_ ?a ?b; (case a => rfl); (case b => rfl); (case F => k_asm); (case N => k_asm); (case c => rfl); (case m => k_mem); (case d => k_asm); (case S => ktr_rel); k_whole; intro h' o' F' N' d'; (try dsimp only at N'); (try k_sweep))))
local macro_rules | `(tactic| ktr_rel) => `(tactic| first | (refine' Spl.base ?b9; (case b9 => assumption)) | (refine' Spl.keep ?ta ?s9; (case ta => (first | exact rfl | assumption | (refine' tabby_cell ?b8; (case b8 => assumption)) | (refine' tabby_of_tlk ?b8; (case b8 => assumption)) | (refine' tabby_code ?b8 ?b7; (case b8 => assumption); (case b7 => assumption)) | fail "ta")); (case s9 => ktr_rel)) | (refine' Spl.drop ?s9; (case s9 => ktr_rel)))
local macro_rules | `(tactic| ktr_rel) => `(tactic| first | refine' Suf.base | (refine' Suf.cons ?t9; (case t9 => ktr_rel)))
local macro_rules | `(tactic| walk_at "callWith ref") => `(tactic| (k_here; k_dflt (first
  | (refine' callWith_F ?k1 ?_; (case k1 => exact FnAt.of (by k_asm) (by k_mem)); k_whole)
  | (refine' callWith_F0 ?k1 ?_; (case k1 => exact FnAt.of (by k_asm) (by k_mem)); k_whole; try dsimp only [List.nil_append, List.cons_append]))))
local macro_rules | `(tactic| walk_at "eval Name") => `(tactic| (k_here; k_dflt (refine' nameX_F ?N ?c ?m ?d ?_ ?a ?b; (case a => rfl); (case b => rfl); (case N => k_asm); (case c => rfl); (case m => k_mem); (case d => k_asm); k_whole)))
local macro_rules | `(tactic| k_all) => `(tactic| assumption)
local macro_rules | `(tactic| k_mem) => `(tactic| first | ((with_reducible refine' memL ?_); assumption) | ((with_reducible refine' memR ?_); assumption) | ((with_reducible refine' memI ?_); ktr_member) | fail "k_mem")
local macro_rules | `(tactic| walk_at "binaryOp RShift int int") => `(tactic| (k_here; (refine' rshift_eq ?n ?e ?_; (case n => first | decide | assumption | exact Int.natCast_nonneg _); (case e => assumption); k_whole)))
local macro_rules | `(tactic| walk_at "binaryOp Mult int int") => `(tactic| (k_here; (refine' mul_eq ?e ?n ?_; (case e => assumption); (case n => assumption); k_whole)))
local macro_rules | `(tactic| walk_at "binaryOp LShift int int") => `(tactic| (k_here; (refine' lshift_eq ?e ?n ?m ?_; (case e => assumption); (case n => first | decide | assumption | exact Int.natCast_nonneg _); (case m => assumption); k_whole)))
local macro_rules | `(tactic| walk_at "binaryOp BitXor int int") => `(tactic| (k_here; (refine' xor_eq ?e ?_; (case e => assumption); k_whole)))

local macro_rules | `(tactic| walk_at "call builtin:len") => `(tactic| (k_here; (with_reducible show wpAny _ _ (call (Value.builtin "len") [Value.ref _]) _ _ _); k_dflt (refine' len_list' ?kl1 ?kl2 ?kl3 ?kl4 ?_; (case kl1 => k_asm); (case kl2 => k_mem); (case kl3 => assumption); (case kl4 => first | omega | ((try simp only [List.length_replicate]); omega)); k_whole); (try simp only [List.length_replicate])))
local macro_rules | `(tactic| walk_at "truthy ref") => `(tactic| (k_here; (with_reducible show wpAny _ _ (truthy (Value.ref _)) _ _ _); k_dflt (refine' truthy_list ?kl1 ?kl2 ?kl3 ?kl4 ?_; (case kl1 => k_asm); (case kl2 => k_mem); (case kl3 => assumption); (case kl4 => omega); k_whole)))

local macro_rules | `(tactic| ktr_rel) => `(tactic| first | (refine' Pick.base ?pb9; (case pb9 => ktr_rel)) | (refine' Pick.cons ?pm9 ?pr9; (case pm9 => k_mem); (case pr9 => ktr_rel)) | fail "pick")
local macro_rules | `(tactic| walk_at "call builtin:list.append") => `(tactic| (k_here; k_dflt (show wpAny _ _ (call (Value.builtin _) [Value.ref _, _]) _ _ _); k_dflt (refine' append_my ?ap1 ?ap2 ?ap3 ?ap4 ?ap5 ?_; (case ap1 => k_asm); (case ap2 => k_asm); (case ap3 => k_mem); (case ap4 => ktr_rel); (case ap5 => omega); k_whole); intro h' F' N'))
local macro_rules | `(tactic| walk_at "call builtin:list.reverse") => `(tactic| (k_here; k_dflt (show wpAny _ _ (call (Value.builtin _) [Value.ref _]) _ _ _); k_dflt (refine' reverse_my ?ap1 ?ap2 ?ap3 ?ap4 ?ap5 ?_; (case ap1 => k_asm); (case ap2 => k_asm); (case ap3 => k_mem); (case ap4 => ktr_rel); (case ap5 => omega); k_whole); intro h' F' N'))
local macro_rules | `(tactic| walk_at "binaryOp Add int int") => `(tactic| (k_here; (refine' add_eq ?e ?_; (case e => assumption); k_whole)))
local macro_rules | `(tactic| walk_at "compareOp Is") => `(tactic| (k_here; (with_reducible show wpAny _ _ (compareOp CmpOp.Is (Value.int _ _) (Value.ref _)) _ _ _); k_dflt (refine' wpAny_is_other ?io1 ?io2 ?_; (case io1 => with_unfolding_all rfl); (case io2 => (intro x; cases x)); k_whole)))
local macro_rules | `(tactic| walk_at "callWith ref") => `(tactic| (k_here; k_dflt (refine' callWith_F ?k1 ?_; (case k1 => assumption); k_whole)))
local macro_rules | `(tactic| walk_at "FnAt") => `(tactic| assumption)
local macro_rules | `(tactic| walk_at "call builtin:iter") => `(tactic| (k_here; (with_reducible show wpAny _ _ (call (Value.builtin "iter") [Value.ref _]) _ _ _); k_dflt (refine' iter_list_my ?it1 ?it2 ?it3 ?_; (case it1 => k_asm); (case it2 => k_asm); (case it3 => k_mem); k_whole); intro I' h' F' N' l1))
local macro_rules | `(tactic| walk_at "exec For Name Name cons nil") => `(tactic| (k_here; (rename Fr _ _ _ _ => lF'); (with_unfolding_all refine' For_invVF lF' ?k1 ?k2 ?_; (case k1 => exact rfl); (case k2 => exact rfl); k_whole)))
/-- what a function of two ints does that reduce is handed -/
structure Fn2 (prog : Program) (w : World) (K : Frag) (dd : Nat) (led : List (Addr × Obj)) (f : Addr) (g : Int → Int → Int) (ok : Int → Int → Prop) : Prop where
  fnat : ∀ {h₀ h : Heap} {L : Addr} {m : Str → Option Value} {news : List (Addr × Obj)}, Fr h₀ L h m → K.In h₀ → News h₀ L h news → (∀ p ∈ led, p ∈ news) → FnAt f h
  out : ∀ {dp un : Nat} {gd : Option (List Code)} {cn : Str} {cs : Scope} {a : Addr} {ccd : Value} {cl : List (Str × Addr)} {outer : List Env}
    {A₀ : Around} {base h₀ : Heap} {L : Addr} {m mg mb : Str → Option Value} {loose : List Str} {mean : ExcName → Option Value} {rest tl : List (Addr × Obj)} {s : Shared} {x y : Int} {t u : Tok} {Q E : Value → Shared → Prop},
    Below A₀ base outer h₀ → Fr h₀ L s.heap m → K.In h₀ → News h₀ L s.heap (rest ++ tl) → Top topProg loose mean mg mb h₀ → cs.kind = .function → dp + dd < 1000 → NT rest → TabsOk Ts tl → (∀ p ∈ led, p ∈ rest) → ok x y →
    (∀ h' tk tk' tl', Fr h₀ L h' m → News h₀ L h' (rest ++ tl') → TabsOk Ts tl' → Q (.int (g x y) tk) { s with heap := h', toks := tk' }) →
    wpAny (model prog w) (ktrTop dp un gd cn cs L a ccd cl outer) (call (.ref f) [.int x t, .int y u]) Q E s
/-- the state of reduce's loop behind i turns -/
def RedJ (f : Addr) (g : Int → Int → Int) (z : Int) (ns : List Int) (rest : List (Addr × Obj)) (i : Nat) (m : Str → Option Value) (nx : List (Addr × Obj)) : Prop :=
  ∃ (tl' : List (Addr × Obj)) (tv : Tok), nx = rest ++ tl' ∧ TabsOk Ts tl' ∧ ∀ p ∈ [(Str.ofString "value", Value.int ((ns.take i).foldl g z) tv), (Str.ofString "function", Value.ref f)], m p.1 = some p.2
theorem foldl_take {α β : Type} {g : β → α → β} {z : β} {d : α} {ns : List α} {i : Nat} (h : i < ns.length) : (ns.take (i + 1)).foldl g z = g ((ns.take i).foldl g z) (ns.getD i d) := by
  rw [List.take_succ_eq_append_getElem h, List.foldl_append, List.getD_eq_getElem?_getD, List.getElem?_eq_getElem h]; rfl
theorem reduce_list {w : World} {dp un : Nat} {gd : Option (List Code)} {cn : Str} {cs : Scope} {a : Addr} {ccd : Value} {cl : List (Str × Addr)} {outer : List Env}
    {A₀ : Around} {base h₀ : Heap} {L : Addr} {m mg mb : Str → Option Value} {loose : List Str} {mean : ExcName → Option Value} {rest tl : List (Addr × Obj)} {s : Shared}
    {dd : Nat} {led : List (Addr × Obj)} {f : Addr} {g : Int → Int → Int} {ok : Int → Int → Prop} {z : Int} {d : Addr} {vs : List Value} {ns : List Int} {k : Nat} {u : Tok} {Q E : Value → Shared → Prop}
    (B : Below A₀ base outer h₀) (F : Fr h₀ L s.heap m) (X : (Mine.hd.heap_39 w.params).In h₀) (N : News h₀ L s.heap (rest ++ tl)) (T : Top topProg loose mean mg mb h₀)
    (hk : cs.kind = .function) (hd : dp + dd + 2 < 1000) (hr : NT rest) (ht : TabsOk Ts tl) (hf : Fn2 PySem.Challenge.rw_xi0012_03.row.prog w (Mine.hd.heap_39 w.params) dd led f g ok) (hled : ∀ p ∈ led, p ∈ rest) (hdm : (d, PySem.W.listOf vs.toArray k) ∈ rest) (hi : IntsAre vs ns) (hl2 : ns.length ≤ 1000)
    (hok : ∀ i, i < ns.length → ok ((ns.take i).foldl g z) (ns.getD i 0))
    (hret : ∀ tk h' tk' tl', Fr h₀ L h' m → News h₀ L h' (rest ++ tl') → TabsOk Ts tl' → Q (.int (ns.foldl g z) tk) { s with heap := h', toks := tk' }) :
    wpAny (model PySem.Challenge.rw_xi0012_03.row.prog w) (ktrTop dp un gd cn cs L a ccd cl outer) (call (.ref 65) [.ref f, .ref d, .int z u]) Q E s := by
  revert X; k_fill; intro X
  refine wpAny_call ?_
  k_dflt (refine' code_def ?k1 ?k2 ?k3 ?k4 ?k5 ?kA ?kF ?kK ?k6 ?k7 ?k8 ?k9 ?kB ?_ ?c2 ?c3 ?c4 ?c5; (case kA => exact rfl); (case kF => exact rfl); (case kK => assumption); (case k1 => k_asm); (case k2 => k_asm); (case k3 => k_asm); (case k4 => k_asm); (case k5 => k_asm); (case k6 => k_is); (case k7 => k_is); (case k8 => ktr_room); (case k9 => first | exact BindsTo.of_eq rfl | exact binds_K (by k_in) rfl (by k_is) rfl rfl rfl); (case c5 => decide); (case kB => exact locs rfl); (case c2 => exact rfl); (case c3 => exact rfl); (case c4 => exact rfl); k_whole; intro g' L' h' FG' F' N' B' X' T'; (try dsimp only); (try k_fold))
  k_steps
  all_goals try dsimp only
  rename_i I9 hz1 l1 hz2 hz3 lF N9
  k_dflt (refine' loop_listit (RedJ f g z ns rest) ?b1 hi ?b2 ?b9 ?b10 ?b3 ?b4 ?b5 ?b6 ?b7 ?b8 ?_ ?_; (case b1 => rfl); (case b6 => k_asm); (case b7 => k_asm); (case b2 => k_mem); (case b9 => exact rfl); (case b10 => exact rfl); (case b3 => (refine' Sel.hit (Sel.base (ne_above l1 (Nat.le_refl _))))); (case b4 => k_mem))
  case b8 =>
    refine' ⟨tl, u, rfl, ht, ?bp⟩
    refine' List.forall_mem_cons.mpr ⟨rfl, List.forall_mem_cons.mpr ⟨rfl, List.forall_mem_nil _⟩⟩
  case b5 =>
    rintro i m nx ⟨tl', tv, rfl, _⟩
    exact memL hdm
  · intro i t9 m₁ news₁ h1 tk1 itO hin ⟨tl', tv, e1, ht1, hps⟩ hoff hkI F1 N1
    subst e1
    replace F1 := kstB_frX F1 hps
    have hoki := hok i hin
    have hstep := foldl_take (g := g) (z := z) (d := 0) hin
    obtain ⟨V, hV⟩ : ∃ V, List.foldl g z (List.take i ns) = V := ⟨_, rfl⟩
    rw [hV] at F1 hoki hstep
    have fa1 : FnAt f h1 := hf.fnat F1 X' N1 (fun p hp => .tail _ (memL (hled p hp)))
    have hoff' : ∀ p ∈ rest, p.1 ≠ I9 := fun p hp => hoff p (memL hp)
    k_steps
    all_goals try dsimp only
    k_dflt (refine' hf.out (rest := (I9, itO) :: rest) (tl := tl') ?c1 ?c2 ?c3 ?c4 ?c5 ?c6 ?c7 (NT.cons (tabby_of_tlk hkI) hr) ?c8 (fun p hp => .tail _ (hled p hp)) hoki ?_; (case c1 => k_asm); (case c2 => k_asm); (case c3 => k_asm); (case c4 => exact N1); (case c5 => k_asm); (case c6 => exact rfl); (case c7 => ktr_room); (case c8 => assumption))
    intro h2 tk2 tkk2 tl2 F2 N2 ht2
    k_steps
    all_goals try dsimp only
    refine' TurnPost.next ?e1 ?e2 ?e3 ?e4
    case e1 => k_asm
    case e2 => (refine' Pick.news ?g1 ?g2; (case g2 => k_asm); (case g1 => ktr_rel))
    case e3 =>
      refine' off_all ?m1 ht2 ?m2 ?m3 hkI hoff'
      case m1 => k_asm
      case m2 => ktr_rel
      case m3 => exact .head _
    case e4 =>
      refine' ⟨tl2, tk2, rfl, ht2, ?e5⟩
      rw [hstep]
      exact List.forall_mem_cons.mpr ⟨rfl, List.forall_mem_cons.mpr ⟨rfl, List.forall_mem_nil _⟩⟩
  · intro h1 tk1 m₁ news₁ ⟨tl', tv, e1, ht1, hps⟩ F1 N1
    subst e1
    rw [List.take_length] at hps
    replace F1 := kstB_fr F1 hps
    k_steps
    all_goals try dsimp only
    refine' hret _ _ _ _ ?r1F ?r1N ?r1T
    case r1F => k_asm
    case r1N => k_asm
    case r1T => assumption
theorem fn2_add {w : World} : Fn2 PySem.Challenge.rw_xi0012_03.row.prog w (Mine.hd.heap_39 w.params) 1 [] 72 (fun x y => x + y) (fun _ _ => True) where
  fnat F X N _ := ⟨_, _, _, _, F.keep _ _ (X 72 _ (by with_unfolding_all rfl))⟩
  out B F X N T hk hd hr ht hled hok hret := add_spec B F X N T hk hd (fun h' tk tk' F' N' => hret h' tk tk' _ F' N' ht)
theorem fn2_mul {w : World} : Fn2 PySem.Challenge.rw_xi0012_03.row.prog w (Mine.hd.heap_39 w.params) 1 [] 79 (fun x y => x * y) IntMulOk where
  fnat F X N _ := ⟨_, _, _, _, F.keep _ _ (X 79 _ (by with_unfolding_all rfl))⟩
  out B F X N T hk hd hr ht hled hok hret := mul_spec B F X N T hk hd hok (fun h' tk tk' F' N' => hret h' tk tk' _ F' N' ht)
end
section
local macro_rules | `(tactic| walk_at "no key 3") => `(tactic| fail)
local macro_rules | `(tactic| walk_at "no key 2") => `(tactic| fail)
local macro_rules | `(tactic| walk_at "no key 1") => `(tactic| fail)
local macro_rules | `(tactic| walk_at "no key 0") => `(tactic| fail)


local macro_rules | `(tactic| ktr_rel) => `(tactic| first | refine' TailOf.base | (refine' TailOf.cons ?t9; (case t9 => ktr_rel)))
local macro_rules | `(tactic| ktr_rel) => `(tactic| first | ((with_reducible refine' Sel.hit ?s9); (case s9 => ktr_rel)) | (refine' Sel.keep ?ne ?s9; (case ne => first | k_ne | (refine' ne_kind ?x1 ?x2 ?x3 ?x4; (case x1 => k_asm); (case x2 => k_mem); (case x3 => k_mem); (case x4 => with_unfolding_all rfl)) | fail "ne"); (case s9 => ktr_rel)) | (refine' Sel.base ?b9; (case b9 => (refine' off_all ?n1 ?n2 ?n3 ?n4 ?n5 ?n6; (case n1 => assumption); (case n2 => assumption); (case n3 => ktr_rel); (case n4 => k_mem); (case n5 => first | exact rfl | assumption | (refine' tlk_cell ?n7; (case n7 => assumption))); (case n6 => (refine' ne_above ?n8 ?n9; (case n8 => assumption); (case n9 => omega)))))))
local macro_rules | `(tactic| walk_at "storeName") => `(tactic| (k_here; k_dflt (refine' store_cell ?F ?N ?c ?m ?d ?S ?_ ?a ?b; (case a => rfl); (case b => rfl); (case F => k_asm); (case N => k_asm); (case c => rfl); (case m => k_mem); (case d => k_asm); (case S => ktr_rel); k_whole; intro h' o' F' N' d'; (try dsimp only at N'); (try k_sweep))))
local macro_rules | `(tactic| ktr_rel) => `(tactic| first | (refine' Spl.base ?b9; (case b9 => assumption)) | (refine' Spl.keep ?ta ?s9; (case ta => (first | exact rfl | assumption | (refine' tabby_cell ?b8; (case b8 => assumption)) | (refine' tabby_of_tlk ?b8; (case b8 => assumption)) | (refine' tabby_code ?b8 ?b7; (case b8 => assumption); (case b7 => assumption)) | fail "ta")); (case s9 => ktr_rel)) | (refine' Spl.drop ?s9; (case s9 => ktr_rel)))
local macro_rules | `(tactic| ktr_rel) => `(tactic| first | refine' Suf.base | (refine' Suf.cons ?t9; (case t9 => ktr_rel)))
local macro_rules | `(tactic| walk_at "callWith ref") => `(tactic| (k_here; k_dflt (first
  | (refine' callWith_F ?k1 ?_; (case k1 => exact FnAt.of (by k_asm) (by k_mem)); k_whole)
  | (refine' callWith_F0 ?k1 ?_; (case k1 => exact FnAt.of (by k_asm) (by k_mem)); k_whole; try dsimp only [List.nil_append, List.cons_append]))))
local macro_rules | `(tactic| walk_at "eval Name") => `(tactic| (k_here; k_dflt (refine' nameX_F ?N ?c ?m ?d ?_ ?a ?b; (case a => rfl); (case b => rfl); (case N => k_asm); (case c => rfl); (case m => k_mem); (case d => k_asm); k_whole)))
local macro_rules | `(tactic| k_all) => `(tactic| assumption)
local macro_rules | `(tactic| k_mem) => `(tactic| first | ((with_reducible refine' memL ?_); assumption) | ((with_reducible refine' memR ?_); assumption) | ((with_reducible refine' memI ?_); ktr_member) | fail "k_mem")
local macro_rules | `(tactic| walk_at "binaryOp RShift int int") => `(tactic| (k_here; (refine' rshift_eq ?n ?e ?_; (case n => first | decide | assumption | exact Int.natCast_nonneg _); (case e => assumption); k_whole)))
local macro_rules | `(tactic| walk_at "binaryOp Mult int int") => `(tactic| (k_here; (refine' mul_eq ?e ?n ?_; (case e => assumption); (case n => assumption); k_whole)))
local macro_rules | `(tactic| walk_at "binaryOp LShift int int") => `(tactic| (k_here; (refine' lshift_eq ?e ?n ?m ?_; (case e => assumption); (case n => first | decide | assumption | exact Int.natCast_nonneg _); (case m => assumption); k_whole)))
local macro_rules | `(tactic| walk_at "binaryOp BitXor int int") => `(tactic| (k_here; (refine' xor_eq ?e ?_; (case e => assumption); k_whole)))

local macro_rules | `(tactic| walk_at "call builtin:len") => `(tactic| (k_here; (with_reducible show wpAny _ _ (call (Value.builtin "len") [Value.ref _]) _ _ _); k_dflt (refine' len_list' ?kl1 ?kl2 ?kl3 ?kl4 ?_; (case kl1 => k_asm); (case kl2 => k_mem); (case kl3 => assumption); (case kl4 => first | omega | ((try simp only [List.length_replicate]); omega)); k_whole); (try simp only [List.length_replicate])))
local macro_rules | `(tactic| walk_at "truthy ref") => `(tactic| (k_here; (with_reducible show wpAny _ _ (truthy (Value.ref _)) _ _ _); k_dflt (refine' truthy_list ?kl1 ?kl2 ?kl3 ?kl4 ?_; (case kl1 => k_asm); (case kl2 => k_mem); (case kl3 => assumption); (case kl4 => omega); k_whole)))

local macro_rules | `(tactic| ktr_rel) => `(tactic| first | (refine' Pick.base ?pb9; (case pb9 => ktr_rel)) | (refine' Pick.cons ?pm9 ?pr9; (case pm9 => k_mem); (case pr9 => ktr_rel)) | fail "pick")
local macro_rules | `(tactic| walk_at "call builtin:list.append") => `(tactic| (k_here; k_dflt (show wpAny _ _ (call (Value.builtin _) [Value.ref _, _]) _ _ _); k_dflt (refine' append_my ?ap1 ?ap2 ?ap3 ?ap4 ?ap5 ?_; (case ap1 => k_asm); (case ap2 => k_asm); (case ap3 => k_mem); (case ap4 => ktr_rel); (case ap5 => omega); k_whole); intro h' F' N'))
local macro_rules | `(tactic| walk_at "call builtin:list.reverse") => `(tactic| (k_here; k_dflt (show wpAny _ _ (call (Value.builtin _) [Value.ref _]) _ _ _); k_dflt (refine' reverse_my ?ap1 ?ap2 ?ap3 ?ap4 ?ap5 ?_; (case ap1 => k_asm); (case ap2 => k_asm); (case ap3 => k_mem); (case ap4 => ktr_rel); (case ap5 => omega); k_whole); intro h' F' N'))
local macro_rules | `(tactic| walk_at "binaryOp Add int int") => `(tactic| (k_here; (refine' add_eq ?e ?_; (case e => assumption); k_whole)))
local macro_rules | `(tactic| walk_at "compareOp Is") => `(tactic| (k_here; (with_reducible show wpAny _ _ (compareOp CmpOp.Is (Value.int _ _) (Value.ref _)) _ _ _); k_dflt (refine' wpAny_is_other ?io1 ?io2 ?_; (case io1 => with_unfolding_all rfl); (case io2 => (intro x; cases x)); k_whole)))
section
variable {prog : Program} {w : World} {A : Around} {E : Value → Shared → Prop} {s : Shared} {h₀ : Heap} {L l : Addr} {m : Str → Option Value} {news : List (Addr × Obj)} {value slice : PySem.Expr} {vs : List Value} {ns : List Int} {vl vu : Value} {lo hi : Option Int} {x y : Int} {Q : Value → Shared → Prop}
theorem pick_up {H : Nat} (hy : y = H) : (slicePick vs.toArray none (some y) none).toList = vs.take H := by
  subst hy
  have e : sliceBounds none (some (H : Int)) none vs.toArray.size = (((0 : Nat) : Int), ((min H vs.toArray.size : Nat) : Int), 1) := by
    simp only [sliceBounds, Option.getD_none, show (1 : Int) > 0 by decide, if_true, if_neg (show ¬ ((H : Int) < 0) by omega)]
    congr 1
    congr 1
    omega
  rw [kmk_pick_nat _ e]
  show ((vs.drop 0).take (min H vs.toArray.size - 0)) = _
  rw [List.drop_zero, Nat.sub_zero, List.size_toArray, kmk_take_min]
theorem pick_from {H : Nat} (hx : x = H) : (slicePick vs.toArray (some x) none none).toList = vs.drop H := by
  subst hx
  have e : sliceBounds (some (H : Int)) none none vs.toArray.size = (((min H vs.toArray.size : Nat) : Int), ((vs.toArray.size : Nat) : Int), 1) := by
    simp only [sliceBounds, Option.getD_none, show (1 : Int) > 0 by decide, if_true, if_neg (show ¬ ((H : Int) < 0) by omega)]
    congr 1
    omega
  rw [kmk_pick_nat _ e]
  show ((vs.drop (min H vs.toArray.size)).take (vs.toArray.size - min H vs.toArray.size)) = _
  rw [List.size_toArray, kmk_drop_min, List.take_of_length_le (by rw [List.length_drop]; omega)]
theorem slice_up {H k : Nat} {t : Tok} (F : Fr h₀ L s.heap m) (N : News h₀ L s.heap news) (hm : (l, PySem.W.listOf vs.toArray k) ∈ news) (hi' : IntsAre vs ns) (hz : ns.length ≤ 1000000) (hy : y = H)
    (h : ∀ D h', Fr h₀ L h' m → News h₀ L h' ((D, PySem.W.listOf (vs.take H).toArray 0) :: news) → (∀ p ∈ news, p.1 < D) → Q (.ref D) { s with heap := h' })
    (hs : subscripted slice false (.ref l) (.ref s.heap.objs.size) = operate [.ref s.heap.objs.size, .ref l] (getItem (.ref l) (.ref s.heap.objs.size))) (ht : ∀ r, letTemporaryGo value (.ref l) r = pure ()) :
    wpAny (model prog w) A (subscriptTail value slice (.ref l) (.ref s.heap.objs.size)) Q E { s with heap := s.heap.push { cls := .type "slice", data := .fields #[.none, .int y t, .none] } } :=
  kmk_slice_lit F N ⟨_, (N _ hm).1, rfl, k, rfl⟩ IsPart.none (IsPart.int _ _) (pick_up hy) h hs ht (by rw [List.size_toArray, PySem.sizeLine_eq, hi'.length]; omega)
theorem slice_fr {H k : Nat} {t : Tok} (F : Fr h₀ L s.heap m) (N : News h₀ L s.heap news) (hm : (l, PySem.W.listOf vs.toArray k) ∈ news) (hi' : IntsAre vs ns) (hz : ns.length ≤ 1000000) (hy : y = H)
    (h : ∀ D h', Fr h₀ L h' m → News h₀ L h' ((D, PySem.W.listOf (vs.drop H).toArray 0) :: news) → (∀ p ∈ news, p.1 < D) → Q (.ref D) { s with heap := h' })
    (hs : subscripted slice false (.ref l) (.ref s.heap.objs.size) = operate [.ref s.heap.objs.size, .ref l] (getItem (.ref l) (.ref s.heap.objs.size))) (ht : ∀ r, letTemporaryGo value (.ref l) r = pure ()) :
    wpAny (model prog w) A (subscriptTail value slice (.ref l) (.ref s.heap.objs.size)) Q E { s with heap := s.heap.push { cls := .type "slice", data := .fields #[.int y t, .none, .none] } } :=
  kmk_slice_lit F N ⟨_, (N _ hm).1, rfl, k, rfl⟩ (IsPart.int _ _) IsPart.none (pick_from hy) h hs ht (by rw [List.size_toArray, PySem.sizeLine_eq, hi'.length]; omega)
end
section
variable {prog : Program} {w : World} {A : Around} {E : Value → Shared → Prop} {s : Shared} {h₀ : Heap} {L : Addr} {m : Str → Option Value} {news : List (Addr × Obj)} {Q : Value → Shared → Prop}
theorem max_my {a b : Int} {c d M : Nat} {t u : Tok} (hh : A.handled = none) (F : Fr h₀ L s.heap m) (N : News h₀ L s.heap news) (ha : a = c) (hb : b = d) (hM : max c d = M)
    (h : ∀ h' tk tk', Fr h₀ L h' m → News h₀ L h' news → Q (.int (M : Int) tk) { s with heap := h', toks := tk' }) : wpAny (model prog w) A (call (.builtin "max") [.int a t, .int b u]) Q E s := by
  refine max_two_N hh F N fun h' tk F' N' => ?_
  have e : (if b > a then b else a) = (M : Int) := by split <;> omega
  rw [e]
  exact h h' _ tk F' N'
theorem fdiv_eq {a b r : Int} {t u : Tok} (e : a.fdiv b = r) (hb : b ≠ 0) (hp : Builtin.divisionGoesByPylong a b = false) (h : Q (.int r s.toks) { s with toks := s.toks + 1 }) : wpAny (model prog w) A (binaryOp .FloorDiv (.int a t) (.int b u)) Q E s := by
  subst e; exact floordiv_int hb h (.inl hp)
end
local macro_rules | `(tactic| walk_at "call builtin:max") => `(tactic| (k_here; (with_reducible show wpAny _ _ (call (Value.builtin _) [Value.int _ _, Value.int _ _]) _ _ _); k_dflt (refine' max_my ?mx1 ?mx2 ?mx3 ?mx4 ?mx5 ?mx6 ?_; (case mx1 => exact rfl); (case mx2 => k_asm); (case mx3 => k_asm); (case mx4 => exact rfl); (case mx5 => exact rfl); (case mx6 => assumption); k_whole); intro h' tk tk' F' N'))
local macro_rules | `(tactic| walk_at "binaryOp FloorDiv int int") => `(tactic| (k_here; (refine' fdiv_eq ?fd1 ?fd2 ?fd3 ?_; (case fd1 => assumption); (case fd2 => decide); (case fd3 => assumption); k_whole)))
local macro_rules | `(tactic| walk_at "subscriptTail Name Slice ref ref") => `(tactic| (k_here; (with_reducible show wpAny _ _ (subscriptTail _ (PySem.Expr.Slice none (some _) none _) (Value.ref _) (Value.ref _)) _ _ _); k_dflt (refine' slice_up ?F ?N ?l ?p ?q ?i ?_ ?s ?t; (case F => k_asm); (case N => k_asm); (case l => k_mem); (case p => assumption); (case q => omega); (case i => exact rfl); (case s => with_unfolding_all rfl); (case t => kmk_pure); k_whole); intro D' h' F' N' l1))
local macro_rules | `(tactic| walk_at "subscriptTail Name Slice ref ref") => `(tactic| (k_here; (with_reducible show wpAny _ _ (subscriptTail _ (PySem.Expr.Slice (some _) none none _) (Value.ref _) (Value.ref _)) _ _ _); k_dflt (refine' slice_fr ?F ?N ?l ?p ?q ?i ?_ ?s ?t; (case F => k_asm); (case N => k_asm); (case l => k_mem); (case p => assumption); (case q => omega); (case i => exact rfl); (case s => with_unfolding_all rfl); (case t => kmk_pure); k_whole); intro D' h' F' N' l1))
local macro_rules | `(tactic| ktr_rel) => `(tactic| (refine' Sel.base ?b9; (case b9 => (refine' off_all ?n1 ?n2 ?n3 ?n4 ?n5 ?n6; (case n1 => assumption); (case n2 => assumption); (case n3 => ktr_rel); (case n4 => k_mem); (case n5 => exact rfl); (case n6 => assumption)))))
theorem ne_mem {l : List (Addr × Obj)} {a d : Addr} {o : Obj} (h : ∀ p ∈ l, p.1 < d) (m : (a, o) ∈ l) : d ≠ a := Nat.ne_of_gt (h _ m)
local macro_rules | `(tactic| ktr_rel) => `(tactic| (refine' Sel.keep ?ne ?s9; (case ne => (refine' ne_mem ?nq1 ?nq2; (case nq1 => assumption); (case nq2 => k_mem))); (case s9 => ktr_rel)))
theorem val_split (N H : Nat) (ns : List Int) : val N ns = val N (ns.take H) + val N (ns.drop H) * 2 ^ (N * H) := by
  by_cases h : H ≤ ns.length
  · have e := val_append N (ns.take H) (ns.drop H)
    rw [List.take_append_drop, List.length_take, Nat.min_eq_left h] at e
    rw [e]; omega
  · rw [List.take_of_length_le (by omega), List.drop_of_length_le (by omega)]
    simp [val]
theorem kar_sum (a0 a1 b0 b1 P : Int) : (a0 + a1 * P) * (b0 + b1 * P) = a0 * b0 + ((a0 + a1) * (b0 + b1) - a0 * b0 - a1 * b1) * P + a1 * b1 * (P * P) := by grind
theorem kar_cross (a0 a1 b0 b1 : Int) : (a0 + a1) * (b0 + b1) - a0 * b0 - a1 * b1 = a0 * b1 + a1 * b0 := by grind
theorem inR_take {N H : Nat} {ns : List Int} (h : InR N ns) : InR N (ns.take H) := fun d hd => h d (List.mem_of_mem_take hd)
theorem inR_drop {N H : Nat} {ns : List Int} (h : InR N ns) : InR N (ns.drop H) := fun d hd => h d (List.mem_of_mem_drop hd)
theorem val_lt {ns : List Int} (h : InR 8 ns) (hl : ns.length ≤ 128) : 0 ≤ val 8 ns ∧ val 8 ns < 2 ^ 1024 := by
  have hb := val_bounds 8 ns h
  refine ⟨hb.1, Int.lt_of_lt_of_le hb.2 ?_⟩
  exact_mod_cast Nat.pow_le_pow_right (by decide) (show 8 * ns.length ≤ 1024 by omega)
theorem bits_lt {a : Int} {k : Nat} (h0 : 0 ≤ a) (h : a < 2 ^ k) : Builtin.Int.intBits a ≤ k := by
  have e : a = (a.toNat : Int) := by omega
  rw [e]
  apply intBits_nat
  have : ((a.toNat : Nat) : Int) < ((2 ^ k : Nat) : Int) := by push_cast; omega
  exact_mod_cast this
theorem mul_lt {a b : Int} {j k : Nat} (ha : 0 ≤ a) (hb : 0 ≤ b) (h1 : a < 2 ^ j) (h2 : b < 2 ^ k) : 0 ≤ a * b ∧ a * b < 2 ^ (j + k) := by
  refine ⟨Int.mul_nonneg ha hb, ?_⟩
  rw [Int.pow_add]
  have hp : (0 : Int) < 2 ^ k := by exact_mod_cast Nat.pow_pos (n := k) (show 0 < 2 by decide)
  calc a * b ≤ a * 2 ^ k := Int.mul_le_mul_of_nonneg_left (Int.le_of_lt h2) ha
    _ < 2 ^ j * 2 ^ k := Int.mul_lt_mul_of_pos_right h1 hp
def TimesSpec (w : World) (dep : Nat) : Prop :=
  ∀ {dp un : Nat} {gd : Option (List Code)} {cn : Str} {cs : Scope} {a : Addr} {ccd : Value} {cl : List (Str × Addr)} {outer : List Env}
    {A₀ : Around} {base h₀ : Heap} {L : Addr} {m mg mb : Str → Option Value} {loose : List Str} {mean : ExcName → Option Value} {rest tl : List (Addr × Obj)} {s : Shared}
    {d e l : Addr} {vs us tv : List Value} {ns ms ts : List Int} {k k' kt : Nat} {Q E : Value → Shared → Prop},
    Below A₀ base outer h₀ → Fr h₀ L s.heap m → (Mine.hd.heap_39 w.params).In h₀ → News h₀ L s.heap ((l, PySem.W.listOf tv.toArray kt) :: (rest ++ tl)) → Top topProg loose mean mg mb h₀ →
    cs.kind = .function → dp + 30 + dep < 1000 → NT rest → TabsOk Ts tl → (d, PySem.W.listOf vs.toArray k) ∈ rest → (e, PySem.W.listOf us.toArray k') ∈ rest → (∀ p ∈ rest, p.1 ≠ l) → IntsAre vs ns → IntsAre us ms → IntsAre tv ts → InR 8 ns → InR 8 ms →
    ns.length ≤ 2 ^ dep → ms.length ≤ 2 ^ dep → dep ≤ 7 → ts.length + 2 ^ (dep + 1) ≤ 1000 →
    (∀ c h' tk tk' tv' ts' kt' tl', c ≤ 2 * max ns.length ms.length - 1 → IntsAre tv' ts' → ts'.length = ts.length + c → Fr h₀ L h' m → News h₀ L h' ((l, PySem.W.listOf tv'.toArray kt') :: (rest ++ tl')) → TabsOk Ts tl' → Q (.int (val 8 ns * val 8 ms) tk) { s with heap := h', toks := tk' }) →
    wpAny (model PySem.Challenge.rw_xi0012_03.row.prog w) (ktrTop dp un gd cn cs L a ccd cl outer) (call (.ref 93) [.ref d, .ref e, .ref l]) Q E s
theorem times_use {w : World} {dep : Nat} (S : TimesSpec w dep) {dp un : Nat} {gd : Option (List Code)} {cn : Str} {cs : Scope} {a : Addr} {ccd : Value} {cl : List (Str × Addr)} {outer : List Env}
    {A₀ : Around} {base h₀ : Heap} {L : Addr} {m mg mb : Str → Option Value} {loose : List Str} {mean : ExcName → Option Value} {news rest tl : List (Addr × Obj)} {s : Shared}
    {d e l : Addr} {vs us tv : List Value} {ns ms ts : List Int} {k k' kt : Nat} {Q E : Value → Shared → Prop}
    (B : Below A₀ base outer h₀) (F : Fr h₀ L s.heap m) (X : (Mine.hd.heap_39 w.params).In h₀) (N : News h₀ L s.heap news) (hlm : (l, PySem.W.listOf tv.toArray kt) ∈ news) (hsp : Spl news rest tl) (T : Top topProg loose mean mg mb h₀)
    (hk : cs.kind = .function) (hd : dp + 30 + dep < 1000) (ht : TabsOk Ts tl) (hdm : (d, PySem.W.listOf vs.toArray k) ∈ rest) (hem : (e, PySem.W.listOf us.toArray k') ∈ rest) (hl : ∀ p ∈ rest, p.1 ≠ l) (hvs : IntsAre vs ns) (hus : IntsAre us ms) (htv : IntsAre tv ts) (hns : InR 8 ns) (hms : InR 8 ms)
    (hn2 : ns.length ≤ 2 ^ dep) (hm2 : ms.length ≤ 2 ^ dep) (hdep : dep ≤ 7) (hts : ts.length + 2 ^ (dep + 1) ≤ 1000)
    (hret : ∀ c h' tk tk' tv' ts' kt' tl', c ≤ 2 * max ns.length ms.length - 1 → IntsAre tv' ts' → ts'.length = ts.length + c → Fr h₀ L h' m → News h₀ L h' ((l, PySem.W.listOf tv'.toArray kt') :: (rest ++ tl')) → TabsOk Ts tl' → Q (.int (val 8 ns * val 8 ms) tk) { s with heap := h', toks := tk' }) :
    wpAny (model PySem.Challenge.rw_xi0012_03.row.prog w) (ktrTop dp un gd cn cs L a ccd cl outer) (call (.ref 93) [.ref d, .ref e, .ref l]) Q E s :=
  S B F X (fun p hp => (List.mem_cons.mp hp).elim (fun q => q ▸ N _ hlm) (fun q => N _ (hsp.sub p q))) T hk hd hsp.nt ht hdm hem hl hvs hus htv hns hms hn2 hm2 hdep hts hret
theorem times_step {w : World} {dep : Nat} (ih : ∀ d₁ < dep, TimesSpec w d₁) : TimesSpec w dep := by
  intro dp un gd cn cs a ccd cl outer A₀ base h₀ L m mg mb loose mean rest tl s d e l vs us tv ns ms ts k k' kt Q E B F X N T hk hd hr ht hdm hem hl hvs hus htv hns hms hn2 hm2 hdep hts hret
  revert X; k_fill; intro X
  have hvl := hvs.length
  have hul := hus.length
  have htl := htv.length
  have h7 : 2 ^ dep ≤ 2 ^ 7 := Nat.pow_le_pow_right (by decide) hdep
  have hn128 : ns.length ≤ 128 := Nat.le_trans hn2 h7
  have hm128 : ms.length ≤ 128 := Nat.le_trans hm2 h7
  obtain ⟨M, hM⟩ : ∃ M, max ns.length ms.length = M := ⟨_, rfl⟩
  rw [hM] at hret
  have hH : Int.fdiv ((M : Int) + 1) 2 = (((M + 1) / 2 : Nat) : Int) := by rw [Int.fdiv_eq_ediv_of_nonneg _ (by omega)]; norm_cast
  have hP : Builtin.divisionGoesByPylong ((M : Int) + 1) 2 = false := PyProof.noPylong_of_log2 (by decide)
  obtain ⟨H, eH⟩ : ∃ H, (M + 1) / 2 = H := ⟨_, rfl⟩
  rw [eH] at hH
  by_cases hz : ns.length = 0 ∨ ms.length = 0
  · have hv0 : val 8 ns * val 8 ms = 0 := by
      rcases hz with hz | hz
      · rw [List.eq_nil_of_length_eq_zero hz]; simp [val]
      · rw [List.eq_nil_of_length_eq_zero hz]; simp [val]
    rw [hv0] at hret
    refine wpAny_call ?_
    k_dflt ktr_enter
    k_steps
    all_goals try dsimp only
    · refine' hret 0 _ _ _ _ _ _ _ ?za1 htv ?za2 ?za3 ?za4 ?za5
      case za1 => omega
      case za2 => omega
      case za3 => k_asm
      case za4 => k_asm
      case za5 => assumption
    · refine' hret 0 _ _ _ _ _ _ _ ?zb1 htv ?zb2 ?zb3 ?zb4 ?zb5
      case zb1 => omega
      case zb2 => omega
      case zb3 => k_asm
      case zb4 => k_asm
      case zb5 => assumption
    all_goals (exfalso; omega)
  by_cases h1 : M = 1
  · subst h1
    obtain ⟨x, rfl⟩ : ∃ x, ns = [x] := List.length_eq_one_iff.mp (by omega)
    obtain ⟨y, rfl⟩ : ∃ y, ms = [y] := List.length_eq_one_iff.mp (by omega)
    have hxy : IntMulOk x y := IntMulOk.of_left (by
      have := hns x (.head _)
      exact intBits_le_64 (by omega) (by omega))
    refine wpAny_call ?_
    k_dflt ktr_enter
    k_steps
    · exfalso; simp at *
    · exfalso; simp at *
    all_goals try dsimp only
    k_dflt (refine' mul_spec (x := x) (y := y) ?c1 ?c2 ?c3 ?c4 ?c5 ?c6 ?c7 hxy ?_; (case c1 => k_asm); (case c2 => k_asm); (case c3 => k_asm); (case c4 => k_asm); (case c5 => k_asm); (case c6 => exact rfl); (case c7 => ktr_room))
    intro h2 tk2 tkk2 F2 N2
    k_steps
    all_goals try dsimp only
    have hv1 : val 8 [x] * val 8 [y] = x * y := by simp [val]
    rw [hv1] at hret
    refine' hret 1 _ _ _ _ _ _ _ ?zc1 (IntsAre.append htv (.cons _ _ .nil)) ?zc2 ?zc3 ?zc4 ?zc5
    case zc1 => decide
    case zc2 => (rw [List.length_append]; rfl)
    case zc3 => k_asm
    case zc4 => k_asm
    case zc5 => assumption
  obtain ⟨dep, rfl⟩ : ∃ d₁, dep = d₁ + 1 := ⟨dep - 1, by
    rcases dep with _ | dep
    · rw [Nat.pow_zero] at hn2 hm2; omega
    · omega⟩
  have hpow : 2 ^ (dep + 1) = 2 * 2 ^ dep := by rw [Nat.pow_succ]; omega
  have hpow2 : 2 ^ (dep + 1 + 1) = 2 * (2 * 2 ^ dep) := by rw [Nat.pow_succ, hpow]; omega
  have htv1 := hvs.take H
  have htv2 := hvs.drop H
  have htu1 := hus.take H
  have htu2 := hus.drop H
  have hM2 : M ≤ 2 * 2 ^ dep := by omega
  have hHn : H ≤ 2 ^ dep := by omega
  have q1 : (ns.take H).length ≤ H := by rw [List.length_take]; omega
  have q2 : (ms.take H).length ≤ H := by rw [List.length_take]; omega
  have q3 : (ns.drop H).length ≤ M - H := by rw [List.length_drop]; omega
  have q4 : (ms.drop H).length ≤ M - H := by rw [List.length_drop]; omega
  obtain ⟨a00, a01⟩ := val_lt (inR_take (H := H) hns) (by omega)
  obtain ⟨a10, a11⟩ := val_lt (inR_drop (H := H) hns) (by omega)
  obtain ⟨b00, b01⟩ := val_lt (inR_take (H := H) hms) (by omega)
  obtain ⟨b10, b11⟩ := val_lt (inR_drop (H := H) hms) (by omega)
  rw [val_split 8 H ns, val_split 8 H ms, kar_sum] at hret
  obtain ⟨a0, ea0⟩ : ∃ a0, val 8 (ns.take H) = a0 := ⟨_, rfl⟩
  obtain ⟨a1, ea1⟩ : ∃ a1, val 8 (ns.drop H) = a1 := ⟨_, rfl⟩
  obtain ⟨b0, eb0⟩ : ∃ b0, val 8 (ms.take H) = b0 := ⟨_, rfl⟩
  obtain ⟨b1, eb1⟩ : ∃ b1, val 8 (ms.drop H) = b1 := ⟨_, rfl⟩
  rw [ea0, ea1, eb0, eb1] at hret
  rw [ea0] at a00 a01
  rw [ea1] at a10 a11
  rw [eb0] at b00 b01
  rw [eb1] at b10 b11
  have k1 : IntMulOk (a0 + a1) (b0 + b1) := IntMulOk.of_le (m := 1025) (n := 1025) (bits_lt (by omega) (by rw [Int.pow_succ]; omega)) (bits_lt (by omega) (by rw [Int.pow_succ]; omega)) (by decide)
  have k2 : (8 : Int) * (H : Int) = ((8 * H : Nat) : Int) := by norm_cast
  have k3 : (16 : Int) * (H : Int) = ((16 * H : Nat) : Int) := by norm_cast
  have k4 : IntMulOk 8 (H : Int) := IntMulOk.of_left (by decide)
  have k5 : IntMulOk 16 (H : Int) := IntMulOk.of_left (by decide)
  obtain ⟨X2, k6⟩ : ∃ X2, ((a0 + a1) * (b0 + b1) - a0 * b0 - a1 * b1) * 2 ^ Int.toNat ((8 * H : Nat) : Int) = X2 := ⟨_, rfl⟩
  obtain ⟨Y2, k7⟩ : ∃ Y2, a1 * b1 * 2 ^ Int.toNat ((16 * H : Nat) : Int) = Y2 := ⟨_, rfl⟩
  have k8 : (Builtin.Int.intBits ((a0 + a1) * (b0 + b1) - a0 * b0 - a1 * b1) : Int) + ((8 * H : Nat) : Int) ≤ 2 ^ 27 := by
    have : Builtin.Int.intBits ((a0 + a1) * (b0 + b1) - a0 * b0 - a1 * b1) ≤ 2049 := by
      rw [kar_cross]
      obtain ⟨c1, c2⟩ := mul_lt a00 b10 a01 b11
      obtain ⟨c3, c4⟩ := mul_lt a10 b00 a11 b01
      exact bits_lt (by omega) (by rw [Int.pow_succ]; omega)
    have e : (2 : Int) ^ 27 = 134217728 := by decide
    omega
  have k9 : (Builtin.Int.intBits (a1 * b1) : Int) + ((16 * H : Nat) : Int) ≤ 2 ^ 27 := by
    have : Builtin.Int.intBits (a1 * b1) ≤ 2048 := by
      obtain ⟨c1, c2⟩ := mul_lt a10 b10 a11 b11
      exact bits_lt c1 c2
    have e : (2 : Int) ^ 27 = 134217728 := by decide
    omega
  have k10 : ((2 : Int) ^ (8 * H) * 2 ^ (8 * H)) = 2 ^ (16 * H) := by rw [← Int.pow_add]; congr 1; omega
  rw [Int.toNat_natCast] at k6 k7
  rw [k10, k6, k7] at hret
  rw [← Int.toNat_natCast (8 * H)] at k6
  rw [← Int.toNat_natCast (16 * H)] at k7
  refine wpAny_call ?_
  k_dflt ktr_enter
  k_steps
  · exfalso; omega
  · exfalso; omega
  · exfalso; omega
  all_goals try dsimp only
  rename_i D1 hq1 Fq1 Nq1 lq1 D2 hq2 Fq2 Nq2 lq2
  have hof1 : ∀ p ∈ (D2, PySem.W.listOf (us.take H).toArray 0) :: (D1, PySem.W.listOf (vs.take H).toArray 0) :: rest, p.1 ≠ l :=
    List.forall_mem_cons.mpr ⟨Nat.ne_of_gt (lq2 _ (.tail _ (.head _))), List.forall_mem_cons.mpr ⟨Nat.ne_of_gt (lq1 _ (.head _)), hl⟩⟩
  k_dflt (refine' times_use (ih dep (Nat.lt_succ_self _)) (rest := (D2, PySem.W.listOf (us.take H).toArray 0) :: (D1, PySem.W.listOf (vs.take H).toArray 0) :: rest) (tl := tl) ?zd1 ?zd2 ?zd3 ?zd4 ?zd5 ?zd6 ?zd7 ?zd8 ?zd9 ht (.tail _ (.head _)) (.head _) hof1 htv1 htu1 htv (inR_take hns) (inR_take hms) ?zd10 ?zd11 ?zd12 ?zd13 ?_; (case zd1 => k_asm); (case zd2 => k_asm); (case zd3 => k_asm); (case zd4 => k_asm); (case zd5 => k_mem); (case zd6 => ktr_rel); (case zd7 => k_asm); (case zd8 => exact rfl); (case zd9 => ktr_room); (case zd10 => omega); (case zd11 => omega); (case zd12 => omega); (case zd13 => omega))
  rw [ea0, eb0]
  intro c1 hx1 tkx1 tkx2 tvx tsx ktx tlx hcx htx hlx Fx Nx htt
  simp only [List.cons_append] at Nx
  k_steps
  all_goals try dsimp only
  rename_i D3 hq3 Fq3 Nq3 lq3 D4 hq4 Fq4 Nq4 lq4
  have hof2 : ∀ p ∈ (D4, PySem.W.listOf (us.drop H).toArray 0) :: (D3, PySem.W.listOf (vs.drop H).toArray 0) :: rest, p.1 ≠ l :=
    List.forall_mem_cons.mpr ⟨Nat.ne_of_gt (lq4 _ (.tail _ (.head _))), List.forall_mem_cons.mpr ⟨Nat.ne_of_gt (lq3 _ (.head _)), hl⟩⟩
  have hD4 : @Ne Nat D4 l := hof2 _ (.head _)
  have hD3 : @Ne Nat D3 l := hof2 _ (.tail _ (.head _))
  k_dflt (refine' times_use (ih dep (Nat.lt_succ_self _)) (rest := (D4, PySem.W.listOf (us.drop H).toArray 0) :: (D3, PySem.W.listOf (vs.drop H).toArray 0) :: rest) (tl := tlx) ?ze1 ?ze2 ?ze3 ?ze4 ?ze5 ?ze6 ?ze7 ?ze8 ?ze9 htt (.tail _ (.head _)) (.head _) hof2 htv2 htu2 htx (inR_drop hns) (inR_drop hms) ?ze10 ?ze11 ?ze12 ?ze13 ?_; (case ze1 => k_asm); (case ze2 => k_asm); (case ze3 => k_asm); (case ze4 => k_asm); (case ze5 => k_mem); (case ze6 => ktr_rel); (case ze7 => k_asm); (case ze8 => exact rfl); (case ze9 => ktr_room); (case ze10 => omega); (case ze11 => omega); (case ze12 => omega); (case ze13 => omega))
  rw [ea1, eb1]
  intro c2 hy1 tky1 tky2 tvy tsy kty tly hcy hty hly Fy Ny htty
  simp only [List.cons_append] at Ny
  have hvyl := hty.length
  have hlh1 : tvy.length ≤ 1000000 := by omega
  k_steps
  all_goals try dsimp only
  k_dflt (refine' d2i_spec (N₁ := 8) ?zf11 ?zf12 ?zf13 (Spl.news ?zf15 ?zf14) ?zf16 ?zf17 ?zf18 (Spl.nt ?zf15) ?zf19 ?zf110 htv1 (inR_take hns) ?zf111 (by decide) ?zf112 ?_; (case zf11 => k_asm); (case zf12 => k_asm); (case zf13 => k_asm); (case zf14 => k_asm); (case zf15 => ktr_rel); (case zf16 => k_asm); (case zf17 => exact rfl); (case zf18 => ktr_room); (case zf19 => assumption); (case zf110 => k_mem); (case zf111 => exact rfl); (case zf112 => omega))
  rw [ea0]
  intro tkz1 hz1 tkkz1 tlz1 Fz1 Nz1 htz1
  simp only [List.cons_append] at Nz1
  k_steps
  all_goals try dsimp only
  k_dflt (refine' d2i_spec (N₁ := 8) ?zf21 ?zf22 ?zf23 (Spl.news ?zf25 ?zf24) ?zf26 ?zf27 ?zf28 (Spl.nt ?zf25) ?zf29 ?zf210 htv2 (inR_drop hns) ?zf211 (by decide) ?zf212 ?_; (case zf21 => k_asm); (case zf22 => k_asm); (case zf23 => k_asm); (case zf24 => k_asm); (case zf25 => ktr_rel); (case zf26 => k_asm); (case zf27 => exact rfl); (case zf28 => ktr_room); (case zf29 => assumption); (case zf210 => k_mem); (case zf211 => exact rfl); (case zf212 => omega))
  rw [ea1]
  intro tkz2 hz2 tkkz2 tlz2 Fz2 Nz2 htz2
  simp only [List.cons_append] at Nz2
  k_steps
  all_goals try dsimp only
  k_dflt (refine' add_spec (x := a0) (y := a1) ?zs21 ?zs22 ?zs23 ?zs24 ?zs25 ?zs26 ?zs27 ?_; (case zs21 => k_asm); (case zs22 => k_asm); (case zs23 => k_asm); (case zs24 => k_asm); (case zs25 => k_asm); (case zs26 => exact rfl); (case zs27 => ktr_room))
  intro hs2 tks2 tkks2 Fs2 Ns2
  k_steps
  all_goals try dsimp only
  k_dflt (refine' d2i_spec (N₁ := 8) ?zf31 ?zf32 ?zf33 (Spl.news ?zf35 ?zf34) ?zf36 ?zf37 ?zf38 (Spl.nt ?zf35) ?zf39 ?zf310 htu1 (inR_take hms) ?zf311 (by decide) ?zf312 ?_; (case zf31 => k_asm); (case zf32 => k_asm); (case zf33 => k_asm); (case zf34 => k_asm); (case zf35 => ktr_rel); (case zf36 => k_asm); (case zf37 => exact rfl); (case zf38 => ktr_room); (case zf39 => assumption); (case zf310 => k_mem); (case zf311 => exact rfl); (case zf312 => omega))
  rw [eb0]
  intro tkz3 hz3 tkkz3 tlz3 Fz3 Nz3 htz3
  simp only [List.cons_append] at Nz3
  k_steps
  all_goals try dsimp only
  k_dflt (refine' d2i_spec (N₁ := 8) ?zf41 ?zf42 ?zf43 (Spl.news ?zf45 ?zf44) ?zf46 ?zf47 ?zf48 (Spl.nt ?zf45) ?zf49 ?zf410 htu2 (inR_drop hms) ?zf411 (by decide) ?zf412 ?_; (case zf41 => k_asm); (case zf42 => k_asm); (case zf43 => k_asm); (case zf44 => k_asm); (case zf45 => ktr_rel); (case zf46 => k_asm); (case zf47 => exact rfl); (case zf48 => ktr_room); (case zf49 => assumption); (case zf410 => k_mem); (case zf411 => exact rfl); (case zf412 => omega))
  rw [eb1]
  intro tkz4 hz4 tkkz4 tlz4 Fz4 Nz4 htz4
  simp only [List.cons_append] at Nz4
  k_steps
  all_goals try dsimp only
  k_dflt (refine' add_spec (x := b0) (y := b1) ?zs41 ?zs42 ?zs43 ?zs44 ?zs45 ?zs46 ?zs47 ?_; (case zs41 => k_asm); (case zs42 => k_asm); (case zs43 => k_asm); (case zs44 => k_asm); (case zs45 => k_asm); (case zs46 => exact rfl); (case zs47 => ktr_room))
  intro hs4 tks4 tkks4 Fs4 Ns4
  k_steps
  all_goals try dsimp only
  k_dflt (refine' mul_spec (x := a0 + a1) (y := b0 + b1) ?zqa1 ?zqa2 ?zqa3 ?zqa4 ?zqa5 ?zqa6 ?zqa7 k1 ?_; (case zqa1 => k_asm); (case zqa2 => k_asm); (case zqa3 => k_asm); (case zqa4 => k_asm); (case zqa5 => k_asm); (case zqa6 => exact rfl); (case zqa7 => ktr_room))
  intro hqa tkqa tkkqa Fqa Nqa
  k_steps
  all_goals try dsimp only
  k_dflt (refine' sub_spec (y := a0 * b0) ?zqb1 ?zqb2 ?zqb3 ?zqb4 ?zqb5 ?zqb6 ?zqb7 ?_; (case zqb1 => k_asm); (case zqb2 => k_asm); (case zqb3 => k_asm); (case zqb4 => k_asm); (case zqb5 => k_asm); (case zqb6 => exact rfl); (case zqb7 => ktr_room))
  intro hqb tkqb tkkqb Fqb Nqb
  k_steps
  all_goals try dsimp only
  k_dflt (refine' sub_spec (y := a1 * b1) ?zqc1 ?zqc2 ?zqc3 ?zqc4 ?zqc5 ?zqc6 ?zqc7 ?_; (case zqc1 => k_asm); (case zqc2 => k_asm); (case zqc3 => k_asm); (case zqc4 => k_asm); (case zqc5 => k_asm); (case zqc6 => exact rfl); (case zqc7 => ktr_room))
  intro hqc tkqc tkkqc Fqc Nqc
  k_steps
  all_goals try dsimp only
  k_dflt (refine' add_spec (x := a0 * b0) (y := X2) ?zqd1 ?zqd2 ?zqd3 ?zqd4 ?zqd5 ?zqd6 ?zqd7 ?_; (case zqd1 => k_asm); (case zqd2 => k_asm); (case zqd3 => k_asm); (case zqd4 => k_asm); (case zqd5 => k_asm); (case zqd6 => exact rfl); (case zqd7 => ktr_room))
  intro hqd tkqd tkkqd Fqd Nqd
  k_steps
  all_goals try dsimp only
  k_dflt (refine' add_spec (x := a0 * b0 + X2) (y := Y2) ?zqe1 ?zqe2 ?zqe3 ?zqe4 ?zqe5 ?zqe6 ?zqe7 ?_; (case zqe1 => k_asm); (case zqe2 => k_asm); (case zqe3 => k_asm); (case zqe4 => k_asm); (case zqe5 => k_asm); (case zqe6 => exact rfl); (case zqe7 => ktr_room))
  intro hqe tkqe tkkqe Fqe Nqe
  k_steps
  all_goals try dsimp only
  refine' hret (c1 + c2 + 1) _ _ _ _ _ _ _ ?zr1 (IntsAre.append hty (.cons _ _ .nil)) ?zr2 ?zr3 ?zr4 ?zr5
  case zr1 => omega
  case zr2 => (rw [List.length_append, hly, hlx]; show _ + 1 = _; omega)
  case zr3 => k_asm
  case zr4 => (refine' Pick.news ?zra ?zrb; (case zrb => k_asm); (case zra => ktr_rel))
  case zr5 => assumption
theorem times_all {w : World} (dep : Nat) : TimesSpec w dep := by
  induction dep using Nat.strongRecOn with
  | _ dep ih => exact times_step ih
end
section


local macro_rules | `(tactic| ktr_rel) => `(tactic| first | refine' TailOf.base | (refine' TailOf.cons ?t9; (case t9 => ktr_rel)))
local macro_rules | `(tactic| ktr_rel) => `(tactic| first | ((with_reducible refine' Sel.hit ?s9); (case s9 => ktr_rel)) | (refine' Sel.keep ?ne ?s9; (case ne => first | k_ne | (refine' ne_kind ?x1 ?x2 ?x3 ?x4; (case x1 => k_asm); (case x2 => k_mem); (case x3 => k_mem); (case x4 => with_unfolding_all rfl)) | fail "ne"); (case s9 => ktr_rel)) | (refine' Sel.base ?b9; (case b9 => (refine' off_all ?n1 ?n2 ?n3 ?n4 ?n5 ?n6; (case n1 => assumption); (case n2 => assumption); (case n3 => ktr_rel); (case n4 => k_mem); (case n5 => first | exact rfl | assumption | (refine' tlk_cell ?n7; (case n7 => assumption))); (case n6 => (refine' ne_above ?n8 ?n9; (case n8 => assumption); (case n9 => omega)))))))
local macro_rules | `(tactic| walk_at "storeName") => `(tactic| (k_here; k_dflt (refine' store_cell ?F ?N ?c ?m ?d ?S ?_ ?a ?b; (case a => rfl); (case b => rfl); (case F => k_asm); (case N => k_asm); (case c => rfl); (case m => k_mem); (case d => k_asm); (case S => ktr_rel); k_whole; intro h' o' F' N' d'; (try dsimp only at N'); (try k_sweep))))
local macro_rules | `(tactic| ktr_rel) => `(tactic| first | (refine' Spl.base ?b9; (case b9 => assumption)) | (refine' Spl.keep ?ta ?s9; (case ta => (first | exact rfl | assumption | (refine' tabby_cell ?b8; (case b8 => assumption)) | (refine' tabby_of_tlk ?b8; (case b8 => assumption)) | (refine' tabby_code ?b8 ?b7; (case b8 => assumption); (case b7 => assumption)) | fail "ta")); (case s9 => ktr_rel)) | (refine' Spl.drop ?s9; (case s9 => ktr_rel)))
local macro_rules | `(tactic| ktr_rel) => `(tactic| first | refine' Suf.base | (refine' Suf.cons ?t9; (case t9 => ktr_rel)))
local macro_rules | `(tactic| walk_at "callWith ref") => `(tactic| (k_here; k_dflt (first
  | (refine' callWith_F ?k1 ?_; (case k1 => exact FnAt.of (by k_asm) (by k_mem)); k_whole)
  | (refine' callWith_F0 ?k1 ?_; (case k1 => exact FnAt.of (by k_asm) (by k_mem)); k_whole; try dsimp only [List.nil_append, List.cons_append]))))
local macro_rules | `(tactic| walk_at "eval Name") => `(tactic| (k_here; k_dflt (refine' nameX_F ?N ?c ?m ?d ?_ ?a ?b; (case a => rfl); (case b => rfl); (case N => k_asm); (case c => rfl); (case m => k_mem); (case d => k_asm); k_whole)))
local macro_rules | `(tactic| k_all) => `(tactic| assumption)
local macro_rules | `(tactic| k_mem) => `(tactic| first | ((with_reducible refine' memL ?_); assumption) | ((with_reducible refine' memR ?_); assumption) | ((with_reducible refine' memI ?_); ktr_member) | fail "k_mem")
local macro_rules | `(tactic| walk_at "binaryOp RShift int int") => `(tactic| (k_here; (refine' rshift_eq ?n ?e ?_; (case n => first | decide | assumption | exact Int.natCast_nonneg _); (case e => assumption); k_whole)))
local macro_rules | `(tactic| walk_at "binaryOp Mult int int") => `(tactic| (k_here; (refine' mul_eq ?e ?n ?_; (case e => assumption); (case n => assumption); k_whole)))
local macro_rules | `(tactic| walk_at "binaryOp LShift int int") => `(tactic| (k_here; (refine' lshift_eq ?e ?n ?m ?_; (case e => assumption); (case n => first | decide | assumption | exact Int.natCast_nonneg _); (case m => assumption); k_whole)))
local macro_rules | `(tactic| walk_at "binaryOp BitXor int int") => `(tactic| (k_here; (refine' xor_eq ?e ?_; (case e => assumption); k_whole)))

local macro_rules | `(tactic| walk_at "call builtin:len") => `(tactic| (k_here; (with_reducible show wpAny _ _ (call (Value.builtin "len") [Value.ref _]) _ _ _); k_dflt (refine' len_list' ?kl1 ?kl2 ?kl3 ?kl4 ?_; (case kl1 => k_asm); (case kl2 => k_mem); (case kl3 => assumption); (case kl4 => first | omega | ((try simp only [List.length_replicate]); omega)); k_whole); (try simp only [List.length_replicate])))
local macro_rules | `(tactic| walk_at "truthy ref") => `(tactic| (k_here; (with_reducible show wpAny _ _ (truthy (Value.ref _)) _ _ _); k_dflt (refine' truthy_list ?kl1 ?kl2 ?kl3 ?kl4 ?_; (case kl1 => k_asm); (case kl2 => k_mem); (case kl3 => assumption); (case kl4 => omega); k_whole)))

local macro_rules | `(tactic| ktr_rel) => `(tactic| first | (refine' Pick.base ?pb9; (case pb9 => ktr_rel)) | (refine' Pick.cons ?pm9 ?pr9; (case pm9 => k_mem); (case pr9 => ktr_rel)) | fail "pick")
local macro_rules | `(tactic| walk_at "call builtin:list.append") => `(tactic| (k_here; k_dflt (show wpAny _ _ (call (Value.builtin _) [Value.ref _, _]) _ _ _); k_dflt (refine' append_my ?ap1 ?ap2 ?ap3 ?ap4 ?ap5 ?_; (case ap1 => k_asm); (case ap2 => k_asm); (case ap3 => k_mem); (case ap4 => ktr_rel); (case ap5 => omega); k_whole); intro h' F' N'))
local macro_rules | `(tactic| walk_at "call builtin:list.reverse") => `(tactic| (k_here; k_dflt (show wpAny _ _ (call (Value.builtin _) [Value.ref _]) _ _ _); k_dflt (refine' reverse_my ?ap1 ?ap2 ?ap3 ?ap4 ?ap5 ?_; (case ap1 => k_asm); (case ap2 => k_asm); (case ap3 => k_mem); (case ap4 => ktr_rel); (case ap5 => omega); k_whole); intro h' F' N'))
local macro_rules | `(tactic| walk_at "binaryOp Add int int") => `(tactic| (k_here; (refine' add_eq ?e ?_; (case e => assumption); k_whole)))
local macro_rules | `(tactic| walk_at "compareOp Is") => `(tactic| (k_here; (with_reducible show wpAny _ _ (compareOp CmpOp.Is (Value.int _ _) (Value.ref _)) _ _ _); k_dflt (refine' wpAny_is_other ?io1 ?io2 ?_; (case io1 => with_unfolding_all rfl); (case io2 => (intro x; cases x)); k_whole)))
theorem dig_val {x : Int} {X : Nat} (ex : x = X) {len : Nat} (hlen : len = (Builtin.Int.intBits x + 8 - 1) / 8) : val 8 (digs 8 X len) = X := by
  apply val_digs
  by_cases h0 : x = 0
  · have : X = 0 := by omega
    rw [this]; exact Nat.pow_pos (by decide)
  · exact (len_pos ex h0 (by decide) hlen).2
theorem bits_abs (x : Int) : Builtin.Int.intBits (x.natAbs : Int) = Builtin.Int.intBits x := by unfold Builtin.Int.intBits; simp
theorem sgn_p {x y : Int} (h : (decide (x < 0) == decide (y < 0)) = true) : (1 : Int) * ((x.natAbs : Int) * (y.natAbs : Int)) = x * y := by
  have h' : (x < 0) ↔ (y < 0) := by simpa using h
  rw [Int.one_mul]
  by_cases c : x < 0
  · have c2 := h'.mp c
    rw [show (x.natAbs : Int) = -x by omega, show (y.natAbs : Int) = -y by omega, Int.neg_mul_neg]
  · have c2 : ¬ y < 0 := fun e => c (h'.mpr e)
    rw [show (x.natAbs : Int) = x by omega, show (y.natAbs : Int) = y by omega]
theorem sgn_n {x y : Int} (h : (decide (x < 0) == decide (y < 0)) = false) : ((0 : Int) - 1) * ((x.natAbs : Int) * (y.natAbs : Int)) = x * y := by
  have h' : ¬ ((x < 0) ↔ (y < 0)) := by simpa using h
  have e1 : ((0 : Int) - 1) = -1 := rfl
  rw [e1, Int.neg_mul, Int.one_mul]
  by_cases c : x < 0
  · have c2 : ¬ y < 0 := fun e => h' ⟨fun _ => e, fun _ => c⟩
    rw [show (x.natAbs : Int) = -x by omega, show (y.natAbs : Int) = y by omega, Int.neg_mul, Int.neg_neg]
  · have c2 : y < 0 := Classical.byContradiction fun e => h' ⟨fun q => absurd q c, fun q => absurd q e⟩
    rw [show (x.natAbs : Int) = x by omega, show (y.natAbs : Int) = -y by omega, Int.mul_neg, Int.neg_neg]
theorem product_spec {w : World} {dp un : Nat} {gd : Option (List Code)} {cn : Str} {cs : Scope} {a : Addr} {ccd : Value} {cl : List (Str × Addr)} {outer : List Env}
    {A₀ : Around} {base h₀ : Heap} {L : Addr} {m mg mb : Str → Option Value} {loose : List Str} {mean : ExcName → Option Value} {rest tl : List (Addr × Obj)} {s : Shared}
    {x y : Int} {lx ly : Nat} {t u : Tok} {Q E : Value → Shared → Prop}
    (B : Below A₀ base outer h₀) (F : Fr h₀ L s.heap m) (X : (Mine.hd.heap_39 w.params).In h₀) (N : News h₀ L s.heap (rest ++ tl)) (T : Top topProg loose mean mg mb h₀)
    (hk : cs.kind = .function) (hd : dp + 50 < 1000) (hr : NT rest) (ht : TabsOk Ts tl) (hlx : lx = (Builtin.Int.intBits x + 8 - 1) / 8) (hly : ly = (Builtin.Int.intBits y + 8 - 1) / 8) (hx2 : lx ≤ 128) (hy2 : ly ≤ 128)
    (hret : ∀ c q h' t1 t2 tk' tl', c ≤ 2 * max lx ly - 1 → Fr h₀ L h' m → News h₀ L h' ((q, { cls := .type "tuple", data := .seq #[.int (x * y) t1, .int (c : Nat) t2] }) :: (rest ++ tl')) → TabsOk Ts tl' → Q (.ref q) { s with heap := h', toks := tk' }) :
    wpAny (model PySem.Challenge.rw_xi0012_03.row.prog w) (ktrTop dp un gd cn cs L a ccd cl outer) (call (.ref 100) [.int x t, .int y u]) Q E s := by
  revert X; k_fill; intro X
  have hax : (if x < 0 then -x else x) = (x.natAbs : Int) := by split <;> omega
  have hay : (if y < 0 then -y else y) = (y.natAbs : Int) := by split <;> omega
  have hlx' : lx = (Builtin.Int.intBits (if x < 0 then -x else x) + 8 - 1) / 8 := by rw [hax, bits_abs, hlx]
  have hly' : ly = (Builtin.Int.intBits (if y < 0 then -y else y) + 8 - 1) / 8 := by rw [hay, bits_abs, hly]
  refine wpAny_call ?_
  k_dflt ktr_enter
  k_steps
  · try dsimp only
    rename_i lt hp2 lq1 hp3 Fp Np zt1 zt2
    k_dflt (refine' i2d_spec (X₁ := x.natAbs) (N₁ := 8) (len := lx) ?zpa1 ?zpa2 ?zpa3 (Spl.news ?zpa5 ?zpa4) ?zpa6 ?zpa7 ?zpa8 (Spl.nt ?zpa5) ?zpa9 hax rfl (by decide) (by decide) hlx' ?zpa10 ?_; (case zpa1 => k_asm); (case zpa2 => k_asm); (case zpa3 => k_asm); (case zpa4 => k_asm); (case zpa5 => ktr_rel); (case zpa6 => k_asm); (case zpa7 => exact rfl); (case zpa8 => ktr_room); (case zpa9 => assumption); (case zpa10 => omega))
    intro d1 h1 tk1 vs1 k1 tl1 F1 N1 ht1 hi1 hl1
    simp only [List.cons_append] at N1
    k_steps
    try dsimp only
    k_dflt (refine' i2d_spec (X₁ := y.natAbs) (N₁ := 8) (len := ly) ?zpb1 ?zpb2 ?zpb3 (Spl.news ?zpb5 ?zpb4) ?zpb6 ?zpb7 ?zpb8 (Spl.nt ?zpb5) ?zpb9 hay rfl (by decide) (by decide) hly' ?zpb10 ?_; (case zpb1 => k_asm); (case zpb2 => k_asm); (case zpb3 => k_asm); (case zpb4 => k_asm); (case zpb5 => ktr_rel); (case zpb6 => k_asm); (case zpb7 => exact rfl); (case zpb8 => ktr_room); (case zpb9 => assumption); (case zpb10 => omega))
    intro d2 h2 tk2 vs2 k2 tl2 F2 N2 ht2 hi2 hl2
    simp only [List.cons_append] at N2
    k_steps
    try dsimp only
    have hofp : ∀ p ∈ (d2, PySem.W.listOf vs2.toArray k2) :: (d1, PySem.W.listOf vs1.toArray k1) :: rest, p.1 ≠ lt :=
      List.forall_mem_cons.mpr ⟨Nat.ne_of_gt (hl2 _ (.tail _ (.head _))), List.forall_mem_cons.mpr ⟨Nat.ne_of_gt (hl1 _ (.head _)), fun p hp => Nat.ne_of_lt (lq1 p (memL hp))⟩⟩
    k_dflt (refine' times_use (times_all 7) (tv := []) (rest := (d2, PySem.W.listOf vs2.toArray k2) :: (d1, PySem.W.listOf vs1.toArray k1) :: rest) (tl := tl2) ?zpc1 ?zpc2 ?zpc3 ?zpc4 ?zpc5 ?zpc6 ?zpc7 ?zpc8 ?zpc9 ht2 (.tail _ (.head _)) (.head _) hofp hi1 hi2 .nil (digs_inR _ _ _) (digs_inR _ _ _) ?zpc10 ?zpc11 ?zpc12 ?zpc13 ?_; (case zpc1 => k_asm); (case zpc2 => k_asm); (case zpc3 => k_asm); (case zpc4 => k_asm); (case zpc5 => k_mem); (case zpc6 => ktr_rel); (case zpc7 => k_asm); (case zpc8 => exact rfl); (case zpc9 => ktr_room); (case zpc10 => (rw [digs_length]; omega)); (case zpc11 => (rw [digs_length]; omega)); (case zpc12 => omega); (case zpc13 => decide))
    rw [dig_val hax hlx', dig_val hay hly']
    intro c1 h3 tk3 tkk3 tv3 ts3 kt3 tl3 hc3 hi3 hlen3 F3 N3 ht3
    simp only [List.cons_append] at N3
    have htv3 := hi3.length
    rw [digs_length, digs_length] at hc3
    have hlen4 : ts3.length = c1 := by rw [hlen3]; exact Nat.zero_add _
    k_steps
    try dsimp only
    k_dflt (refine' mul_spec (x := (1 : Int)) (y := (x.natAbs : Int) * (y.natAbs : Int)) ?zpd1 ?zpd2 ?zpd3 ?zpd4 ?zpd5 ?zpd6 ?zpd7 (IntMulOk.of_left (by decide)) ?_; (case zpd1 => k_asm); (case zpd2 => k_asm); (case zpd3 => k_asm); (case zpd4 => k_asm); (case zpd5 => k_asm); (case zpd6 => exact rfl); (case zpd7 => ktr_room))
    intro h4 tk4 tkk4 F4 N4
    k_steps
    try dsimp only
    have hmp : (1 : Int) * ((x.natAbs : Int) * (y.natAbs : Int)) = x * y := sgn_p (by assumption)
    rw [← hmp] at hret
    refine' hret ts3.length _ _ _ _ _ _ ?zpr1 ?zpr2 ?zpr3 ?zpr4
    case zpr1 => omega
    case zpr2 => k_asm
    case zpr3 => (refine' Pick.news ?zpra ?zprb; (case zprb => k_asm); (case zpra => ktr_rel))
    case zpr4 => assumption
  · try dsimp only
    rename_i lt hp2 lq1 hp3 Fp Np zt1 zt2
    k_dflt (refine' i2d_spec (X₁ := x.natAbs) (N₁ := 8) (len := lx) ?zna1 ?zna2 ?zna3 (Spl.news ?zna5 ?zna4) ?zna6 ?zna7 ?zna8 (Spl.nt ?zna5) ?zna9 hax rfl (by decide) (by decide) hlx' ?zna10 ?_; (case zna1 => k_asm); (case zna2 => k_asm); (case zna3 => k_asm); (case zna4 => k_asm); (case zna5 => ktr_rel); (case zna6 => k_asm); (case zna7 => exact rfl); (case zna8 => ktr_room); (case zna9 => assumption); (case zna10 => omega))
    intro d1 h1 tk1 vs1 k1 tl1 F1 N1 ht1 hi1 hl1
    simp only [List.cons_append] at N1
    k_steps
    try dsimp only
    k_dflt (refine' i2d_spec (X₁ := y.natAbs) (N₁ := 8) (len := ly) ?znb1 ?znb2 ?znb3 (Spl.news ?znb5 ?znb4) ?znb6 ?znb7 ?znb8 (Spl.nt ?znb5) ?znb9 hay rfl (by decide) (by decide) hly' ?znb10 ?_; (case znb1 => k_asm); (case znb2 => k_asm); (case znb3 => k_asm); (case znb4 => k_asm); (case znb5 => ktr_rel); (case znb6 => k_asm); (case znb7 => exact rfl); (case znb8 => ktr_room); (case znb9 => assumption); (case znb10 => omega))
    intro d2 h2 tk2 vs2 k2 tl2 F2 N2 ht2 hi2 hl2
    simp only [List.cons_append] at N2
    k_steps
    try dsimp only
    have hofn : ∀ p ∈ (d2, PySem.W.listOf vs2.toArray k2) :: (d1, PySem.W.listOf vs1.toArray k1) :: rest, p.1 ≠ lt :=
      List.forall_mem_cons.mpr ⟨Nat.ne_of_gt (hl2 _ (.tail _ (.head _))), List.forall_mem_cons.mpr ⟨Nat.ne_of_gt (hl1 _ (.head _)), fun p hp => Nat.ne_of_lt (lq1 p (memL hp))⟩⟩
    k_dflt (refine' times_use (times_all 7) (tv := []) (rest := (d2, PySem.W.listOf vs2.toArray k2) :: (d1, PySem.W.listOf vs1.toArray k1) :: rest) (tl := tl2) ?znc1 ?znc2 ?znc3 ?znc4 ?znc5 ?znc6 ?znc7 ?znc8 ?znc9 ht2 (.tail _ (.head _)) (.head _) hofn hi1 hi2 .nil (digs_inR _ _ _) (digs_inR _ _ _) ?znc10 ?znc11 ?znc12 ?znc13 ?_; (case znc1 => k_asm); (case znc2 => k_asm); (case znc3 => k_asm); (case znc4 => k_asm); (case znc5 => k_mem); (case znc6 => ktr_rel); (case znc7 => k_asm); (case znc8 => exact rfl); (case znc9 => ktr_room); (case znc10 => (rw [digs_length]; omega)); (case znc11 => (rw [digs_length]; omega)); (case znc12 => omega); (case znc13 => decide))
    rw [dig_val hax hlx', dig_val hay hly']
    intro c1 h3 tk3 tkk3 tv3 ts3 kt3 tl3 hc3 hi3 hlen3 F3 N3 ht3
    simp only [List.cons_append] at N3
    have htv3 := hi3.length
    rw [digs_length, digs_length] at hc3
    have hlen4 : ts3.length = c1 := by rw [hlen3]; exact Nat.zero_add _
    k_steps
    try dsimp only
    k_dflt (refine' mul_spec (x := ((0 : Int) - 1)) (y := (x.natAbs : Int) * (y.natAbs : Int)) ?znd1 ?znd2 ?znd3 ?znd4 ?znd5 ?znd6 ?znd7 (IntMulOk.of_left (by decide)) ?_; (case znd1 => k_asm); (case znd2 => k_asm); (case znd3 => k_asm); (case znd4 => k_asm); (case znd5 => k_asm); (case znd6 => exact rfl); (case znd7 => ktr_room))
    intro h4 tk4 tkk4 F4 N4
    k_steps
    try dsimp only
    have hmn : ((0 : Int) - 1) * ((x.natAbs : Int) * (y.natAbs : Int)) = x * y := sgn_n (by assumption)
    rw [← hmn] at hret
    refine' hret ts3.length _ _ _ _ _ _ ?znr1 ?znr2 ?znr3 ?znr4
    case znr1 => omega
    case znr2 => k_asm
    case znr3 => (refine' Pick.news ?znra ?znrb; (case znrb => k_asm); (case znra => ktr_rel))
    case znr4 => assumption
end
section
local macro_rules | `(tactic| walk_at "no key 2") => `(tactic| fail)
local macro_rules | `(tactic| walk_at "no key 1") => `(tactic| fail)
local macro_rules | `(tactic| walk_at "no key 0") => `(tactic| fail)


local macro_rules | `(tactic| ktr_rel) => `(tactic| first | refine' TailOf.base | (refine' TailOf.cons ?t9; (case t9 => ktr_rel)))
local macro_rules | `(tactic| ktr_rel) => `(tactic| first | ((with_reducible refine' Sel.hit ?s9); (case s9 => ktr_rel)) | (refine' Sel.keep ?ne ?s9; (case ne => first | k_ne | (refine' ne_kind ?x1 ?x2 ?x3 ?x4; (case x1 => k_asm); (case x2 => k_mem); (case x3 => k_mem); (case x4 => with_unfolding_all rfl)) | fail "ne"); (case s9 => ktr_rel)) | (refine' Sel.base ?b9; (case b9 => (refine' off_all ?n1 ?n2 ?n3 ?n4 ?n5 ?n6; (case n1 => assumption); (case n2 => assumption); (case n3 => ktr_rel); (case n4 => k_mem); (case n5 => first | exact rfl | assumption | (refine' tlk_cell ?n7; (case n7 => assumption))); (case n6 => (refine' ne_above ?n8 ?n9; (case n8 => assumption); (case n9 => omega)))))))
local macro_rules | `(tactic| walk_at "storeName") => `(tactic| (k_here; k_dflt (refine' store_cell ?F ?N ?c ?m ?d ?S ?_ ?a ?b; (case a => rfl); (case b => rfl); (case F => k_asm); (case N => k_asm); (case c => rfl); (case m => k_mem); (case d => k_asm); (case S => ktr_rel); k_whole; intro h' o' F' N' d'; (try dsimp only at N'); (try k_sweep))))
local macro_rules | `(tactic| ktr_rel) => `(tactic| first | (refine' Spl.base ?b9; (case b9 => assumption)) | (refine' Spl.keep ?ta ?s9; (case ta => (first | exact rfl | assumption | (refine' tabby_cell ?b8; (case b8 => assumption)) | (refine' tabby_of_tlk ?b8; (case b8 => assumption)) | (refine' tabby_code ?b8 ?b7; (case b8 => assumption); (case b7 => assumption)) | fail "ta")); (case s9 => ktr_rel)) | (refine' Spl.drop ?s9; (case s9 => ktr_rel)))
local macro_rules | `(tactic| ktr_rel) => `(tactic| first | refine' Suf.base | (refine' Suf.cons ?t9; (case t9 => ktr_rel)))
local macro_rules | `(tactic| walk_at "callWith ref") => `(tactic| (k_here; k_dflt (first
  | (refine' callWith_F ?k1 ?_; (case k1 => exact FnAt.of (by k_asm) (by k_mem)); k_whole)
  | (refine' callWith_F0 ?k1 ?_; (case k1 => exact FnAt.of (by k_asm) (by k_mem)); k_whole; try dsimp only [List.nil_append, List.cons_append]))))
local macro_rules | `(tactic| walk_at "eval Name") => `(tactic| (k_here; k_dflt (refine' nameX_F ?N ?c ?m ?d ?_ ?a ?b; (case a => rfl); (case b => rfl); (case N => k_asm); (case c => rfl); (case m => k_mem); (case d => k_asm); k_whole)))
local macro_rules | `(tactic| k_all) => `(tactic| assumption)
local macro_rules | `(tactic| k_mem) => `(tactic| first | ((with_reducible refine' memL ?_); assumption) | ((with_reducible refine' memR ?_); assumption) | ((with_reducible refine' memI ?_); ktr_member) | fail "k_mem")
local macro_rules | `(tactic| walk_at "binaryOp RShift int int") => `(tactic| (k_here; (refine' rshift_eq ?n ?e ?_; (case n => first | decide | assumption | exact Int.natCast_nonneg _); (case e => assumption); k_whole)))
local macro_rules | `(tactic| walk_at "binaryOp Mult int int") => `(tactic| (k_here; (refine' mul_eq ?e ?n ?_; (case e => assumption); (case n => assumption); k_whole)))
local macro_rules | `(tactic| walk_at "binaryOp LShift int int") => `(tactic| (k_here; (refine' lshift_eq ?e ?n ?m ?_; (case e => assumption); (case n => first | decide | assumption | exact Int.natCast_nonneg _); (case m => assumption); k_whole)))
local macro_rules | `(tactic| walk_at "binaryOp BitXor int int") => `(tactic| (k_here; (refine' xor_eq ?e ?_; (case e => assumption); k_whole)))

local macro_rules | `(tactic| walk_at "call builtin:len") => `(tactic| (k_here; (with_reducible show wpAny _ _ (call (Value.builtin "len") [Value.ref _]) _ _ _); k_dflt (refine' len_list' ?kl1 ?kl2 ?kl3 ?kl4 ?_; (case kl1 => k_asm); (case kl2 => k_mem); (case kl3 => assumption); (case kl4 => first | omega | ((try simp only [List.length_replicate]); omega)); k_whole); (try simp only [List.length_replicate])))
local macro_rules | `(tactic| walk_at "truthy ref") => `(tactic| (k_here; (with_reducible show wpAny _ _ (truthy (Value.ref _)) _ _ _); k_dflt (refine' truthy_list ?kl1 ?kl2 ?kl3 ?kl4 ?_; (case kl1 => k_asm); (case kl2 => k_mem); (case kl3 => assumption); (case kl4 => omega); k_whole)))

local macro_rules | `(tactic| ktr_rel) => `(tactic| first | (refine' Pick.base ?pb9; (case pb9 => ktr_rel)) | (refine' Pick.cons ?pm9 ?pr9; (case pm9 => k_mem); (case pr9 => ktr_rel)) | fail "pick")
local macro_rules | `(tactic| walk_at "call builtin:list.append") => `(tactic| (k_here; k_dflt (show wpAny _ _ (call (Value.builtin _) [Value.ref _, _]) _ _ _); k_dflt (refine' append_my ?ap1 ?ap2 ?ap3 ?ap4 ?ap5 ?_; (case ap1 => k_asm); (case ap2 => k_asm); (case ap3 => k_mem); (case ap4 => ktr_rel); (case ap5 => omega); k_whole); intro h' F' N'))
local macro_rules | `(tactic| walk_at "call builtin:list.reverse") => `(tactic| (k_here; k_dflt (show wpAny _ _ (call (Value.builtin _) [Value.ref _]) _ _ _); k_dflt (refine' reverse_my ?ap1 ?ap2 ?ap3 ?ap4 ?ap5 ?_; (case ap1 => k_asm); (case ap2 => k_asm); (case ap3 => k_mem); (case ap4 => ktr_rel); (case ap5 => omega); k_whole); intro h' F' N'))
local macro_rules | `(tactic| walk_at "binaryOp Add int int") => `(tactic| (k_here; (refine' add_eq ?e ?_; (case e => assumption); k_whole)))
local macro_rules | `(tactic| walk_at "compareOp Is") => `(tactic| (k_here; (with_reducible show wpAny _ _ (compareOp CmpOp.Is (Value.int _ _) (Value.ref _)) _ _ _); k_dflt (refine' wpAny_is_other ?io1 ?io2 ?_; (case io1 => with_unfolding_all rfl); (case io2 => (intro x; cases x)); k_whole)))
section
variable {prog : Program} {w : World} {A : Around} {E : Value → Shared → Prop} {s : Shared} {env : Env} {h₀ : Heap} {x : Str} {body : List Stmt} {Q : Flow → Shared → Prop}
/-- for x in range(..), any step -/
theorem loop_rangeS {r : Addr} {a₀ b₀ c₀ : Int} {t₀ u₀ v₀ : Tok} {n : Nat} {m₀ : Str → Option Value} {news : List (Addr × Obj)} (J : Nat → (Str → Option Value) → List (Addr × Obj) → Prop)
    (hh : A.handled = none) (hr : IsRange s.heap r a₀ b₀ c₀ t₀ u₀ v₀) (hsmall : Builtin.Range.small a₀ b₀ c₀ = true) (hn : Builtin.Range.rangeSize a₀ b₀ c₀ = (n : Int)) (F : Fr h₀ env.locals s.heap m₀) (N : News h₀ env.locals s.heap news) (hj : J 0 m₀ news)
    (turn : ∀ i t m₁ news₁ h tk I itO, i < n → J i m₁ news₁ → (∀ p ∈ news, p.1 < I) → (∀ p ∈ news₁, p.1 ≠ I) → tlk itO = false → Fr h₀ env.locals h (fun y => if y = x then some (.int (a₀ + (i : Int) * c₀) t) else m₁ y) → News h₀ env.locals h ((I, itO) :: news₁) →
      wpAny (model prog w) A (execs body env) (TurnPost h₀ env.locals I itO (J (i + 1)) { s with heap := h, toks := tk } Q) E { s with heap := h, toks := tk })
    (done : ∀ h tk m₁ news₁, J n m₁ news₁ → Fr h₀ env.locals h m₁ → News h₀ env.locals h news₁ → Q .next { s with heap := h, toks := tk }) :
    wpAny (model prog w) A (pyIter (.ref r)) (fun it s₂ => LoopAtV prog w A h₀ env x body Q E it s₂) E s := by
  refine wpAny_pyIter_range hr hsmall ?_
  have W : Walks prog w A s.heap.objs.size [s.heap.objs.size] [s.heap.objs.size] n (fun i v => i < n ∧ ∃ t, v = .int (a₀ + i * c₀) t)
      (fun i h => IsRangeIter h s.heap.objs.size (a₀ + (i : Nat) * c₀) ((n : Int) - (i : Nat)) c₀) := (Walks.range hh _ a₀ c₀ n).bound
  refine loop_gen J W (.head _) ?_ ?_ ?_ (next_is_new F) (fun p hp e => absurd (Heap.lt_size (N p hp).1) (e ▸ Nat.lt_irrefl _)) (by show IsRangeIter _ _ _ _ _; rw [hn]; simpa using Heap.get?_push_size _ rfl) (F.push _) (fun p hp => ⟨Heap.get?_push_of_some _ (N p hp).1, (N p hp).2⟩) hj ?_ done
  · intro b hb
    exact .inl (List.mem_singleton.mp hb)
  · intro i h hst
    exact ⟨_, hst, rfl⟩
  · intro hm
    exact absurd F.ns.lt ((List.mem_singleton.mp hm) ▸ Nat.lt_irrefl _)
  · rintro i v m₁ news₁ h tk itO hin ⟨_, t, rfl⟩ hJ hoff hk F₁ N₁
    exact turn i t m₁ news₁ h tk _ itO hin hJ (fun p hp => Heap.lt_size (N p hp).1) hoff hk F₁ N₁

end
theorem rsize_two (n : Nat) : Builtin.Range.rangeSize 1 (n : Int) 2 = ((n / 2 : Nat) : Int) := by
  unfold Builtin.Range.rangeSize
  rw [if_pos (by decide)]
  split <;> omega
theorem small_two0 : ∀ n : Nat, n < 101 → Builtin.Range.small 1 (n : Int) 2 = true := by decide +kernel
theorem small_two {n : Nat} (h : n ≤ 100) : Builtin.Range.small 1 (n : Int) 2 = true := small_two0 n (by omega)
theorem product_my {w : World} {dp un : Nat} {gd : Option (List Code)} {cn : Str} {cs : Scope} {a : Addr} {ccd : Value} {cl : List (Str × Addr)} {outer : List Env}
    {A₀ : Around} {base h₀ : Heap} {L : Addr} {m mg mb : Str → Option Value} {loose : List Str} {mean : ExcName → Option Value} {rest tl : List (Addr × Obj)} {s : Shared}
    {x y p : Int} {t u : Tok} {Q E : Value → Shared → Prop}
    (B : Below A₀ base outer h₀) (F : Fr h₀ L s.heap m) (X : (Mine.hd.heap_39 w.params).In h₀) (N : News h₀ L s.heap (rest ++ tl)) (T : Top topProg loose mean mg mb h₀)
    (hk : cs.kind = .function) (hd : dp + 50 < 1000) (hr : NT rest) (ht : TabsOk Ts tl) (hx2 : Builtin.Int.intBits x ≤ 1000) (hy2 : Builtin.Int.intBits y ≤ 1000) (hp : x * y = p)
    (hret : ∀ (c : Nat) q h' t1 t2 tk' tl', c ≤ 2 * max ((Builtin.Int.intBits x + 8 - 1) / 8) ((Builtin.Int.intBits y + 8 - 1) / 8) - 1 → Fr h₀ L h' m → News h₀ L h' ((q, { cls := .type "tuple", data := .seq #[.int p t1, .int (c : Nat) t2] }) :: (rest ++ tl')) → TabsOk Ts tl' → Q (.ref q) { s with heap := h', toks := tk' }) :
    wpAny (model PySem.Challenge.rw_xi0012_03.row.prog w) (ktrTop dp un gd cn cs L a ccd cl outer) (call (.ref 100) [.int x t, .int y u]) Q E s := by
  subst hp
  exact product_spec B F X N T hk hd hr ht rfl rfl (by omega) (by omega) hret
theorem mul_my {w : World} {dp un : Nat} {gd : Option (List Code)} {cn : Str} {cs : Scope} {a : Addr} {ccd : Value} {cl : List (Str × Addr)} {outer : List Env}
    {A₀ : Around} {base h₀ : Heap} {L : Addr} {m mg mb : Str → Option Value} {loose : List Str} {mean : ExcName → Option Value} {news : List (Addr × Obj)} {s : Shared}
    {x y p : Int} {t u : Tok} {Q E : Value → Shared → Prop}
    (B : Below A₀ base outer h₀) (F : Fr h₀ L s.heap m) (X : (Mine.hd.heap_39 w.params).In h₀) (N : News h₀ L s.heap news) (T : Top topProg loose mean mg mb h₀)
    (hk : cs.kind = .function) (hd : dp + 1 < 1000) (hx2 : Builtin.Int.intBits x ≤ 1000) (hy2 : Builtin.Int.intBits y ≤ 1000) (hp : x * y = p)
    (hret : ∀ h' tk tk', Fr h₀ L h' m → News h₀ L h' news → Q (.int p tk) { s with heap := h', toks := tk' }) :
    wpAny (model PySem.Challenge.rw_xi0012_03.row.prog w) (ktrTop dp un gd cn cs L a ccd cl outer) (call (.ref 79) [.int x t, .int y u]) Q E s := by
  subst hp
  exact mul_spec B F X N T hk hd (IntMulOk.of_le hx2 hy2 (by decide)) hret
/-- what the law lays out of a number of the script's -/
def rowf (k : Int) : Int := if 0 ≤ k then Int.fmod (if k < 0 then -k else k) (1 * 2 ^ Int.toNat 240) * 1 else Int.fmod (if k < 0 then -k else k) (1 * 2 ^ Int.toNat 240) * (0 - 1)
theorem rowf_bits (k : Int) : Builtin.Int.intBits (rowf k) ≤ 240 := by
  have h : ∀ z : Int, Builtin.Int.intBits (Int.fmod z (1 * 2 ^ Int.toNat 240)) ≤ 240 := fun z => by
    rw [Int.one_mul]
    refine bits_lt (k := 240) (Int.fmod_nonneg_of_pos _ (by decide)) (Int.fmod_lt_of_pos _ (by decide))
  unfold rowf
  split
  · rw [Int.mul_one]; exact h _
  · rw [show ((0 : Int) - 1) = -1 from rfl, Int.mul_neg, Int.mul_one]
    have e : ∀ z : Int, Builtin.Int.intBits (-z) = Builtin.Int.intBits z := fun z => by unfold Builtin.Int.intBits; simp
    rw [e]; exact h _
theorem tabs0 : TabsOk Ts [(37, tabObj #[]), (30, tabObj #[]), (102, tabObj #[])] := by
  refine ⟨fun p hp => ?_, fun T hT => ?_⟩
  · simp only [List.mem_cons, List.not_mem_nil, or_false] at hp
    rcases hp with rfl | rfl | rfl <;> rfl
  · simp only [Ts, List.mem_cons, List.not_mem_nil, or_false] at hT
    rcases hT with rfl | rfl | rfl
    · exact ⟨#[], .tail _ (.head _), .inl rfl⟩
    · exact ⟨#[], .head _, .inl rfl⟩
    · exact ⟨#[], .tail _ (.tail _ (.head _)), .inl rfl⟩
theorem row_facts {ys : List Value} {ns : List Int} (h : IntsAre ys (List.map (fun k' : Int => if 0 ≤ k' then Int.fmod (if k' < 0 then -k' else k') (1 * 2 ^ Int.toNat 240) * 1 else Int.fmod (if k' < 0 then -k' else k') (1 * 2 ^ Int.toNat 240) * (0 - 1)) (ns.take 8))) :
    ∃ R, List.map (fun k' : Int => if 0 ≤ k' then Int.fmod (if k' < 0 then -k' else k') (1 * 2 ^ Int.toNat 240) * 1 else Int.fmod (if k' < 0 then -k' else k') (1 * 2 ^ Int.toNat 240) * (0 - 1)) (ns.take 8) = R ∧ IntsAre ys R ∧ R.length ≤ 8 ∧ ∀ x ∈ R, Builtin.Int.intBits x ≤ 240 := by
  refine ⟨_, rfl, h, by rw [List.length_map, List.length_take]; omega, fun x hx => ?_⟩
  obtain ⟨k, _, rfl⟩ := List.mem_map.mp hx
  exact rowf_bits k
def RowJ (D c : Addr) (ys : List Value) (oc : Obj) (_ : Nat) (_ : Str → Option Value) (nx : List (Addr × Obj)) : Prop :=
  ∃ tl', nx = (D, PySem.W.listOf ys.toArray ys.length) :: (c, oc) :: tl' ∧ TabsOk Ts tl'
theorem law_up (cn : Str) (cs : Scope) (L a : Addr) (ccd : Value) : ∃ dp un gd, dp < 400 ∧ un + 64 < cLine ∧ callerA.deeper (envOfC cn cs L a ccd) = ktrTop dp un gd cn cs L a ccd (cellsFrom (L + 1) cs.names []) [] :=
  ⟨callerA.depth + 1, _, _, by decide, by decide +kernel, rfl⟩
theorem units_ok {dp un : Nat} {gd : Option (List Code)} {cn : Str} {cs : Scope} {L a : Addr} {ccd : Value} {cl : List (Str × Addr)} {outer : List Env} (h : un + 64 < cLine) : (ktrTop dp un gd cn cs L a ccd cl outer).units + 64 < cLine := h
theorem getD_bits {R : List Int} (h : ∀ x ∈ R, Builtin.Int.intBits x ≤ 240) (j : Nat) : Builtin.Int.intBits (R.getD j 0) ≤ 240 := by
  rw [List.getD_eq_getElem?_getD]
  cases e : R[j]? with
  | none => decide
  | some v => exact h v (List.mem_of_getElem? e)
theorem bits_mul (x y : Int) : Builtin.Int.intBits (x * y) ≤ Builtin.Int.intBits x + Builtin.Int.intBits y := intBits_mul_le (Nat.le_refl _) (Nat.le_refl _)
theorem bits_div {x y P : Int} (hP : x * y = P) (hx : x ≠ 0) (by' : Builtin.Int.intBits y ≤ 240) : (Builtin.Int.intBits P + Builtin.Int.intBits x - 1) / Builtin.Int.intBits x ≤ 256 := by
  have h := bits_mul x y
  rw [hP] at h
  have h0 : 0 < Builtin.Int.intBits x := by
    rcases Nat.eq_zero_or_pos (Builtin.Int.intBits x) with e | e
    · have := (intBits_le_iff (x := x) (m := 0)).mp (Nat.le_of_eq e)
      simp at this
      omega
    · exact e
  refine Nat.div_le_of_le_mul ?_
  have : Builtin.Int.intBits x * 256 ≥ 256 := by omega
  omega
theorem Spl.base0 {tl : List (Addr × Obj)} : Spl tl [] tl := Spl.base (rest := []) NT.nil
theorem foldl_keep (z : List Int) : ∀ ns : List Int, List.foldl (fun (l : List Int) (_ : Int) => l) z ns = z
  | [] => rfl
  | _ :: r => foldl_keep z r
theorem len_of {vs : List Value} {N X l : Nat} (_ : IntsAre vs (digs N X l)) (hl : l ≤ 256) : (digs N X l).length ≤ 1000000 := by rw [digs_length]; omega
theorem TailOf.base0 {tl : List (Addr × Obj)} : TailOf tl tl := TailOf.base (rest := [])
theorem lam_fn2 {M : World → Model} {w : World} {A : Around} {E : Value → Shared → Prop} {s : Shared} {h₀ : Heap} {L a c : Addr} {m mg mb : Str → Option Value} {cn : Str} {cs : Scope} {ccd : Value} {cl : List (Str × Addr)} {news rest tl : List (Addr × Obj)}
    {p : Program} {loose : List Str} {mean : ExcName → Option Value} {name qual : Str} {params : Arguments} {scope : Scope} {pos : Pos} {firstLine : Nat} {clos : List (Str × Addr)} {Q : Value → Shared → Prop} {body : Expr} {dd : Nat} {g : Int → Int → Int} {ok : Int → Int → Prop}
    (T : TS) (hu : TsOk Ts) (hT : T ∈ Ts) (F : Fr h₀ L s.heap m) (N : News h₀ L s.heap news) (hs : Spl news rest tl) (ht : TabsOk Ts tl) (Tp : Top p loose mean mg mb h₀) (C : CodeHd h₀ c T.P) (hcd : ccd = .ref c)
    (hl : T.line = pos.line) (hc : T.col = pos.col) (hq : T.qual = qual) (hcl : closureFor scope (envX cn cs L a ccd cl) = pure clos)
    (hfn : ∀ f c' oc vs t ctv, oc.data = .fields vs → vs[1]? = some (.str qual t) → Fn2 PySem.Challenge.rw_xi0012_03.row.prog w (Mine.hd.heap_39 w.params) dd [(f, kla_obj name qual params body scope clos ((mg "__name__").getD .none) c' ctv), (c', oc)] f g ok)
    (h : ∀ f lo c' oc h' tk tl', Fr h₀ L h' m → News h₀ L h' ((f, lo) :: (c', oc) :: (rest ++ tl')) → TabsOk Ts tl' → Fn2 PySem.Challenge.rw_xi0012_03.row.prog w (Mine.hd.heap_39 w.params) dd [(f, lo), (c', oc)] f g ok → tabby lo = false → tabby oc = false → FnAt f h' → (∀ q ∈ rest, q.1 < f) → Q (.ref f) { s with heap := h', toks := tk }) :
    wpAny (M w) A (makeFunction name qual params (.expr body) scope (envX cn cs L a ccd cl) [] [] [] pos firstLine) Q E s := by
  refine lam_any T hT hu F (hs.news N) hs.nt ht Tp C hcd hl hc hq hcl fun f c' oc vs t ctv h' tk tl' F' N' ht' hc' hd hv l1 => ?_
  refine h f _ c' oc h' tk tl' F' (newsSub N' fun p hp => ?_) ht' (hfn f c' oc vs t ctv hd hv) rfl (tabby_code hd hv) (FnAt.of N' (.head _)) l1
  rcases List.mem_cons.mp hp with rfl | hp
  · exact .head _
  · rcases List.mem_cons.mp hp with rfl | hp
    · exact .tail _ (List.mem_append_right _ hc')
    · exact .tail _ hp
theorem fold_bits : ∀ (ns : List Int) (z : Int), (∀ x ∈ ns, Builtin.Int.intBits x ≤ 240) → Builtin.Int.intBits (ns.foldl (fun x y => x * y) z) ≤ Builtin.Int.intBits z + 240 * ns.length
  | [], z, _ => by simp
  | x :: r, z, h => by
    have h1 := fold_bits r (z * x) fun y hy => h y (.tail _ hy)
    have h2 := bits_mul z x
    have h3 := h x (.head _)
    rw [List.foldl_cons, List.length_cons]
    omega
theorem fold_ok {ns : List Int} (h : ∀ x ∈ ns, Builtin.Int.intBits x ≤ 240) (i : Nat) : Builtin.Int.intBits ((ns.take i).foldl (fun x y => x * y) 1) ≤ 1 + 240 * ns.length ∧ Builtin.Int.intBits (ns.getD i 0) ≤ 240 := by
  refine ⟨?_, getD_bits h i⟩
  have h1 := fold_bits (ns.take i) 1 fun x hx => h x (List.mem_of_mem_take hx)
  have h2 : Builtin.Int.intBits 1 = 1 := by decide
  rw [h2] at h1
  have h3 : (ns.take i).length ≤ ns.length := by rw [List.length_take]; omega
  have h4 : 240 * (ns.take i).length ≤ 240 * ns.length := Nat.mul_le_mul_left _ h3
  omega
theorem fold_all : ∀ (ns : List Int) (z : Int), ns.foldl (fun x y => x * y) z = z * ns.foldl (fun x y => x * y) 1
  | [], z => by simp
  | x :: r, z => by
    rw [List.foldl_cons, List.foldl_cons, fold_all r (z * x), fold_all r (1 * x), Int.one_mul, Int.mul_assoc]
theorem fold_rev : ∀ ns : List Int, ns.reverse.foldl (fun x y => x * y) 1 = ns.foldl (fun x y => x * y) 1
  | [] => rfl
  | x :: r => by
    rw [List.reverse_cons, List.foldl_append, fold_rev r, List.foldl_cons, List.foldl_cons, fold_all r (1 * x), List.foldl_nil, Int.one_mul, Int.mul_comm]
theorem back_eq (R : List Int) : List.map (fun k' : Int => R.getD (Int.toNat ((R.length : Int) - 1 - k')) 0) (rangeKs 0 (Int.toNat ((R.length : Int) - 0))) = R.reverse := by
  apply List.ext_getElem?
  intro i
  unfold rangeKs
  rw [List.map_map, List.getElem?_map]
  have e0 : Int.toNat ((R.length : Int) - 0) = R.length := by omega
  rw [e0]
  by_cases h : i < R.length
  · rw [List.getElem?_range h, List.getElem?_reverse h]
    simp only [Option.map_some, Function.comp]
    have e1 : Int.toNat ((R.length : Int) - 1 - (0 + (i : Int))) = R.length - 1 - i := by omega
    rw [e1, List.getD_eq_getElem?_getD, List.getElem?_eq_getElem (by omega)]
    rfl
  · rw [List.getElem?_eq_none (by rw [List.length_range]; omega), List.getElem?_eq_none (by rw [List.length_reverse]; omega)]
    rfl
theorem fold_ok1 {ns : List Int} (h : ∀ x ∈ ns, Builtin.Int.intBits x ≤ 240) (hl : ns.length ≤ 4) : ∀ i, i < ns.length → Builtin.Int.intBits ((ns.take i).foldl (fun x y => x * y) 1) ≤ 1000 ∧ Builtin.Int.intBits (ns.getD i 0) ≤ 1000 := fun i _ => by
  have := fold_ok h i
  omega
theorem fold_ok2 {ns : List Int} (h : ∀ x ∈ ns, Builtin.Int.intBits x ≤ 240) (hl : ns.length ≤ 8) : ∀ i, i < ns.length → IntMulOk ((ns.take i).foldl (fun x y => x * y) 1) (ns.getD i 0) := fun i _ => by
  have := fold_ok h i
  exact IntMulOk.of_le (m := 2000) (n := 1000) (by omega) (by omega) (by decide)
theorem grown_my {h₀ h : Heap} {L : Addr} {news tl : List (Addr × Obj)} (N : News h₀ L h news) (ht : TabsOk Ts tl) (hs : TailOf tl news) : GrownAll [(41, 37), (34, 30), (104, 102)] h := by
  have H : ∀ T ∈ Ts, GrownAt T.P h := fun T hT => by
    obtain ⟨ps, hp, _⟩ := ht.2 T hT
    exact GrownAt.of N (hs.sub _ hp)
  exact ⟨H T2 (.tail _ (.head _)), H T1 (.head _), H T3 (.tail _ (.tail _ (.head _))), trivial⟩
end
section
local macro_rules | `(tactic| walk_at "no key 1") => `(tactic| fail)
local macro_rules | `(tactic| walk_at "no key 0") => `(tactic| fail)


local macro_rules | `(tactic| ktr_rel) => `(tactic| first | refine' TailOf.base | (refine' TailOf.cons ?t9; (case t9 => ktr_rel)))
local macro_rules | `(tactic| ktr_rel) => `(tactic| first | ((with_reducible refine' Sel.hit ?s9); (case s9 => ktr_rel)) | (refine' Sel.keep ?ne ?s9; (case ne => first | k_ne | (refine' ne_kind ?x1 ?x2 ?x3 ?x4; (case x1 => k_asm); (case x2 => k_mem); (case x3 => k_mem); (case x4 => with_unfolding_all rfl)) | fail "ne"); (case s9 => ktr_rel)) | (refine' Sel.base ?b9; (case b9 => (refine' off_all ?n1 ?n2 ?n3 ?n4 ?n5 ?n6; (case n1 => assumption); (case n2 => assumption); (case n3 => ktr_rel); (case n4 => k_mem); (case n5 => first | exact rfl | assumption | (refine' tlk_cell ?n7; (case n7 => assumption))); (case n6 => (refine' ne_above ?n8 ?n9; (case n8 => assumption); (case n9 => omega)))))))
local macro_rules | `(tactic| walk_at "storeName") => `(tactic| (k_here; k_dflt (refine' store_cell ?F ?N ?c ?m ?d ?S ?_ ?a ?b; (case a => rfl); (case b => rfl); (case F => k_asm); (case N => k_asm); (case c => rfl); (case m => k_mem); (case d => k_asm); (case S => ktr_rel); k_whole; intro h' o' F' N' d'; (try dsimp only at N'); (try k_sweep))))
local macro_rules | `(tactic| ktr_rel) => `(tactic| first | (refine' Spl.base ?b9; (case b9 => assumption)) | (refine' Spl.keep ?ta ?s9; (case ta => (first | exact rfl | assumption | (refine' tabby_cell ?b8; (case b8 => assumption)) | (refine' tabby_of_tlk ?b8; (case b8 => assumption)) | (refine' tabby_code ?b8 ?b7; (case b8 => assumption); (case b7 => assumption)) | fail "ta")); (case s9 => ktr_rel)) | (refine' Spl.drop ?s9; (case s9 => ktr_rel)))
local macro_rules | `(tactic| ktr_rel) => `(tactic| first | refine' Suf.base | (refine' Suf.cons ?t9; (case t9 => ktr_rel)))
local macro_rules | `(tactic| walk_at "callWith ref") => `(tactic| (k_here; k_dflt (first
  | (refine' callWith_F ?k1 ?_; (case k1 => exact FnAt.of (by k_asm) (by k_mem)); k_whole)
  | (refine' callWith_F0 ?k1 ?_; (case k1 => exact FnAt.of (by k_asm) (by k_mem)); k_whole; try dsimp only [List.nil_append, List.cons_append]))))
local macro_rules | `(tactic| walk_at "eval Name") => `(tactic| (k_here; k_dflt (refine' nameX_F ?N ?c ?m ?d ?_ ?a ?b; (case a => rfl); (case b => rfl); (case N => k_asm); (case c => rfl); (case m => k_mem); (case d => k_asm); k_whole)))
local macro_rules | `(tactic| k_all) => `(tactic| assumption)
local macro_rules | `(tactic| k_mem) => `(tactic| first | ((with_reducible refine' memL ?_); assumption) | ((with_reducible refine' memR ?_); assumption) | ((with_reducible refine' memI ?_); ktr_member) | fail "k_mem")
local macro_rules | `(tactic| walk_at "binaryOp RShift int int") => `(tactic| (k_here; (refine' rshift_eq ?n ?e ?_; (case n => first | decide | assumption | exact Int.natCast_nonneg _); (case e => assumption); k_whole)))
local macro_rules | `(tactic| walk_at "binaryOp Mult int int") => `(tactic| (k_here; (refine' mul_eq ?e ?n ?_; (case e => assumption); (case n => assumption); k_whole)))
local macro_rules | `(tactic| walk_at "binaryOp LShift int int") => `(tactic| (k_here; (refine' lshift_eq ?e ?n ?m ?_; (case e => assumption); (case n => first | decide | assumption | exact Int.natCast_nonneg _); (case m => assumption); k_whole)))
local macro_rules | `(tactic| walk_at "binaryOp BitXor int int") => `(tactic| (k_here; (refine' xor_eq ?e ?_; (case e => assumption); k_whole)))

local macro_rules | `(tactic| walk_at "call builtin:len") => `(tactic| (k_here; (with_reducible show wpAny _ _ (call (Value.builtin "len") [Value.ref _]) _ _ _); k_dflt (refine' len_list' ?kl1 ?kl2 ?kl3 ?kl4 ?_; (case kl1 => k_asm); (case kl2 => k_mem); (case kl3 => assumption); (case kl4 => first | omega | ((try simp only [List.length_replicate]); omega)); k_whole); (try simp only [List.length_replicate])))
local macro_rules | `(tactic| walk_at "truthy ref") => `(tactic| (k_here; (with_reducible show wpAny _ _ (truthy (Value.ref _)) _ _ _); k_dflt (refine' truthy_list ?kl1 ?kl2 ?kl3 ?kl4 ?_; (case kl1 => k_asm); (case kl2 => k_mem); (case kl3 => assumption); (case kl4 => omega); k_whole)))

local macro_rules | `(tactic| ktr_rel) => `(tactic| first | (refine' Pick.base ?pb9; (case pb9 => ktr_rel)) | (refine' Pick.cons ?pm9 ?pr9; (case pm9 => k_mem); (case pr9 => ktr_rel)) | fail "pick")
local macro_rules | `(tactic| walk_at "call builtin:list.append") => `(tactic| (k_here; k_dflt (show wpAny _ _ (call (Value.builtin _) [Value.ref _, _]) _ _ _); k_dflt (refine' append_my ?ap1 ?ap2 ?ap3 ?ap4 ?ap5 ?_; (case ap1 => k_asm); (case ap2 => k_asm); (case ap3 => k_mem); (case ap4 => ktr_rel); (case ap5 => omega); k_whole); intro h' F' N'))
local macro_rules | `(tactic| walk_at "call builtin:list.reverse") => `(tactic| (k_here; k_dflt (show wpAny _ _ (call (Value.builtin _) [Value.ref _]) _ _ _); k_dflt (refine' reverse_my ?ap1 ?ap2 ?ap3 ?ap4 ?ap5 ?_; (case ap1 => k_asm); (case ap2 => k_asm); (case ap3 => k_mem); (case ap4 => ktr_rel); (case ap5 => omega); k_whole); intro h' F' N'))
local macro_rules | `(tactic| walk_at "binaryOp Add int int") => `(tactic| (k_here; (refine' add_eq ?e ?_; (case e => assumption); k_whole)))
local macro_rules | `(tactic| walk_at "compareOp Is") => `(tactic| (k_here; (with_reducible show wpAny _ _ (compareOp CmpOp.Is (Value.int _ _) (Value.ref _)) _ _ _); k_dflt (refine' wpAny_is_other ?io1 ?io2 ?_; (case io1 => with_unfolding_all rfl); (case io2 => (intro x; cases x)); k_whole)))
local macro_rules | `(tactic| walk_at "GrownAll") => `(tactic| (refine' grown_my ?gr1 ?gr2 ?gr3; (case gr1 => k_asm); (case gr2 => assumption); (case gr3 => ktr_rel)))
local macro_rules | `(tactic| ktr_rel) => `(tactic| (with_reducible exact TailOf.base0))
local macro_rules | `(tactic| walk_at "CompSrcT") => `(tactic| (k_here; k_dflt (refine LCt.CompSrcT.ledger (by rfl) (by k_asm) (by k_asm) (by k_mem) (by assumption) ?_); intro g'; (refine' kci_list (fun l _ => l) (by assumption) (fun k' t' I' oI' C' oC' D' m' ys' l' h' tk' E' hk' hI' hC' hx' F' N' off' ne' => ?_) ?_ ?_); (all_goals (try (simp only [LCg.Off3, and_true] at off'))); (all_goals (try ((show KPfMark → _); intro hMark'))); kcf_last))
local macro_rules | `(tactic| walk_at "eval ListComp") => `(tactic| (k_here; lct_look; k_dflt (refine LCt.ListComp_T (F₀ := by k_asm) (by with_unfolding_all rfl) (by decide) (by rfl) (by decide) (by rfl) ?_); k_dflt lct_toSrc))
local macro_rules | `(tactic| ke_room) => `(tactic| exact units_ok (by assumption))
local macro_rules | `(tactic| walk_at "call builtin:max") => `(tactic| (k_here; (with_reducible show wpAny _ _ (call (Value.builtin _) [Value.int _ _, Value.int _ _]) _ _ _); k_dflt (refine' max_my ?mx1 ?mx2 ?mx3 ?mx4 ?mx5 ?mx6 ?_; (case mx1 => exact rfl); (case mx2 => k_asm); (case mx3 => k_asm); (case mx4 => exact rfl); (case mx5 => exact rfl); (case mx6 => exact rfl); k_whole); intro h' tk tk' F' N'))
def lawParts : List Stmt × Scope := match (PySem.Challenge.pw_xi0012_03.main.body.drop 18 : List Stmt) with
  | Stmt.FunctionDef _ _ b _ _ _ sc _ _ _ :: _ => (b, sc)
  | _ => ([], { kind := .module, names := [], isGenerator := false, isCoroutine := false, more := [] })
def lawBody : List Stmt := lawParts.1
def lawScope : Scope := lawParts.2
def turnBody : List Stmt := match lawBody with
  | _ :: Stmt.For _ _ b _ _ :: _ => b
  | _ => []
def tailBody : List Stmt := turnBody.drop 4
theorem tail_spec {w : World} {dp un : Nat} {gd : Option (List Code)} {cn : Str} {cs : Scope} {a : Addr} {ccd : Value} {cl : List (Str × Addr)} {outer : List Env}
    {A₀ : Around} {base h₀ : Heap} {L : Addr} {m mg mb : Str → Option Value} {loose : List Str} {mean : ExcName → Option Value} {rest tl : List (Addr × Obj)} {s : Shared}
    {x y P : Int} {c1 : Nat} {t1 t2 t3 t4 : Tok} {Q : Flow → Shared → Prop} {E : Value → Shared → Prop}
    (B : Below A₀ base outer h₀) (F : Fr h₀ L s.heap m) (X : (Mine.hd.heap_39 w.params).In h₀) (N : News h₀ L s.heap (rest ++ tl)) (T : Top topProg loose mean mg mb h₀) (hcs : lawScope = cs) (hdp : dp + 60 < 1000) (hun : un + 64 < cLine) (hr : NT rest) (ht : TabsOk Ts tl)
    (hps : ∀ p ∈ [(Str.ofString "one", Value.int x t1), (Str.ofString "other", Value.int y t2), (Str.ofString "product", Value.int P t3), (Str.ofString "many", Value.int (c1 : Int) t4)], m p.1 = some p.2)
    (bx : Builtin.Int.intBits x ≤ 240) (by' : Builtin.Int.intBits y ≤ 240) (bP : Builtin.Int.intBits P ≤ 480) (hc1 : c1 ≤ 2 * max ((Builtin.Int.intBits x + 8 - 1) / 8) ((Builtin.Int.intBits y + 8 - 1) / 8) - 1)
    (hret : ∀ h' tk' tl' m', Fr h₀ L h' m' → News h₀ L h' (rest ++ tl') → TabsOk Ts tl' → Q .next { s with heap := h', toks := tk' }) :
    wpAny (model PySem.Challenge.rw_xi0012_03.row.prog w) (ktrTop dp un gd cn cs L a ccd cl outer) (execs tailBody (envX cn cs L a ccd cl)) Q E s := by
  have hcs' := hcs
  change Scope.mk _ _ _ _ _ = cs at hcs'
  subst hcs'
  clear hcs
  change wpAny _ _ (execs (_ :: _ :: _ :: _ :: []) _) _ _ _
  replace F := kstB_fr F hps
  revert X; k_fill; intro X
  k_steps
  all_goals try dsimp only
  have haP : (if P < 0 then -P else P) = (P.natAbs : Int) := by split <;> omega
  have hbP : Builtin.Int.intBits (if P < 0 then -P else P) = Builtin.Int.intBits P := by rw [haP, bits_abs]
  k_dflt (refine' i2d_spec (X₁ := P.natAbs) (N₁ := 8) (len := _) ?ze1 ?ze2 ?ze3 (Spl.news ?ze5 ?ze4) ?ze6 ?ze7 ?ze8 (Spl.nt ?ze5) ?ze9 haP rfl (by decide) (by decide) rfl ?ze10 ?_; (case ze1 => k_asm); (case ze2 => k_asm); (case ze3 => k_asm); (case ze4 => k_asm); (case ze5 => ktr_rel); (case ze6 => k_asm); (case ze7 => exact rfl); (case ze8 => omega); (case ze9 => assumption); (case ze10 => omega))
  intro d6 h6 tk6 vs6 k6 tl6 F6 N6 ht6 hi6 hl6
  (try simp only [List.cons_append, List.nil_append] at N6)
  have hz6 : vs6.toArray.size ≤ sizeLine := by rw [List.size_toArray, hi6.length, digs_length, PySem.sizeLine_eq]; omega
  k_steps
  all_goals try dsimp only
  k_dflt (refine' d2i_spec (N₁ := 8) ?zf1 ?zf2 ?zf3 (Spl.news ?zf5 ?zf4) ?zf6 ?zf7 ?zf8 (Spl.nt ?zf5) ?zf9 ?zf10 hi6 (digs_inR _ _ _) rfl (by decide) ?zf11 ?_; (case zf1 => k_asm); (case zf2 => k_asm); (case zf3 => k_asm); (case zf4 => k_asm); (case zf5 => ktr_rel); (case zf6 => k_asm); (case zf7 => exact rfl); (case zf8 => omega); (case zf9 => assumption); (case zf10 => k_mem); (case zf11 => (rw [digs_length]; omega)))
  rw [dig_val haP rfl]
  intro tq7 h7 tk7 tl7 F7 N7 ht7
  (try simp only [List.cons_append, List.nil_append] at N7)
  k_steps
  all_goals try dsimp only
  · exact absurd haP.symm (by assumption)
  · (refine' LCg.CompEnd.intro ?ce1 ?ce2 _ (fun _ hp => hp) ?ce3 ?ce4 ?ce5; (case ce1 => k_asm); (case ce2 => assumption); (case ce3 => assumption); (case ce4 => exact Or.inr ⟨_, List.Mem.head _, rfl, _, rfl⟩); (case ce5 => exact ⟨rfl, rfl⟩))
  · (rename _ ∈ digs _ _ _ => hkk; have hb := digs_inR _ _ _ _ hkk; exfalso; omega)
  · (rename _ ∈ digs _ _ _ => hkk; have hb := digs_inR _ _ _ _ hkk; exfalso; omega)
  · have hax : (if x < 0 then -x else x) = (x.natAbs : Int) := by split <;> omega
    have hay : (if y < 0 then -y else y) = (y.natAbs : Int) := by split <;> omega
    have hbx : Builtin.Int.intBits (if x < 0 then -x else x) = Builtin.Int.intBits x := by rw [hax, bits_abs]
    have hby : Builtin.Int.intBits (if y < 0 then -y else y) = Builtin.Int.intBits y := by rw [hay, bits_abs]
    k_dflt (refine' i2d_spec (X₁ := x.natAbs) (N₁ := 8) (len := _) ?zga1 ?zga2 ?zga3 (Spl.news ?zga5 ?zga4) ?zga6 ?zga7 ?zga8 (Spl.nt ?zga5) ?zga9 hax rfl (by decide) (by decide) rfl ?zga10 ?_; (case zga1 => k_asm); (case zga2 => k_asm); (case zga3 => k_asm); (case zga4 => k_asm); (case zga5 => ktr_rel); (case zga6 => k_asm); (case zga7 => exact rfl); (case zga8 => omega); (case zga9 => assumption); (case zga10 => omega))
    intro d8 h8 tk8 vs8 k8 tl8 F8 N8 ht8 hi8 hl8
    (try simp only [List.cons_append, List.nil_append] at N8)
    have hz8 := len_of hi8 (by omega)
    k_steps
    all_goals try dsimp only
    k_dflt (refine' i2d_spec (X₁ := y.natAbs) (N₁ := 8) (len := _) ?zha1 ?zha2 ?zha3 (Spl.news ?zha5 ?zha4) ?zha6 ?zha7 ?zha8 (Spl.nt ?zha5) ?zha9 hay rfl (by decide) (by decide) rfl ?zha10 ?_; (case zha1 => k_asm); (case zha2 => k_asm); (case zha3 => k_asm); (case zha4 => k_asm); (case zha5 => ktr_rel); (case zha6 => k_asm); (case zha7 => exact rfl); (case zha8 => omega); (case zha9 => assumption); (case zha10 => omega))
    intro d9 h9 tk9 vs9 k9 tl9 F9 N9 ht9 hi9 hl9
    (try simp only [List.cons_append, List.nil_append] at N9)
    have hz9 := len_of hi9 (by omega)
    k_steps
    all_goals try dsimp only
    · (rename (2 : Int) * _ < _ => hgt; rw [digs_length, digs_length, hbx, hby] at hgt; exfalso; omega)
    · refine' hret _ _ tl9 _ ?nta1 ?nta2 ht9
      case nta1 => k_asm
      case nta2 => (refine' Pick.news ?ntaa ?ntab; (case ntab => k_asm); (case ntaa => ktr_rel))
  · rename decide _ = false => hdd
    rw [foldl_keep] at hdd
    cases hdd
end
section
local macro_rules | `(tactic| walk_at "no key 3") => `(tactic| fail)
local macro_rules | `(tactic| walk_at "no key 2") => `(tactic| fail)
local macro_rules | `(tactic| walk_at "no key 1") => `(tactic| fail)
local macro_rules | `(tactic| walk_at "no key 0") => `(tactic| fail)


local macro_rules | `(tactic| ktr_rel) => `(tactic| first | refine' TailOf.base | (refine' TailOf.cons ?t9; (case t9 => ktr_rel)))
local macro_rules | `(tactic| ktr_rel) => `(tactic| first | ((with_reducible refine' Sel.hit ?s9); (case s9 => ktr_rel)) | (refine' Sel.keep ?ne ?s9; (case ne => first | k_ne | (refine' ne_kind ?x1 ?x2 ?x3 ?x4; (case x1 => k_asm); (case x2 => k_mem); (case x3 => k_mem); (case x4 => with_unfolding_all rfl)) | fail "ne"); (case s9 => ktr_rel)) | (refine' Sel.base ?b9; (case b9 => (refine' off_all ?n1 ?n2 ?n3 ?n4 ?n5 ?n6; (case n1 => assumption); (case n2 => assumption); (case n3 => ktr_rel); (case n4 => k_mem); (case n5 => first | exact rfl | assumption | (refine' tlk_cell ?n7; (case n7 => assumption))); (case n6 => (refine' ne_above ?n8 ?n9; (case n8 => assumption); (case n9 => omega)))))))
local macro_rules | `(tactic| walk_at "storeName") => `(tactic| (k_here; k_dflt (refine' store_cell ?F ?N ?c ?m ?d ?S ?_ ?a ?b; (case a => rfl); (case b => rfl); (case F => k_asm); (case N => k_asm); (case c => rfl); (case m => k_mem); (case d => k_asm); (case S => ktr_rel); k_whole; intro h' o' F' N' d'; (try dsimp only at N'); (try k_sweep))))
local macro_rules | `(tactic| ktr_rel) => `(tactic| first | (refine' Spl.base ?b9; (case b9 => assumption)) | (refine' Spl.keep ?ta ?s9; (case ta => (first | exact rfl | assumption | (refine' tabby_cell ?b8; (case b8 => assumption)) | (refine' tabby_of_tlk ?b8; (case b8 => assumption)) | (refine' tabby_code ?b8 ?b7; (case b8 => assumption); (case b7 => assumption)) | fail "ta")); (case s9 => ktr_rel)) | (refine' Spl.drop ?s9; (case s9 => ktr_rel)))
local macro_rules | `(tactic| ktr_rel) => `(tactic| first | refine' Suf.base | (refine' Suf.cons ?t9; (case t9 => ktr_rel)))
local macro_rules | `(tactic| walk_at "callWith ref") => `(tactic| (k_here; k_dflt (first
  | (refine' callWith_F ?k1 ?_; (case k1 => exact FnAt.of (by k_asm) (by k_mem)); k_whole)
  | (refine' callWith_F0 ?k1 ?_; (case k1 => exact FnAt.of (by k_asm) (by k_mem)); k_whole; try dsimp only [List.nil_append, List.cons_append]))))
local macro_rules | `(tactic| walk_at "eval Name") => `(tactic| (k_here; k_dflt (refine' nameX_F ?N ?c ?m ?d ?_ ?a ?b; (case a => rfl); (case b => rfl); (case N => k_asm); (case c => rfl); (case m => k_mem); (case d => k_asm); k_whole)))
local macro_rules | `(tactic| k_all) => `(tactic| assumption)
local macro_rules | `(tactic| k_mem) => `(tactic| first | ((with_reducible refine' memL ?_); assumption) | ((with_reducible refine' memR ?_); assumption) | ((with_reducible refine' memI ?_); ktr_member) | fail "k_mem")
local macro_rules | `(tactic| walk_at "binaryOp RShift int int") => `(tactic| (k_here; (refine' rshift_eq ?n ?e ?_; (case n => first | decide | assumption | exact Int.natCast_nonneg _); (case e => assumption); k_whole)))
local macro_rules | `(tactic| walk_at "binaryOp Mult int int") => `(tactic| (k_here; (refine' mul_eq ?e ?n ?_; (case e => assumption); (case n => assumption); k_whole)))
local macro_rules | `(tactic| walk_at "binaryOp LShift int int") => `(tactic| (k_here; (refine' lshift_eq ?e ?n ?m ?_; (case e => assumption); (case n => first | decide | assumption | exact Int.natCast_nonneg _); (case m => assumption); k_whole)))
local macro_rules | `(tactic| walk_at "binaryOp BitXor int int") => `(tactic| (k_here; (refine' xor_eq ?e ?_; (case e => assumption); k_whole)))

local macro_rules | `(tactic| walk_at "call builtin:len") => `(tactic| (k_here; (with_reducible show wpAny _ _ (call (Value.builtin "len") [Value.ref _]) _ _ _); k_dflt (refine' len_list' ?kl1 ?kl2 ?kl3 ?kl4 ?_; (case kl1 => k_asm); (case kl2 => k_mem); (case kl3 => assumption); (case kl4 => first | omega | ((try simp only [List.length_replicate]); omega)); k_whole); (try simp only [List.length_replicate])))
local macro_rules | `(tactic| walk_at "truthy ref") => `(tactic| (k_here; (with_reducible show wpAny _ _ (truthy (Value.ref _)) _ _ _); k_dflt (refine' truthy_list ?kl1 ?kl2 ?kl3 ?kl4 ?_; (case kl1 => k_asm); (case kl2 => k_mem); (case kl3 => assumption); (case kl4 => omega); k_whole)))

local macro_rules | `(tactic| ktr_rel) => `(tactic| first | (refine' Pick.base ?pb9; (case pb9 => ktr_rel)) | (refine' Pick.cons ?pm9 ?pr9; (case pm9 => k_mem); (case pr9 => ktr_rel)) | fail "pick")
local macro_rules | `(tactic| walk_at "call builtin:list.append") => `(tactic| (k_here; k_dflt (show wpAny _ _ (call (Value.builtin _) [Value.ref _, _]) _ _ _); k_dflt (refine' append_my ?ap1 ?ap2 ?ap3 ?ap4 ?ap5 ?_; (case ap1 => k_asm); (case ap2 => k_asm); (case ap3 => k_mem); (case ap4 => ktr_rel); (case ap5 => omega); k_whole); intro h' F' N'))
local macro_rules | `(tactic| walk_at "call builtin:list.reverse") => `(tactic| (k_here; k_dflt (show wpAny _ _ (call (Value.builtin _) [Value.ref _]) _ _ _); k_dflt (refine' reverse_my ?ap1 ?ap2 ?ap3 ?ap4 ?ap5 ?_; (case ap1 => k_asm); (case ap2 => k_asm); (case ap3 => k_mem); (case ap4 => ktr_rel); (case ap5 => omega); k_whole); intro h' F' N'))
local macro_rules | `(tactic| walk_at "binaryOp Add int int") => `(tactic| (k_here; (refine' add_eq ?e ?_; (case e => assumption); k_whole)))
local macro_rules | `(tactic| walk_at "compareOp Is") => `(tactic| (k_here; (with_reducible show wpAny _ _ (compareOp CmpOp.Is (Value.int _ _) (Value.ref _)) _ _ _); k_dflt (refine' wpAny_is_other ?io1 ?io2 ?_; (case io1 => with_unfolding_all rfl); (case io2 => (intro x; cases x)); k_whole)))
local macro_rules | `(tactic| walk_at "GrownAll") => `(tactic| (refine' grown_my ?gr1 ?gr2 ?gr3; (case gr1 => k_asm); (case gr2 => assumption); (case gr3 => ktr_rel)))
local macro_rules | `(tactic| ktr_rel) => `(tactic| (with_reducible exact TailOf.base0))
local macro_rules | `(tactic| walk_at "CompSrcT") => `(tactic| (k_here; k_dflt (refine LCt.CompSrcT.ledger (by rfl) (by k_asm) (by k_asm) (by k_mem) (by assumption) ?_); intro g'; (refine' kci_list (fun l _ => l) (by assumption) (fun k' t' I' oI' C' oC' D' m' ys' l' h' tk' E' hk' hI' hC' hx' F' N' off' ne' => ?_) ?_ ?_); (all_goals (try (simp only [LCg.Off3, and_true] at off'))); (all_goals (try ((show KPfMark → _); intro hMark'))); kcf_last))
local macro_rules | `(tactic| walk_at "eval ListComp") => `(tactic| (k_here; lct_look; k_dflt (refine LCt.ListComp_T (F₀ := by k_asm) (by with_unfolding_all rfl) (by decide) (by rfl) (by decide) (by rfl) ?_); k_dflt lct_toSrc))
local macro_rules | `(tactic| ke_room) => `(tactic| exact units_ok (by assumption))
local macro_rules | `(tactic| walk_at "call builtin:max") => `(tactic| (k_here; (with_reducible show wpAny _ _ (call (Value.builtin _) [Value.int _ _, Value.int _ _]) _ _ _); k_dflt (refine' max_my ?mx1 ?mx2 ?mx3 ?mx4 ?mx5 ?mx6 ?_; (case mx1 => exact rfl); (case mx2 => k_asm); (case mx3 => k_asm); (case mx4 => exact rfl); (case mx5 => exact rfl); (case mx6 => exact rfl); k_whole); intro h' tk tk' F' N'))
local macro_rules | `(tactic| ktr_rel) => `(tactic| first | ((with_reducible refine' Spl.keep ?ta9 ?sq9); (case ta9 => (first | exact rfl | assumption | (refine' tabby_cell ?b8; (case b8 => assumption)) | (refine' tabby_of_tlk ?b8; (case b8 => assumption)) | (refine' tabby_code ?b8 ?b7; (case b8 => assumption); (case b7 => assumption)) | fail "ta")); (case sq9 => ktr_rel)) | ((with_reducible refine' Spl.drop ?sq9); (case sq9 => ktr_rel)) | (with_reducible exact Spl.base0) | fail "spl")
local macro_rules | `(tactic| walk_at "execs cons") => `(tactic| (k_here; (with_reducible show wpAny _ _ (execs (Stmt.Assign [Expr.Name (Str.ofString "figures") _] _ _ :: _) _) _ _ _); k_dflt (refine' tail_spec ?ta1 ?ta2 ?ta3 (Spl.news ?ta5 ?ta4) ?ta6 ?ta7 ?ta8 ?ta9 (Spl.nt ?ta5) ?taa ?tab ?tac ?tad ?tae ?taf ?_; (case ta1 => k_asm); (case ta2 => k_asm); (case ta3 => k_asm); (case ta4 => k_asm); (case ta5 => ktr_rel); (case ta6 => k_asm); (case ta7 => exact rfl); (case ta8 => omega); (case ta9 => assumption); (case taa => assumption); (case tab => exact List.forall_mem_cons.mpr ⟨rfl, List.forall_mem_cons.mpr ⟨rfl, List.forall_mem_cons.mpr ⟨rfl, List.forall_mem_cons.mpr ⟨rfl, List.forall_mem_nil _⟩⟩⟩⟩); (case tac => assumption); (case tad => assumption); (case tae => assumption); (case taf => assumption))))
theorem turn_spec {w : World} {dp un : Nat} {gd : Option (List Code)} {cn : Str} {cs : Scope} {a : Addr} {ccd : Value} {outer : List Env}
    {A₀ : Around} {base h₀ : Heap} {L D c I : Addr} {oc itO : Obj} {m mg mb : Str → Option Value} {loose : List Str} {mean : ExcName → Option Value} {tl : List (Addr × Obj)} {s : Shared}
    {ys : List Value} {R : List Int} {i : Nat} {t0 : Tok} {Q : Flow → Shared → Prop} {E : Value → Shared → Prop}
    (B : Below A₀ base outer h₀) (F : Fr h₀ L s.heap m) (X : (Mine.hd.heap_39 w.params).In h₀) (N : News h₀ L s.heap ((I, itO) :: (D, PySem.W.listOf ys.toArray ys.length) :: (c, oc) :: tl)) (T : Top topProg loose mean mg mb h₀) (hcs : lawScope = cs) (hdp : dp < 400) (hun : un + 64 < cLine) (ht : TabsOk Ts tl)
    (hoc : oc.data = .cell (some (.ref D))) (hkI : tlk itO = false) (iR : IntsAre ys R) (lR : R.length ≤ 8) (bR : ∀ x ∈ R, Builtin.Int.intBits x ≤ 240) (hin : i < R.length / 2)
    (hps : ∀ p ∈ [(Str.ofString "k", Value.int (1 + (i : Int) * 2) t0)], m p.1 = some p.2)
    (hret : ∀ h' tk' tl' m', Fr h₀ L h' m' → News h₀ L h' ((I, itO) :: (D, PySem.W.listOf ys.toArray ys.length) :: (c, oc) :: tl') → TabsOk Ts tl' → Q .next { s with heap := h', toks := tk' }) :
    wpAny (model PySem.Challenge.rw_xi0012_03.row.prog w) (ktrTop dp un gd cn cs L a ccd [(Str.ofString "row", c)] outer) (execs turnBody (envX cn cs L a ccd [(Str.ofString "row", c)])) Q E s := by
  have hcs' := hcs
  change Scope.mk _ _ _ _ _ = cs at hcs'
  subst hcs'
  clear hcs
  change wpAny _ _ (execs (_ :: _ :: _ :: _ :: _ :: _ :: _ :: _ :: []) _) _ _ _
  replace F := kstB_fr F hps
  revert X; k_fill; intro X
  have bx := getD_bits bR (Int.toNat (1 + (i : Int) * 2 - 1))
  have by' := getD_bits bR (Int.toNat (1 + (i : Int) * 2))
  obtain ⟨P, hP⟩ : ∃ P, R.getD (Int.toNat (1 + (i : Int) * 2 - 1)) 0 * R.getD (Int.toNat (1 + (i : Int) * 2)) 0 = P := ⟨_, rfl⟩
  have hP2 : R.getD (Int.toNat (1 + (i : Int) * 2)) 0 * R.getD (Int.toNat (1 + (i : Int) * 2 - 1)) 0 = P := by rw [Int.mul_comm]; exact hP
  have bP : Builtin.Int.intBits P ≤ 480 := by
    have := bits_mul (R.getD (Int.toNat (1 + (i : Int) * 2 - 1)) 0) (R.getD (Int.toNat (1 + (i : Int) * 2)) 0)
    rw [hP] at this
    omega
  k_steps
  all_goals try dsimp only
  k_dflt (refine' product_my (p := P) ?za1 ?za2 ?za3 (Spl.news ?za5 ?za4) ?za6 ?za7 ?za8 (Spl.nt ?za5) ?za9 ?za10 ?za11 hP ?_; (case za1 => k_asm); (case za2 => k_asm); (case za3 => k_asm); (case za4 => k_asm); (case za5 => ktr_rel); (case za6 => k_asm); (case za7 => exact rfl); (case za8 => omega); (case za9 => assumption); (case za10 => omega); (case za11 => omega))
  intro c1 q1 h2 u1 u2 tk2 tl2 hc1 F2 N2 ht2
  simp only [List.cons_append, List.nil_append] at N2
  k_steps
  all_goals try dsimp only
  k_dflt (refine' mul_my (p := P) ?zb1 ?zb2 ?zb3 ?zb4 ?zb5 ?zb6 ?zb7 ?zb8 ?zb9 hP ?_; (case zb1 => k_asm); (case zb2 => k_asm); (case zb3 => k_asm); (case zb4 => k_asm); (case zb5 => k_asm); (case zb6 => exact rfl); (case zb7 => omega); (case zb8 => omega); (case zb9 => omega))
  intro h3 tk3 tkk3 F3 N3
  k_steps
  all_goals try dsimp only
  · exact absurd rfl (by assumption)
  k_dflt (refine' product_my (p := P) ?zc1 ?zc2 ?zc3 (Spl.news ?zc5 ?zc4) ?zc6 ?zc7 ?zc8 (Spl.nt ?zc5) ?zc9 ?zc10 ?zc11 hP2 ?_; (case zc1 => k_asm); (case zc2 => k_asm); (case zc3 => k_asm); (case zc4 => k_asm); (case zc5 => ktr_rel); (case zc6 => k_asm); (case zc7 => exact rfl); (case zc8 => omega); (case zc9 => assumption); (case zc10 => omega); (case zc11 => omega))
  intro c4 q4 h4 u4 v4 tk4 tl4 hc4 F4 N4 ht4
  simp only [List.cons_append, List.nil_append] at N4
  k_steps
  all_goals try dsimp only
  · exact absurd rfl (by assumption)
  · k_dflt (refine' idm_ex (z := R.getD (Int.toNat (1 + (i : Int) * 2)) 0) ?zd1 ?zd2 ?zd3 (Spl.news ?zd5 ?zd4) ?zd6 ?zd7 ?zd8 (Spl.nt ?zd5) ?zd9 hP2.symm ?zd10 ?zd11 (bits_div hP ?zd12 by') ?_; (case zd1 => k_asm); (case zd2 => k_asm); (case zd3 => k_asm); (case zd4 => k_asm); (case zd5 => ktr_rel); (case zd6 => k_asm); (case zd7 => exact rfl); (case zd8 => omega); (case zd9 => assumption); (case zd10 => assumption); (case zd11 => omega); (case zd12 => assumption))
    intro q5 h5 u5 v5 tk5 tl5 F5 N5 ht5
    simp only [List.cons_append, List.nil_append] at N5
    k_steps
    all_goals try dsimp only
    refine' hret _ _ _ _ ?ntaa ?ntba ?ntea
    case ntea => assumption
    case ntaa => k_asm
    case ntba => (refine' Pick.news ?ntca ?ntda; (case ntda => k_asm); (case ntca => ktr_rel))
  · refine' hret _ _ _ _ ?ntab ?ntbb ?nteb
    case nteb => assumption
    case ntab => k_asm
    case ntbb => (refine' Pick.news ?ntcb ?ntdb; (case ntdb => k_asm); (case ntcb => ktr_rel))
end
section


local macro_rules | `(tactic| ktr_rel) => `(tactic| first | refine' TailOf.base | (refine' TailOf.cons ?t9; (case t9 => ktr_rel)))
local macro_rules | `(tactic| ktr_rel) => `(tactic| first | ((with_reducible refine' Sel.hit ?s9); (case s9 => ktr_rel)) | (refine' Sel.keep ?ne ?s9; (case ne => first | k_ne | (refine' ne_kind ?x1 ?x2 ?x3 ?x4; (case x1 => k_asm); (case x2 => k_mem); (case x3 => k_mem); (case x4 => with_unfolding_all rfl)) | fail "ne"); (case s9 => ktr_rel)) | (refine' Sel.base ?b9; (case b9 => (refine' off_all ?n1 ?n2 ?n3 ?n4 ?n5 ?n6; (case n1 => assumption); (case n2 => assumption); (case n3 => ktr_rel); (case n4 => k_mem); (case n5 => first | exact rfl | assumption | (refine' tlk_cell ?n7; (case n7 => assumption))); (case n6 => (refine' ne_above ?n8 ?n9; (case n8 => assumption); (case n9 => omega)))))))
local macro_rules | `(tactic| walk_at "storeName") => `(tactic| (k_here; k_dflt (refine' store_cell ?F ?N ?c ?m ?d ?S ?_ ?a ?b; (case a => rfl); (case b => rfl); (case F => k_asm); (case N => k_asm); (case c => rfl); (case m => k_mem); (case d => k_asm); (case S => ktr_rel); k_whole; intro h' o' F' N' d'; (try dsimp only at N'); (try k_sweep))))
local macro_rules | `(tactic| ktr_rel) => `(tactic| first | (refine' Spl.base ?b9; (case b9 => assumption)) | (refine' Spl.keep ?ta ?s9; (case ta => (first | exact rfl | assumption | (refine' tabby_cell ?b8; (case b8 => assumption)) | (refine' tabby_of_tlk ?b8; (case b8 => assumption)) | (refine' tabby_code ?b8 ?b7; (case b8 => assumption); (case b7 => assumption)) | fail "ta")); (case s9 => ktr_rel)) | (refine' Spl.drop ?s9; (case s9 => ktr_rel)))
local macro_rules | `(tactic| ktr_rel) => `(tactic| first | refine' Suf.base | (refine' Suf.cons ?t9; (case t9 => ktr_rel)))
local macro_rules | `(tactic| walk_at "callWith ref") => `(tactic| (k_here; k_dflt (first
  | (refine' callWith_F ?k1 ?_; (case k1 => exact FnAt.of (by k_asm) (by k_mem)); k_whole)
  | (refine' callWith_F0 ?k1 ?_; (case k1 => exact FnAt.of (by k_asm) (by k_mem)); k_whole; try dsimp only [List.nil_append, List.cons_append]))))
local macro_rules | `(tactic| walk_at "eval Name") => `(tactic| (k_here; k_dflt (refine' nameX_F ?N ?c ?m ?d ?_ ?a ?b; (case a => rfl); (case b => rfl); (case N => k_asm); (case c => rfl); (case m => k_mem); (case d => k_asm); k_whole)))
local macro_rules | `(tactic| k_all) => `(tactic| assumption)
local macro_rules | `(tactic| k_mem) => `(tactic| first | ((with_reducible refine' memL ?_); assumption) | ((with_reducible refine' memR ?_); assumption) | ((with_reducible refine' memI ?_); ktr_member) | fail "k_mem")
local macro_rules | `(tactic| walk_at "binaryOp RShift int int") => `(tactic| (k_here; (refine' rshift_eq ?n ?e ?_; (case n => first | decide | assumption | exact Int.natCast_nonneg _); (case e => assumption); k_whole)))
local macro_rules | `(tactic| walk_at "binaryOp Mult int int") => `(tactic| (k_here; (refine' mul_eq ?e ?n ?_; (case e => assumption); (case n => assumption); k_whole)))
local macro_rules | `(tactic| walk_at "binaryOp LShift int int") => `(tactic| (k_here; (refine' lshift_eq ?e ?n ?m ?_; (case e => assumption); (case n => first | decide | assumption | exact Int.natCast_nonneg _); (case m => assumption); k_whole)))
local macro_rules | `(tactic| walk_at "binaryOp BitXor int int") => `(tactic| (k_here; (refine' xor_eq ?e ?_; (case e => assumption); k_whole)))

local macro_rules | `(tactic| walk_at "call builtin:len") => `(tactic| (k_here; (with_reducible show wpAny _ _ (call (Value.builtin "len") [Value.ref _]) _ _ _); k_dflt (refine' len_list' ?kl1 ?kl2 ?kl3 ?kl4 ?_; (case kl1 => k_asm); (case kl2 => k_mem); (case kl3 => assumption); (case kl4 => first | omega | ((try simp only [List.length_replicate]); omega)); k_whole); (try simp only [List.length_replicate])))
local macro_rules | `(tactic| walk_at "truthy ref") => `(tactic| (k_here; (with_reducible show wpAny _ _ (truthy (Value.ref _)) _ _ _); k_dflt (refine' truthy_list ?kl1 ?kl2 ?kl3 ?kl4 ?_; (case kl1 => k_asm); (case kl2 => k_mem); (case kl3 => assumption); (case kl4 => omega); k_whole)))

local macro_rules | `(tactic| ktr_rel) => `(tactic| first | (refine' Pick.base ?pb9; (case pb9 => ktr_rel)) | (refine' Pick.cons ?pm9 ?pr9; (case pm9 => k_mem); (case pr9 => ktr_rel)) | fail "pick")
local macro_rules | `(tactic| walk_at "call builtin:list.append") => `(tactic| (k_here; k_dflt (show wpAny _ _ (call (Value.builtin _) [Value.ref _, _]) _ _ _); k_dflt (refine' append_my ?ap1 ?ap2 ?ap3 ?ap4 ?ap5 ?_; (case ap1 => k_asm); (case ap2 => k_asm); (case ap3 => k_mem); (case ap4 => ktr_rel); (case ap5 => omega); k_whole); intro h' F' N'))
local macro_rules | `(tactic| walk_at "call builtin:list.reverse") => `(tactic| (k_here; k_dflt (show wpAny _ _ (call (Value.builtin _) [Value.ref _]) _ _ _); k_dflt (refine' reverse_my ?ap1 ?ap2 ?ap3 ?ap4 ?ap5 ?_; (case ap1 => k_asm); (case ap2 => k_asm); (case ap3 => k_mem); (case ap4 => ktr_rel); (case ap5 => omega); k_whole); intro h' F' N'))
local macro_rules | `(tactic| walk_at "binaryOp Add int int") => `(tactic| (k_here; (refine' add_eq ?e ?_; (case e => assumption); k_whole)))
local macro_rules | `(tactic| walk_at "compareOp Is") => `(tactic| (k_here; (with_reducible show wpAny _ _ (compareOp CmpOp.Is (Value.int _ _) (Value.ref _)) _ _ _); k_dflt (refine' wpAny_is_other ?io1 ?io2 ?_; (case io1 => with_unfolding_all rfl); (case io2 => (intro x; cases x)); k_whole)))
local macro_rules | `(tactic| walk_at "GrownAll") => `(tactic| (refine' grown_my ?gr1 ?gr2 ?gr3; (case gr1 => k_asm); (case gr2 => assumption); (case gr3 => ktr_rel)))
local macro_rules | `(tactic| ktr_rel) => `(tactic| (with_reducible exact TailOf.base0))
local macro_rules | `(tactic| walk_at "CompSrcT") => `(tactic| (k_here; k_dflt (refine LCt.CompSrcT.ledger (by rfl) (by k_asm) (by k_asm) (by k_mem) (by assumption) ?_); intro g'; (refine' kci_list (fun l _ => l) (by assumption) (fun k' t' I' oI' C' oC' D' m' ys' l' h' tk' E' hk' hI' hC' hx' F' N' off' ne' => ?_) ?_ ?_); (all_goals (try (simp only [LCg.Off3, and_true] at off'))); (all_goals (try ((show KPfMark → _); intro hMark'))); kcf_last))
local macro_rules | `(tactic| walk_at "eval ListComp") => `(tactic| (k_here; lct_look; k_dflt (refine LCt.ListComp_T (F₀ := by k_asm) (by with_unfolding_all rfl) (by decide) (by rfl) (by decide) (by rfl) ?_); k_dflt lct_toSrc))
local macro_rules | `(tactic| ke_room) => `(tactic| exact units_ok (by assumption))
local macro_rules | `(tactic| walk_at "call builtin:max") => `(tactic| (k_here; (with_reducible show wpAny _ _ (call (Value.builtin _) [Value.int _ _, Value.int _ _]) _ _ _); k_dflt (refine' max_my ?mx1 ?mx2 ?mx3 ?mx4 ?mx5 ?mx6 ?_; (case mx1 => exact rfl); (case mx2 => k_asm); (case mx3 => k_asm); (case mx4 => exact rfl); (case mx5 => exact rfl); (case mx6 => exact rfl); k_whole); intro h' tk tk' F' N'))
local macro_rules | `(tactic| ktr_rel) => `(tactic| first | ((with_reducible refine' Spl.keep ?ta9 ?sq9); (case ta9 => (first | exact rfl | assumption | (refine' tabby_cell ?b8; (case b8 => assumption)) | (refine' tabby_of_tlk ?b8; (case b8 => assumption)) | (refine' tabby_code ?b8 ?b7; (case b8 => assumption); (case b7 => assumption)) | fail "ta")); (case sq9 => ktr_rel)) | ((with_reducible refine' Spl.drop ?sq9); (case sq9 => ktr_rel)) | (with_reducible exact Spl.base0) | fail "spl")
def afterBody : List Stmt := lawBody.drop 2
theorem after_spec {w : World} {dp un : Nat} {gd : Option (List Code)} {cs : Scope} {a : Addr} {ccd : Value} {outer : List Env}
    {A₀ : Around} {base h₀ : Heap} {L D c : Addr} {oc : Obj} {m mg mb : Str → Option Value} {loose : List Str} {mean : ExcName → Option Value} {tl : List (Addr × Obj)} {s : Shared}
    {ys : List Value} {R : List Int} {Q : Flow → Shared → Prop} {E : Value → Shared → Prop}
    (B : Below A₀ base outer h₀) (F : Fr h₀ L s.heap m) (X : (Mine.hd.heap_39 w.params).In h₀) (N : News h₀ L s.heap ((D, PySem.W.listOf ys.toArray ys.length) :: (c, oc) :: tl)) (T : Top topProg loose mean mg mb h₀) (hcs : lawScope = cs) (hdp : dp < 400) (hun : un + 64 < cLine) (ht : TabsOk Ts tl)
    (hccd : ccd = .ref 104) (hoc : oc.data = .cell (some (.ref D))) (iR : IntsAre ys R) (lR : R.length ≤ 8) (bR : ∀ x ∈ R, Builtin.Int.intBits x ≤ 240)
    (hret : ∀ h' tk' tl' m', Fr h₀ L h' m' → News h₀ L h' tl' → TabsOk Ts tl' → Q (.ret (.bool true)) { s with heap := h', toks := tk' }) :
    wpAny (model PySem.Challenge.rw_xi0012_03.row.prog w) (ktrTop dp un gd (Str.ofString "law") cs L a ccd [(Str.ofString "row", c)] outer) (execs afterBody (envX (Str.ofString "law") cs L a ccd [(Str.ofString "row", c)])) Q E s := by
  subst hccd
  have hcs' := hcs
  change Scope.mk _ _ _ _ _ = cs at hcs'
  subst hcs'
  clear hcs
  change wpAny _ _ (execs (_ :: _ :: _ :: []) _) _ _ _
  revert X; k_fill; intro X
  have b4 : ∀ x ∈ R.take 4, Builtin.Int.intBits x ≤ 240 := fun x hx => bR x (List.mem_of_mem_take hx)
  have l4 : (R.take 4).length ≤ 4 := by rw [List.length_take]; omega
  have l8 : (R.take 4).length ≤ 1000 := by omega
  have l9 : R.reverse.length ≤ 8 := by rw [List.length_reverse]; exact lR
  have b9 : ∀ x ∈ R.reverse, Builtin.Int.intBits x ≤ 240 := fun x hx => bR x (List.mem_reverse.mp hx)
  k_steps
  all_goals try dsimp only
  rename_i g2 hI2 hL2 D2 h2 tk2 F2 N2 o2
  rw [back_eq] at hI2
  clear hL2
  replace N2 : News _ _ _ ((D2, PySem.W.listOf ys.toArray ys.length) :: _) := N2
  k_dflt (refine' kla_eval ?d0 ?_; (case d0 => exact rfl))
  k_dflt (refine' lam_fn2 (dd := 52) (g := fun x y => x * y) (ok := fun x y => Builtin.Int.intBits x ≤ 1000 ∧ Builtin.Int.intBits y ≤ 1000) T3 Ts_one (.tail _ (.tail _ (.head _))) ?F ?N ?S ?ht ?T ?C ?cd ?l ?c ?q ?cl ?hfn ?_; (case F => k_asm); (case N => k_asm); (case T => k_asm); (case cd => exact rfl); (case C => exact codeHd_of_K (c := 104) (P := 102) (by assumption) (by kernel_rfl)); (case S => ktr_rel); (case ht => assumption); (case l => rfl); (case c => rfl); (case q => rfl); (case cl => exact rfl))
  case hfn =>
    intro f5 c5 oc5 vs5 t5 ctv5 hd5 hv5
    refine' ⟨fun F X N hm => FnAt.of N (hm _ (.head _)), ?_⟩
    intro dp un gd cn cs a ccd cl outer A₀ base h₀ L m mg mb loose mean rest tl s x y t u Q E B F X N T hk hd hr ht hled hok hret
    have hpp : x * y = x * y := rfl
    have hx1 := hok.1
    have hy1 := hok.2
    have hm1 := hled _ (.head _)
    have hm2 := hled _ (.tail _ (.head _))
    have hm3 := codeRec_news N (List.mem_append_left _ hm2) hd5 hv5
    revert X; k_fill; intro X
    refine wpAny_call ?_
    k_dflt (refine' kla_code ?k1 ?k2 ?k3 ?k4 ?k5 ?kA ?kF ?kK ?k6 ?k7 ?k8 ?k9 ?kB ?_ ?c2 ?c3 ?c4 ?c5; (case kA => exact rfl); (case kF => exact rfl); (case kK => exact hk); (case k1 => k_asm); (case k2 => k_asm); (case k3 => k_asm); (case k4 => exact N); (case k5 => k_asm); (case k6 => exact List.mem_append_left _ hm1); (case k7 => exact hm3); (case k8 => ktr_room); (case k9 => exact rfl); (case c5 => decide); (case kB => exact locs rfl); (case c2 => exact rfl); (case c3 => exact rfl); (case c4 => exact rfl); k_whole; intro g' L' h' FG' F' N' B' X' T'; (try dsimp only); (try k_fold))
    k_steps
    all_goals try dsimp only
    k_dflt (refine' product_my (p := x * y) (rest := rest) (tl := tl) ?za1 ?za2 ?za3 ?za4 ?za6 ?za7 ?za8 hr ht ?za10 ?za11 hpp ?_; (case za1 => k_asm); (case za2 => k_asm); (case za3 => k_asm); (case za4 => k_asm); (case za6 => k_asm); (case za7 => exact rfl); (case za8 => ktr_room); (case za10 => assumption); (case za11 => assumption))
    intro c6 q6 h6 u6 v6 tk6 tl6 hc6 F6 N6 ht6
    k_steps
    all_goals try dsimp only
    refine' hret _ _ _ tl6 ?r1F ?r1N ?r1T
    case r1F => k_asm
    case r1N => (refine' Pick.news ?r1a ?r1b; (case r1b => k_asm); (case r1a => ktr_rel))
    case r1T => assumption
  intro f3 lo3 c3 oc3 h3 tk3 tl3 F3 N3 ht3 hfn3 hlo3 hoc3 hat3 l3
  simp only [List.cons_append, List.nil_append] at N3
  k_steps
  all_goals try dsimp only
  k_dflt (refine' reduce_list (z := 1) ?ra1 ?ra2 ?ra3 (Spl.news ?ra5 ?ra4) ?ra6 ?ra7 ?ra8 (Spl.nt ?ra5) ?ra9 hfn3 ?raa ?rab ?rac ?rad ?rae ?_; (case ra1 => k_asm); (case ra2 => k_asm); (case ra3 => k_asm); (case ra4 => k_asm); (case ra5 => ktr_rel); (case ra6 => k_asm); (case ra7 => exact rfl); (case ra8 => omega); (case ra9 => assumption); (case rab => k_mem); (case rac => assumption); (case rad => omega); (case raa => exact List.forall_mem_cons.mpr ⟨by k_mem, List.forall_mem_cons.mpr ⟨by k_mem, List.forall_mem_nil _⟩⟩); (case rae => exact fold_ok1 b4 l4))
  intro tk5 h5 tkk5 tl5 F5 N5 ht5
  simp only [List.cons_append, List.nil_append] at N5
  k_steps
  all_goals try dsimp only
  k_dflt (refine' reduce_list (z := 1) ?rb1 ?rb2 ?rb3 (Spl.news ?rb5 ?rb4) ?rb6 ?rb7 ?rb8 (Spl.nt ?rb5) ?rb9 fn2_mul ?rba ?rbb ?rbc ?rbd ?rbe ?_; (case rb1 => k_asm); (case rb2 => k_asm); (case rb3 => k_asm); (case rb4 => k_asm); (case rb5 => ktr_rel); (case rb6 => k_asm); (case rb7 => exact rfl); (case rb8 => omega); (case rb9 => assumption); (case rbb => k_mem); (case rbc => assumption); (case rbd => omega); (case rba => exact List.forall_mem_nil _); (case rbe => exact fold_ok2 b4 (by omega)))
  intro tk6 h6 tkk6 tl6 F6 N6 ht6
  simp only [List.cons_append, List.nil_append] at N6
  k_steps
  all_goals try dsimp only
  k_dflt (refine' reduce_list (z := 1) ?rc1 ?rc2 ?rc3 (Spl.news ?rc5 ?rc4) ?rc6 ?rc7 ?rc8 (Spl.nt ?rc5) ?rc9 fn2_mul ?rca ?rcb ?rcc ?rcd ?rce ?_; (case rc1 => k_asm); (case rc2 => k_asm); (case rc3 => k_asm); (case rc4 => k_asm); (case rc5 => ktr_rel); (case rc6 => k_asm); (case rc7 => exact rfl); (case rc8 => omega); (case rc9 => assumption); (case rcb => k_mem); (case rcc => assumption); (case rcd => omega); (case rca => exact List.forall_mem_nil _); (case rce => exact fold_ok2 b9 l9))
  rw [fold_rev]
  intro tk7 h7 tkk7 tl7 F7 N7 ht7
  simp only [List.cons_append, List.nil_append] at N7
  k_steps
  all_goals try dsimp only
  k_dflt (refine' reduce_list (z := 1) ?rd1 ?rd2 ?rd3 (Spl.news ?rd5 ?rd4) ?rd6 ?rd7 ?rd8 (Spl.nt ?rd5) ?rd9 fn2_mul ?rda ?rdb ?rdc ?rdd ?rde ?_; (case rd1 => k_asm); (case rd2 => k_asm); (case rd3 => k_asm); (case rd4 => k_asm); (case rd5 => ktr_rel); (case rd6 => k_asm); (case rd7 => exact rfl); (case rd8 => omega); (case rd9 => assumption); (case rdb => k_mem); (case rdc => assumption); (case rdd => omega); (case rda => exact List.forall_mem_nil _); (case rde => exact fold_ok2 bR lR))
  intro tk8 h8 tkk8 tl8 F8 N8 ht8
  simp only [List.cons_append, List.nil_append] at N8
  k_steps
  all_goals try dsimp only
  · simp only [beq_self_eq_true]
    refine' hret _ _ _ _ ?ntaa ?ntba ?ntea
    case ntea => assumption
    case ntaa => k_asm
    case ntba => (refine' newsSub ?ntca (TailOf.sub ?ntda); (case ntca => k_asm); (case ntda => ktr_rel))
  · simp only [beq_self_eq_true]
    refine' hret _ _ _ _ ?ntab ?ntbb ?nteb
    case nteb => assumption
    case ntab => k_asm
    case ntbb => (refine' newsSub ?ntcb (TailOf.sub ?ntdb); (case ntcb => k_asm); (case ntdb => ktr_rel))
end
section
local macro_rules | `(tactic| walk_at "no key 1") => `(tactic| fail)
local macro_rules | `(tactic| walk_at "no key 0") => `(tactic| fail)


local macro_rules | `(tactic| ktr_rel) => `(tactic| first | refine' TailOf.base | (refine' TailOf.cons ?t9; (case t9 => ktr_rel)))
local macro_rules | `(tactic| ktr_rel) => `(tactic| first | ((with_reducible refine' Sel.hit ?s9); (case s9 => ktr_rel)) | (refine' Sel.keep ?ne ?s9; (case ne => first | k_ne | (refine' ne_kind ?x1 ?x2 ?x3 ?x4; (case x1 => k_asm); (case x2 => k_mem); (case x3 => k_mem); (case x4 => with_unfolding_all rfl)) | fail "ne"); (case s9 => ktr_rel)) | (refine' Sel.base ?b9; (case b9 => (refine' off_all ?n1 ?n2 ?n3 ?n4 ?n5 ?n6; (case n1 => assumption); (case n2 => assumption); (case n3 => ktr_rel); (case n4 => k_mem); (case n5 => first | exact rfl | assumption | (refine' tlk_cell ?n7; (case n7 => assumption))); (case n6 => (refine' ne_above ?n8 ?n9; (case n8 => assumption); (case n9 => omega)))))))
local macro_rules | `(tactic| walk_at "storeName") => `(tactic| (k_here; k_dflt (refine' store_cell ?F ?N ?c ?m ?d ?S ?_ ?a ?b; (case a => rfl); (case b => rfl); (case F => k_asm); (case N => k_asm); (case c => rfl); (case m => k_mem); (case d => k_asm); (case S => ktr_rel); k_whole; intro h' o' F' N' d'; (try dsimp only at N'); (try k_sweep))))
local macro_rules | `(tactic| ktr_rel) => `(tactic| first | (refine' Spl.base ?b9; (case b9 => assumption)) | (refine' Spl.keep ?ta ?s9; (case ta => (first | exact rfl | assumption | (refine' tabby_cell ?b8; (case b8 => assumption)) | (refine' tabby_of_tlk ?b8; (case b8 => assumption)) | (refine' tabby_code ?b8 ?b7; (case b8 => assumption); (case b7 => assumption)) | fail "ta")); (case s9 => ktr_rel)) | (refine' Spl.drop ?s9; (case s9 => ktr_rel)))
local macro_rules | `(tactic| ktr_rel) => `(tactic| first | refine' Suf.base | (refine' Suf.cons ?t9; (case t9 => ktr_rel)))
local macro_rules | `(tactic| walk_at "callWith ref") => `(tactic| (k_here; k_dflt (first
  | (refine' callWith_F ?k1 ?_; (case k1 => exact FnAt.of (by k_asm) (by k_mem)); k_whole)
  | (refine' callWith_F0 ?k1 ?_; (case k1 => exact FnAt.of (by k_asm) (by k_mem)); k_whole; try dsimp only [List.nil_append, List.cons_append]))))
local macro_rules | `(tactic| walk_at "eval Name") => `(tactic| (k_here; k_dflt (refine' nameX_F ?N ?c ?m ?d ?_ ?a ?b; (case a => rfl); (case b => rfl); (case N => k_asm); (case c => rfl); (case m => k_mem); (case d => k_asm); k_whole)))
local macro_rules | `(tactic| k_all) => `(tactic| assumption)
local macro_rules | `(tactic| k_mem) => `(tactic| first | ((with_reducible refine' memL ?_); assumption) | ((with_reducible refine' memR ?_); assumption) | ((with_reducible refine' memI ?_); ktr_member) | fail "k_mem")
local macro_rules | `(tactic| walk_at "binaryOp RShift int int") => `(tactic| (k_here; (refine' rshift_eq ?n ?e ?_; (case n => first | decide | assumption | exact Int.natCast_nonneg _); (case e => assumption); k_whole)))
local macro_rules | `(tactic| walk_at "binaryOp Mult int int") => `(tactic| (k_here; (refine' mul_eq ?e ?n ?_; (case e => assumption); (case n => assumption); k_whole)))
local macro_rules | `(tactic| walk_at "binaryOp LShift int int") => `(tactic| (k_here; (refine' lshift_eq ?e ?n ?m ?_; (case e => assumption); (case n => first | decide | assumption | exact Int.natCast_nonneg _); (case m => assumption); k_whole)))
local macro_rules | `(tactic| walk_at "binaryOp BitXor int int") => `(tactic| (k_here; (refine' xor_eq ?e ?_; (case e => assumption); k_whole)))

local macro_rules | `(tactic| walk_at "call builtin:len") => `(tactic| (k_here; (with_reducible show wpAny _ _ (call (Value.builtin "len") [Value.ref _]) _ _ _); k_dflt (refine' len_list' ?kl1 ?kl2 ?kl3 ?kl4 ?_; (case kl1 => k_asm); (case kl2 => k_mem); (case kl3 => assumption); (case kl4 => first | omega | ((try simp only [List.length_replicate]); omega)); k_whole); (try simp only [List.length_replicate])))
local macro_rules | `(tactic| walk_at "truthy ref") => `(tactic| (k_here; (with_reducible show wpAny _ _ (truthy (Value.ref _)) _ _ _); k_dflt (refine' truthy_list ?kl1 ?kl2 ?kl3 ?kl4 ?_; (case kl1 => k_asm); (case kl2 => k_mem); (case kl3 => assumption); (case kl4 => omega); k_whole)))

local macro_rules | `(tactic| ktr_rel) => `(tactic| first | (refine' Pick.base ?pb9; (case pb9 => ktr_rel)) | (refine' Pick.cons ?pm9 ?pr9; (case pm9 => k_mem); (case pr9 => ktr_rel)) | fail "pick")
local macro_rules | `(tactic| walk_at "call builtin:list.append") => `(tactic| (k_here; k_dflt (show wpAny _ _ (call (Value.builtin _) [Value.ref _, _]) _ _ _); k_dflt (refine' append_my ?ap1 ?ap2 ?ap3 ?ap4 ?ap5 ?_; (case ap1 => k_asm); (case ap2 => k_asm); (case ap3 => k_mem); (case ap4 => ktr_rel); (case ap5 => omega); k_whole); intro h' F' N'))
local macro_rules | `(tactic| walk_at "call builtin:list.reverse") => `(tactic| (k_here; k_dflt (show wpAny _ _ (call (Value.builtin _) [Value.ref _]) _ _ _); k_dflt (refine' reverse_my ?ap1 ?ap2 ?ap3 ?ap4 ?ap5 ?_; (case ap1 => k_asm); (case ap2 => k_asm); (case ap3 => k_mem); (case ap4 => ktr_rel); (case ap5 => omega); k_whole); intro h' F' N'))
local macro_rules | `(tactic| walk_at "binaryOp Add int int") => `(tactic| (k_here; (refine' add_eq ?e ?_; (case e => assumption); k_whole)))
local macro_rules | `(tactic| walk_at "compareOp Is") => `(tactic| (k_here; (with_reducible show wpAny _ _ (compareOp CmpOp.Is (Value.int _ _) (Value.ref _)) _ _ _); k_dflt (refine' wpAny_is_other ?io1 ?io2 ?_; (case io1 => with_unfolding_all rfl); (case io2 => (intro x; cases x)); k_whole)))
local macro_rules | `(tactic| walk_at "GrownAll") => `(tactic| (refine' grown_my ?gr1 ?gr2 ?gr3; (case gr1 => k_asm); (case gr2 => assumption); (case gr3 => ktr_rel)))
local macro_rules | `(tactic| ktr_rel) => `(tactic| (with_reducible exact TailOf.base0))
local macro_rules | `(tactic| walk_at "CompSrcT") => `(tactic| (k_here; k_dflt (refine LCt.CompSrcT.ledger (by rfl) (by k_asm) (by k_asm) (by k_mem) (by assumption) ?_); intro g'; (refine' kci_list (fun l _ => l) (by assumption) (fun k' t' I' oI' C' oC' D' m' ys' l' h' tk' E' hk' hI' hC' hx' F' N' off' ne' => ?_) ?_ ?_); (all_goals (try (simp only [LCg.Off3, and_true] at off'))); (all_goals (try ((show KPfMark → _); intro hMark'))); kcf_last))
local macro_rules | `(tactic| walk_at "eval ListComp") => `(tactic| (k_here; lct_look; k_dflt (refine LCt.ListComp_T (F₀ := by k_asm) (by with_unfolding_all rfl) (by decide) (by rfl) (by decide) (by rfl) ?_); k_dflt lct_toSrc))
local macro_rules | `(tactic| ke_room) => `(tactic| exact units_ok (by assumption))
local macro_rules | `(tactic| walk_at "call builtin:max") => `(tactic| (k_here; (with_reducible show wpAny _ _ (call (Value.builtin _) [Value.int _ _, Value.int _ _]) _ _ _); k_dflt (refine' max_my ?mx1 ?mx2 ?mx3 ?mx4 ?mx5 ?mx6 ?_; (case mx1 => exact rfl); (case mx2 => k_asm); (case mx3 => k_asm); (case mx4 => exact rfl); (case mx5 => exact rfl); (case mx6 => exact rfl); k_whole); intro h' tk tk' F' N'))
local macro_rules | `(tactic| ktr_rel) => `(tactic| first | ((with_reducible refine' Spl.keep ?ta9 ?sq9); (case ta9 => (first | exact rfl | assumption | (refine' tabby_cell ?b8; (case b8 => assumption)) | (refine' tabby_of_tlk ?b8; (case b8 => assumption)) | (refine' tabby_code ?b8 ?b7; (case b8 => assumption); (case b7 => assumption)) | fail "ta")); (case sq9 => ktr_rel)) | ((with_reducible refine' Spl.drop ?sq9); (case sq9 => ktr_rel)) | (with_reducible exact Spl.base0) | fail "spl")
local macro_rules | `(tactic| walk_at "GrownAll") => `(tactic| (refine' grown_my ?gr1 ?gr2 ?gr3; (case gr1 => k_asm); (case gr2 => assumption); (case gr3 => ktr_rel)))
theorem law_holds : PySem.Challenge.rw_xi0012_03.Holds := Mine.hd (by
  k_go0
  (all_goals try k_fold)
  (rename CodeHd _ _ _ => c1; clear c1)
  (rename CodeHd _ _ _ => c1; clear c1)
  (rename CodeHd _ _ _ => c1; clear c1)
  obtain ⟨dp, un, gd, hdp, hun, eA⟩ := law_up _ _ _ _ _
  rw [eA]
  clear eA
  k_steps
  all_goals try dsimp only
  rename_i g9 hI8 hL8 D9 hz1 tz1 o1 hz2 oc F9 N9 d9 hz3 tz3 t9 u9 v9 r9 F8 N8 k8
  obtain ⟨R, hR, iR, lR, bR⟩ := row_facts hI8
  rw [hR] at r9
  clear hI8 hL8 hR N9 F9
  have N7 := newsSub N8 (l' := (D9, PySem.W.listOf ys.toArray ys.length) :: (_, oc) :: [(37, tabObj #[]), (30, tabObj #[]), (102, tabObj #[])]) (fun p hp => by
    rcases List.mem_cons.mp hp with e | hp
    · (rw [e]; exact List.Mem.head _)
    · exact .tail _ (.tail _ hp))
  refine loop_rangeS (RowJ D9 _ ys oc) rfl r9 (small_two (by omega)) (rsize_two _) F8 N7 ⟨_, rfl, tabs0⟩ ?turn ?done
  case turn =>
    intro i t0 m₁ news₁ h1 tk1 I itO hin ⟨tl1, e1, ht1⟩ hI1 hoff hkI F1 N1
    subst e1
    k_dflt (refine' turn_spec (R := R) (i := i) (t0 := t0) ?tu1 ?tu2 ?tu3 ?tu4 ?tu5 ?tu6 ?tu7 ?tu8 ht1 d9 hkI iR lR bR ?tu9 ?tua ?_; (case tu1 => k_asm); (case tu2 => exact F1); (case tu3 => k_asm); (case tu4 => exact N1); (case tu5 => k_asm); (case tu6 => exact rfl); (case tu7 => exact hdp); (case tu8 => exact hun); (case tu9 => exact hin); (case tua => exact List.forall_mem_cons.mpr ⟨rfl, List.forall_mem_nil _⟩))
    intro h2 tk2 tl2 m2 F2 N2 ht2
    refine' TurnPost.next ?nta1 ?nta2 ?nta3 ?nta4
    case nta4 => exact ⟨tl2, rfl, ht2⟩
    case nta1 => exact F2
    case nta2 => exact N2
    case nta3 =>
      refine' off_all (rest := [_, _]) ?ntam1 ht2 ?ntam2 ?ntam3 hkI (List.forall_mem_cons.mpr ⟨hoff _ (.head _), List.forall_mem_cons.mpr ⟨hoff _ (.tail _ (.head _)), List.forall_mem_nil _⟩⟩)
      case ntam1 => exact N2
      case ntam2 => ktr_rel
      case ntam3 => exact .head _
  case done =>
    intro h1 tk1 m1 nx1 ⟨tl1, e1, ht1⟩ F1 N1
    subst e1
    k_dflt (refine' after_spec (R := R) ?tu1 ?tu2 ?tu3 ?tu4 ?tu5 ?tu6 ?tu7 ?tu8 ht1 rfl d9 iR lR bR ?_; (case tu1 => k_asm); (case tu2 => exact F1); (case tu3 => k_asm); (case tu4 => exact N1); (case tu5 => k_asm); (case tu6 => exact rfl); (case tu7 => exact hdp); (case tu8 => exact hun))
    intro h2 tk2 tl2 m2 F2 N2 ht2
    k_steps)
end
end Mine
theorem PySem.Challenge.cw_xi0012_03_holds : PySem.Challenge.rw_xi0012_03.Holds :=
  Mine.law_holds
