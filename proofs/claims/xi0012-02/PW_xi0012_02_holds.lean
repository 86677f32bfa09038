import PyProof.Rows.All
import Wide.All
import OpenK.AllK
import Wide.FinOn
import PySem.Challenge.RW_xi0012_02
open PySem PySem.W PyProof.Rows PySem.Calls
set_option Elab.async false
set_option maxRecDepth 100000
set_option maxHeartbeats 4000000
namespace Mine
set_option maxHeartbeats 8000000 in
open_top hd for PySem.Challenge.rw_xi0012_02
section
theorem nat_and_shift (n k : Nat) : n &&& (n / 2 ^ k * 2 ^ k) = n / 2 ^ k * 2 ^ k := by
  rw [← Nat.shiftRight_eq_div_pow, ← Nat.shiftLeft_eq]
  apply Nat.eq_of_testBit_eq
  intro i
  rw [Nat.testBit_and, Nat.testBit_shiftLeft, Nat.testBit_shiftRight]
  by_cases h : k ≤ i
  · have : k + (i - k) = i := by omega
    simp [h, this]
  · simp [h]
theorem xor_low (n k : Nat) : Builtin.bitXor (n : Int) (((n / 2 ^ k : Nat) : Int) * 2 ^ k) = ((n % 2 ^ k : Nat) : Int) := by
  have e : (((n / 2 ^ k : Nat) : Int) * 2 ^ k) = ((n / 2 ^ k * 2 ^ k : Nat) : Int) := by norm_cast
  rw [e, bitXor_and]
  have ha : Builtin.bitAnd (n : Int) ((n / 2 ^ k * 2 ^ k : Nat) : Int) = ((n / 2 ^ k * 2 ^ k : Nat) : Int) := by
    unfold Builtin.bitAnd
    have h1 : decide ((n : Int) ≥ 0) = true := by simp
    have h2 : decide (((n / 2 ^ k * 2 ^ k : Nat) : Int) ≥ 0) = true := decide_eq_true (Int.natCast_nonneg _)
    simp only [h1, h2]
    rw [Int.toNat_natCast, Int.toNat_natCast, nat_and_shift]
  rw [ha]
  have := Nat.div_add_mod n (2 ^ k)
  rw [Nat.mul_comm] at this
  omega

def digs (n X len : Nat) : List Int := (List.range len).map fun i => ((X / 2 ^ (n * i) % 2 ^ n : Nat) : Int)
theorem digs_length (n X len : Nat) : (digs n X len).length = len := by simp [digs]
theorem digs_one {n X : Nat} (h : X < 2 ^ n) : digs n X 1 = [(X : Int)] := by
  have e : X / 2 ^ (n * 0) % 2 ^ n = X := by rw [Nat.mul_zero, Nat.pow_zero, Nat.div_one, Nat.mod_eq_of_lt h]
  show [((X / 2 ^ (n * 0) % 2 ^ n : Nat) : Int)] = _
  rw [e]
theorem digs_add (n X k j : Nat) : digs n X (k + j) = digs n (X % 2 ^ (n * k)) k ++ digs n (X / 2 ^ (n * k)) j := by
  unfold digs
  rw [List.range_add, List.map_append, List.map_map]
  congr 1
  · apply List.map_congr_left
    intro i hi
    have hi' : i < k := List.mem_range.mp hi
    congr 1
    have e : 2 ^ (n * k) = 2 ^ (n * i) * 2 ^ (n * (k - i)) := by
      rw [← Nat.pow_add, ← Nat.mul_add]; congr 2; omega
    rw [e, Nat.mod_mul_right_div_self]
    have e2 : 2 ^ (n * (k - i)) = 2 ^ n * 2 ^ (n * (k - i - 1)) := by
      rw [← Nat.pow_add]; congr 1
      have : k - i = (k - i - 1) + 1 := by omega
      rw [this, Nat.mul_add]; simp; omega
    rw [e2, Nat.mod_mul_right_mod]
  · apply List.map_congr_left
    intro i _
    simp only [Function.comp]
    congr 2
    rw [Nat.div_div_eq_div_mul, ← Nat.pow_add, ← Nat.mul_add]
def putD (ns : List Int) (lo : Nat) (ds : List Int) : List Int := ns.take lo ++ ds ++ ns.drop (lo + ds.length)
theorem putD_length {ns ds : List Int} {lo : Nat} (h : lo + ds.length ≤ ns.length) : (putD ns lo ds).length = ns.length := by
  simp [putD]; omega
theorem putD_one {ns : List Int} {lo : Nat} {x : Int} (h : lo < ns.length) : ns.set lo x = putD ns lo [x] := by
  unfold putD
  rw [List.set_eq_take_append_cons_drop, if_pos h]
  simp
theorem putD_two {ns a b : List Int} {lo : Nat} (h : lo + a.length + b.length ≤ ns.length) : putD (putD ns lo a) (lo + a.length) b = putD ns lo (a ++ b) := by
  unfold putD
  have h1 : (ns.take lo).length = lo := by rw [List.length_take]; omega
  have e1 : (ns.take lo ++ a ++ ns.drop (lo + a.length)).take (lo + a.length) = ns.take lo ++ a := by
    rw [List.take_append_of_le_length (by simp; omega)]
    apply List.take_of_length_le
    simp; omega
  have e2 : (ns.take lo ++ a ++ ns.drop (lo + a.length)).drop (lo + a.length + b.length) = ns.drop (lo + (a ++ b).length) := by
    rw [List.drop_append]
    have : (ns.take lo ++ a).drop (lo + a.length + b.length) = [] := by
      apply List.drop_of_length_le; simp; omega
    rw [this, List.nil_append, List.drop_drop, List.length_append, List.length_append, h1]
    congr 1
    omega
  rw [e1, e2]
  simp
theorem putD_all {ns ds : List Int} (h : ds.length = ns.length) : putD ns 0 ds = ds := by
  simp [putD, h]
theorem len_eq {b : Nat} {n : Int} {N : Nat} (hn : n = N) (h : 0 < N) : Int.fdiv ((b : Int) + n - 1) n = (((b + N - 1) / N : Nat) : Int) := by
  subst hn
  rw [Int.fdiv_eq_ediv_of_nonneg _ (by omega)]
  have : ((b : Int) + N - 1) = ((b + N - 1 : Nat) : Int) := by omega
  rw [this]; norm_cast

theorem mid_eq {Lo Ri : Int} {lo ri : Nat} (el : Lo = lo) (er : Ri = ri) : Int.fdiv (Lo + Ri) (2 ^ Int.toNat 1) = (((lo + ri) / 2 : Nat) : Int) := by
  subst el er
  have e : (2 : Int) ^ Int.toNat 1 = 2 := by decide
  rw [e, Int.fdiv_eq_ediv_of_nonneg _ (by decide)]
  norm_cast
theorem shift_eq {Lo nI : Int} {lo mid N : Nat} (el : Lo = lo) (en : nI = N) (h : lo ≤ mid) : ((mid : Int) - Lo) * nI = ((N * (mid - lo) : Nat) : Int) := by
  subst el en
  have : ((mid : Int) - lo) = ((mid - lo : Nat) : Int) := by omega
  rw [this, Nat.mul_comm]; norm_cast
theorem upper_eq {x : Int} {X k : Nat} (ex : x = X) : Int.fdiv x (2 ^ Int.toNat (k : Int)) = ((X / 2 ^ k : Nat) : Int) := by
  subst ex
  rw [Int.toNat_natCast, Int.fdiv_eq_ediv_of_nonneg _ (Int.le_of_lt (Int.pow_pos (by decide)))]
  norm_cast
theorem intBits_nat {X k : Nat} (h : X < 2 ^ k) : Builtin.Int.intBits (X : Int) ≤ k := by
  rw [intBits_le_iff]; simpa using h

theorem len_pos {X N len : Nat} {x : Int} (ex : x = X) (h0 : x ≠ 0) (hN : 0 < N) (hlen : len = (Builtin.Int.intBits x + N - 1) / N) : 0 < len ∧ X < 2 ^ (N * len) := by
  subst ex
  have hb : 0 < Builtin.Int.intBits (X : Int) := by
    unfold Builtin.Int.intBits
    have : ((X : Int) == 0) = false := by simpa using h0
    rw [this]; simp
  constructor
  · rw [hlen]; exact Nat.div_pos (by omega) hN
  · have h1 : X < 2 ^ Builtin.Int.intBits (X : Int) := by
      have := (intBits_le_iff (x := (X : Int)) (m := Builtin.Int.intBits (X : Int))).mp (Nat.le_refl _)
      simpa using this
    refine Nat.lt_of_lt_of_le h1 (Nat.pow_le_pow_right (by decide) ?_)
    rw [hlen]
    have h2 := Nat.div_add_mod (Builtin.Int.intBits (X : Int) + N - 1) N
    have h3 := Nat.mod_lt (Builtin.Int.intBits (X : Int) + N - 1) hN
    omega
theorem len_zero {X N len : Nat} {x : Int} (ex : x = X) (e : x = 0) (hN : 0 < N) (hlen : len = (Builtin.Int.intBits x + N - 1) / N) : len = 0 ∧ digs N X len = List.replicate len 0 := by
  have : len = 0 := by
    rw [hlen, e]
    have : Builtin.Int.intBits 0 = 0 := by decide
    rw [this]
    exact Nat.div_eq_of_lt (by omega)
  subst this
  exact ⟨rfl, rfl⟩

theorem upper_back (X sh : Nat) : ((X / 2 ^ sh : Nat) : Int) * 2 ^ Int.toNat (sh : Int) = ((X / 2 ^ sh : Nat) : Int) * 2 ^ sh := by rw [Int.toNat_natCast]
theorem shl_fits {Y sh k : Nat} (h : Y < 2 ^ k) (hk : k + sh ≤ 134217728) : (Builtin.Int.intBits (Y : Int) : Int) + (sh : Int) ≤ 2 ^ 27 := by
  have := intBits_nat h
  have e : (2 : Int) ^ 27 = 134217728 := by decide
  omega

theorem base_ints {vs : List Value} {ns : List Int} {lo ri X N : Nat} {t : Tok} (h : IntsAre (vs.set (Int.toNat (lo : Int)) (.int (X : Int) t)) (ns.set (Int.toNat (lo : Int)) (X : Int))) (e : (lo : Int) + 1 = ri)
    (hX : X < 2 ^ (N * (ri - lo))) (hl : ri ≤ ns.length) : IntsAre (vs.set (Int.toNat (lo : Int)) (.int (X : Int) t)) (putD ns lo (digs N X (ri - lo))) := by
  have e1 : ri - lo = 1 := by omega
  rw [e1] at hX ⊢
  rw [Nat.mul_one] at hX
  rw [digs_one hX, ← putD_one (by omega)]
  rw [Int.toNat_natCast] at h ⊢
  exact h
theorem two_digs {ns : List Int} {lo mid ri N X sh : Nat} (h1 : lo ≤ mid) (h2 : mid ≤ ri) (hl : ri ≤ ns.length) (hs : N * (mid - lo) = sh) :
    putD (putD ns lo (digs N (X % 2 ^ sh) (mid - lo))) mid (digs N (X / 2 ^ sh) (ri - mid)) = putD ns lo (digs N X (ri - lo)) := by
  subst hs
  have e1 : ri - lo = (mid - lo) + (ri - mid) := by omega
  have e2 : lo + (digs N (X % 2 ^ (N * (mid - lo))) (mid - lo)).length = mid := by rw [digs_length]; omega
  rw [e1, digs_add]
  have := putD_two (ns := ns) (lo := lo) (a := digs N (X % 2 ^ (N * (mid - lo))) (mid - lo)) (b := digs N (X / 2 ^ (N * (mid - lo))) (ri - mid)) (by rw [digs_length, digs_length]; omega)
  rw [e2] at this
  exact this
theorem div_bound {X N sh lo mid ri : Nat} (h1 : lo ≤ mid) (h2 : mid ≤ ri) (hs : N * (mid - lo) = sh) (hX : X < 2 ^ (N * (ri - lo))) : X / 2 ^ sh < 2 ^ (N * (ri - mid)) := by
  subst hs
  apply Nat.div_lt_of_lt_mul
  rw [← Nat.pow_add, ← Nat.mul_add]
  have : mid - lo + (ri - mid) = ri - lo := by omega
  rw [this]; exact hX
theorem half_le {lo mid ri dep : Nat} (hm : (lo + ri) / 2 = mid) (hlr : lo < ri) (hd : ri - lo ≤ 2 ^ dep) (h1 : ¬ (lo : Int) + 1 = ri) : 0 < dep ∧ lo < mid ∧ mid < ri ∧ mid - lo ≤ 2 ^ (dep - 1) ∧ ri - mid ≤ 2 ^ (dep - 1) := by
  cases dep with
  | zero => simp at hd; omega
  | succ n =>
    have e : 2 ^ (n + 1) = 2 * 2 ^ n := by rw [Nat.pow_succ, Nat.mul_comm]
    rw [e] at hd
    simp only [Nat.add_sub_cancel]
    omega
theorem low_bits {lo ri n : Nat} (h : ri ≤ n) (hn : n ≤ 256) (N : Nat) (hN : N ≤ 2000) : N * (ri - lo) ≤ 512000 := by
  have : N * (ri - lo) ≤ 2000 * 256 := Nat.mul_le_mul hN (by omega)
  omega

/-! the value of figures -/
def val (N : Nat) : List Int → Int
  | [] => 0
  | d :: r => d + val N r * 2 ^ N
def InR (N : Nat) (ns : List Int) : Prop := ∀ d ∈ ns, 0 ≤ d ∧ d < 2 ^ N
theorem val_append (N : Nat) : ∀ a b : List Int, val N (a ++ b) = val N b * 2 ^ (N * a.length) + val N a
  | [], b => by simp [val]
  | d :: r, b => by
    show d + val N (r ++ b) * 2 ^ N = val N b * 2 ^ (N * (r.length + 1)) + (d + val N r * 2 ^ N)
    rw [val_append N r b, Nat.mul_add, Nat.mul_one, Int.pow_add, Int.add_mul, Int.mul_assoc]
    omega
theorem val_bounds (N : Nat) : ∀ ns : List Int, InR N ns → 0 ≤ val N ns ∧ val N ns < 2 ^ (N * ns.length)
  | [], _ => by simp [val]
  | d :: r, h => by
    have hd := h d (.head _)
    have hr := val_bounds N r fun x hx => h x (.tail _ hx)
    have hp : (0 : Int) < 2 ^ N := Int.pow_pos (by decide)
    refine ⟨?_, ?_⟩
    · show 0 ≤ d + val N r * 2 ^ N
      have := Int.mul_nonneg hr.1 (Int.le_of_lt hp)
      omega
    · show d + val N r * 2 ^ N < 2 ^ (N * (r.length + 1))
      rw [Nat.mul_add, Nat.mul_one, Int.pow_add]
      have h1 : (val N r + 1) * 2 ^ N ≤ 2 ^ (N * r.length) * 2 ^ N := Int.mul_le_mul_of_nonneg_right (by omega) (Int.le_of_lt hp)
      rw [Int.add_mul] at h1
      omega
theorem digs_inR (N X len : Nat) : InR N (digs N X len) := by
  intro d hd
  obtain ⟨i, _, rfl⟩ := List.mem_map.mp hd
  refine ⟨Int.natCast_nonneg _, ?_⟩
  have := Nat.mod_lt (X / 2 ^ (N * i)) (show 0 < 2 ^ N from Nat.pow_pos (by decide))
  exact_mod_cast this
theorem val_digs (N : Nat) : ∀ len X : Nat, X < 2 ^ (N * len) → val N (digs N X len) = X
  | 0, X, h => by
    have : X = 0 := by simpa using h
    subst this
    rfl
  | len + 1, X, h => by
    have hd : digs N X (1 + len) = digs N (X % 2 ^ (N * 1)) 1 ++ digs N (X / 2 ^ (N * 1)) len := digs_add N X 1 len
    rw [Nat.add_comm, hd, val_append, digs_length, Nat.mul_one]
    have hlt : X % 2 ^ N < 2 ^ N := Nat.mod_lt _ (Nat.pow_pos (by decide))
    rw [digs_one hlt]
    rw [val_digs N len (X / 2 ^ N) (by
      apply Nat.div_lt_of_lt_mul
      rw [← Nat.pow_add]
      have : N + N * len = N * (len + 1) := by rw [Nat.mul_add]; omega
      rw [this]; exact h)]
    show ((X / 2 ^ N : Nat) : Int) * 2 ^ N + (((X % 2 ^ N : Nat) : Int) + 0 * 2 ^ N) = X
    have := Nat.div_add_mod X (2 ^ N)
    rw [Nat.mul_comm] at this
    have h2 : ((X / 2 ^ N * 2 ^ N + X % 2 ^ N : Nat) : Int) = (X : Int) := by rw [this]
    push_cast at h2 ⊢
    omega
/-- the part from lo up to ri -/
def seg (ns : List Int) (lo ri : Nat) : List Int := (ns.drop lo).take (ri - lo)
theorem seg_length {ns : List Int} {lo ri : Nat} (h : ri ≤ ns.length) : (seg ns lo ri).length = ri - lo := by
  simp [seg]; omega
theorem seg_one {ns : List Int} {lo : Nat} (h : lo < ns.length) : seg ns lo (lo + 1) = [ns.getD lo 0] := by
  unfold seg
  rw [Nat.add_sub_cancel_left, List.drop_eq_getElem_cons h]
  show [ns[lo]] = [ns.getD lo 0]
  rw [List.getD_eq_getElem?_getD, List.getElem?_eq_getElem h]
  rfl
theorem seg_two {ns : List Int} {lo mid ri : Nat} (h1 : lo ≤ mid) (h2 : mid ≤ ri) : seg ns lo ri = seg ns lo mid ++ seg ns mid ri := by
  unfold seg
  have e : ri - lo = (mid - lo) + (ri - mid) := by omega
  rw [e, List.take_add, List.drop_drop]
  congr 3
  omega
theorem seg_all (ns : List Int) : seg ns 0 ns.length = ns := by simp [seg]
theorem seg_inR {N : Nat} {ns : List Int} (h : InR N ns) (lo ri : Nat) : InR N (seg ns lo ri) := fun d hd => h d (List.mem_of_mem_drop (List.mem_of_mem_take hd))
theorem val_seg {N : Nat} {ns : List Int} {lo mid ri : Nat} (h1 : lo ≤ mid) (h2 : mid ≤ ri) (hl : ri ≤ ns.length) {sh : Nat} (hs : N * (mid - lo) = sh) :
    val N (seg ns mid ri) * 2 ^ Int.toNat (sh : Int) + val N (seg ns lo mid) = val N (seg ns lo ri) := by
  subst hs
  rw [seg_two h1 h2, val_append, seg_length (by omega), Int.toNat_natCast]
theorem val_fits {N : Nat} {ns : List Int} {mid ri sh : Nat} (h : InR N ns) (hl : ri ≤ ns.length) (hn : ns.length ≤ 256) (hN : N ≤ 2000) (hs : sh ≤ 512000) :
    (Builtin.Int.intBits (val N (seg ns mid ri)) : Int) + (sh : Int) ≤ 2 ^ 27 := by
  have hb := val_bounds N _ (seg_inR h mid ri)
  rw [seg_length hl] at hb
  have h1 : Builtin.Int.intBits (val N (seg ns mid ri)) ≤ N * (ri - mid) := by
    rw [intBits_le_iff]
    have e := Int.toNat_of_nonneg hb.1
    have h3 : (((val N (seg ns mid ri)).toNat : Nat) : Int) < ((2 ^ (N * (ri - mid)) : Nat) : Int) := by
      rw [e]; push_cast; exact hb.2
    have h4 : (val N (seg ns mid ri)).natAbs = (val N (seg ns mid ri)).toNat := by omega
    rw [h4]
    exact_mod_cast h3
  have h2 := low_bits (lo := mid) hl hn N hN
  have e : (2 : Int) ^ 27 = 134217728 := by decide
  omega

theorem val_one {N : Nat} {ns : List Int} {lo ri : Nat} (e : (lo : Int) + 1 = ri) (h : ri ≤ ns.length) : ns.getD (Int.toNat (lo : Int)) 0 = val N (seg ns lo ri) := by
  have e1 : ri = lo + 1 := by omega
  subst e1
  rw [seg_one (by omega), Int.toNat_natCast]
  show _ = ns.getD lo 0 + 0 * 2 ^ N
  omega
theorem val_nil {N : Nat} {ns : List Int} (h : ¬ 0 < ns.length) : val N ns = 0 := by
  cases ns with
  | nil => rfl
  | cons _ _ => simp at h

theorem bits_pos {Y : Nat} (h : 0 < Y) : 0 < Builtin.Int.intBits (Y : Int) ∧ Y < 2 ^ Builtin.Int.intBits (Y : Int) := by
  constructor
  · unfold Builtin.Int.intBits
    have : ((Y : Int) == 0) = false := by simp; omega
    rw [this]; simp
  · have := (intBits_le_iff (x := (Y : Int)) (m := Builtin.Int.intBits (Y : Int))).mp (Nat.le_refl _)
    simpa using this

theorem div_step {H d Y P : Nat} (hY : 0 < Y) (hd : d < P) : (H * P + d) % Y = (H % Y * P + d) % Y ∧ (H * P + d) / Y = H / Y * P + (H % Y * P + d) / Y ∧ (H % Y * P + d) / Y < P ∧ H % Y * P + d < Y * P := by
  have e : H * P + d = H % Y * P + d + Y * (H / Y * P) := by
    have h1 := Nat.div_add_mod H Y
    have h2 : H * P = (Y * (H / Y) + H % Y) * P := by rw [h1]
    rw [h2, Nat.add_mul, Nat.mul_assoc]; omega
  have hm := Nat.mod_lt H hY
  have hb : H % Y * P + d < Y * P := by
    have h3 : (H % Y + 1) * P ≤ Y * P := Nat.mul_le_mul_right P hm
    rw [Nat.add_mul] at h3
    omega
  refine ⟨?_, ?_, ?_, hb⟩
  · rw [e, Nat.add_mul_mod_self_left]
  · rw [e, Nat.add_mul_div_left _ _ hY]; omega
  · exact Nat.div_lt_of_lt_mul hb
/-- the top i figures -/
def top (X N len i : Nat) : Nat := X / 2 ^ (N * (len - i))
theorem top_zero {X N len : Nat} (h : X < 2 ^ (N * len)) : top X N len 0 = 0 := Nat.div_eq_of_lt h
theorem top_all (X N len : Nat) : top X N len len = X := by simp [top]
theorem top_succ {X N len i : Nat} (hi : i < len) : top X N len (i + 1) = top X N len i * 2 ^ N + X / 2 ^ (N * (len - 1 - i)) % 2 ^ N := by
  unfold top
  have e1 : len - (i + 1) = len - 1 - i := by omega
  have e2 : N * (len - i) = N * (len - 1 - i) + N := by
    have : len - i = (len - 1 - i) + 1 := by omega
    rw [this, Nat.mul_add, Nat.mul_one]
  rw [e1, e2, Nat.pow_add, ← Nat.div_div_eq_div_mul]
  have := Nat.div_add_mod (X / 2 ^ (N * (len - 1 - i))) (2 ^ N)
  rw [Nat.mul_comm] at this
  exact this.symm
theorem digs_getD {N X len j : Nat} (h : j < len) : (digs N X len).getD j 0 = ((X / 2 ^ (N * j) % 2 ^ N : Nat) : Int) := by
  rw [List.getD_eq_getElem?_getD]
  unfold digs
  rw [List.getElem?_map, List.getElem?_range h]
  rfl
theorem log2_small {Y N : Nat} (h : Y < 2 ^ N) (hN : N ≤ 2000) : (Y : Int).natAbs.log2 < 9000 := by
  have e : (Y : Int).natAbs = Y := by omega
  rw [e]
  rcases Nat.eq_zero_or_pos Y with rfl | hp
  · decide
  · have := (Nat.log2_lt (Nat.ne_of_gt hp)).mpr (Nat.lt_of_lt_of_le h (Nat.pow_le_pow_right (by decide) (show N ≤ 9000 by omega)))
    exact this
theorem nat_fdiv (a b : Nat) : Int.fdiv (a : Int) (b : Int) = ((a / b : Nat) : Int) := by
  rw [Int.fdiv_eq_ediv_of_nonneg _ (Int.natCast_nonneg b)]; norm_cast
theorem nat_fmod (a b : Nat) : Int.fmod (a : Int) (b : Int) = ((a % b : Nat) : Int) := by
  rw [Int.fmod_eq_emod_of_nonneg _ (Int.natCast_nonneg b)]; norm_cast
theorem bits_two {xx N Y : Nat} (h : xx < Y * 2 ^ N) (hY : Y < 2 ^ N) : Builtin.Int.intBits (xx : Int) ≤ 2 * N := by
  apply intBits_nat
  have e : 2 ^ (2 * N) = 2 ^ N * 2 ^ N := by rw [← Nat.pow_add]; congr 1; omega
  rw [e]
  exact Nat.lt_of_lt_of_le h (Nat.mul_le_mul_right _ (Nat.le_of_lt hY))

theorem inR_snoc {N : Nat} {qs : List Int} {q : Nat} (h : InR N qs) (hq : q < 2 ^ N) : InR N (qs ++ [(q : Int)]) := by
  intro d hd
  rcases List.mem_append.mp hd with hd | hd
  · exact h d hd
  · rw [List.mem_singleton.mp hd]
    exact ⟨Int.natCast_nonneg _, by exact_mod_cast hq⟩
theorem inR_rev {N : Nat} {qs : List Int} (h : InR N qs) : InR N qs.reverse := fun d hd => h d (List.mem_reverse.mp hd)
theorem val_snoc_rev {N : Nat} {qs : List Int} {q : Int} : val N (qs ++ [q]).reverse = q + val N qs.reverse * 2 ^ N := by
  rw [List.reverse_append]; rfl
end
section
/-- an object that may be a table of codes -/
def tlk (o : Obj) : Bool := match o.data with
  | .fields vs => o.cls == .none || (match (vs[1]? : Option Value) with | some (.str _ _) => true | _ => false)
  | _ => false
/-- a table of codes, or like one -/
def tabby (o : Obj) : Bool := match o.data with
  | .fields vs => o.cls == .none && (match (vs[1]? : Option Value) with | some (.str _ _) => false | _ => true)
  | _ => false
/-- where the tables of codes stand -/
def tabAdr : List Addr := [30, 37, 95]
def NT (l : List (Addr × Obj)) : Prop := ∀ p ∈ l, tabby p.2 = false ∨ p.1 ∉ tabAdr
theorem NT.nil : NT [] := fun _ h => nomatch h
theorem NT.cons {a : Addr} {o : Obj} {l : List (Addr × Obj)} (h : tabby o = false) (r : NT l) : NT ((a, o) :: l) := fun p hp => by
  rcases List.mem_cons.mp hp with rfl | hp
  · exact .inl h
  · exact r p hp
theorem NT.consA {a : Addr} {o : Obj} {l : List (Addr × Obj)} (h : a ∉ tabAdr) (r : NT l) : NT ((a, o) :: l) := fun p hp => by
  rcases List.mem_cons.mp hp with rfl | hp
  · exact .inr h
  · exact r p hp
/-- what a step may leave behind: what was there, tables, and what is new -/
def Fresh (rest tl tl' : List (Addr × Obj)) : Prop := ∀ q ∈ tl', q ∈ tl ∨ q.1 ∈ tabAdr ∨ ∀ p ∈ rest, p.1 < q.1
theorem Fresh.refl (rest tl : List (Addr × Obj)) : Fresh rest tl tl := fun _ hq => .inl hq
theorem Fresh.trans {rest rest' tl tl₁ tl₂ : List (Addr × Obj)} (h1 : Fresh rest tl tl₁) (h2 : Fresh rest' tl₁ tl₂) (hs : ∀ p ∈ rest, p ∈ rest') : Fresh rest tl tl₂ := fun q hq => by
  rcases h2 q hq with h | h | h
  · exact h1 q h
  · exact .inr (.inl h)
  · exact .inr (.inr fun p hp => h p (hs p hp))
theorem Fresh.sub {rest rest' tl tl' : List (Addr × Obj)} (h : Fresh rest' tl tl') (hs : ∀ p ∈ rest, p ∈ rest') : Fresh rest tl tl' := Fresh.trans (Fresh.refl rest tl) h hs
theorem tabby_of_tlk {o : Obj} (h : tlk o = false) : tabby o = false := by
  unfold tlk at h; unfold tabby
  split
  · rename_i vs e
    rw [e] at h
    simp only [Bool.or_eq_false_iff] at h
    simp [h.1]
  · rfl
theorem tabby_cell {o : Obj} {v : Option Value} (h : o.data = .cell v) : tabby o = false := by unfold tabby; rw [h]
theorem tabby_code {o : Obj} {vs : Array Value} {x : Str} {t : Tok} (h : o.data = .fields vs) (hv : vs[1]? = some (.str x t)) : tabby o = false := by unfold tabby; rw [h]; simp [hv]
theorem tlk_cell {o : Obj} {v : Option Value} (h : o.data = .cell v) : tlk o = false := by unfold tlk; rw [h]
theorem tlk_code {o : Obj} {vs : Array Value} {x : Str} {t : Tok} (h : o.data = .fields vs) (hv : vs[1]? = some (.str x t)) : tlk o = true := by unfold tlk; rw [h]; simp [hv]

structure TS where
  P : Nat
  line : Nat
  col : Nat
  qual : Str

def TabSt (tl : List (Addr × Obj)) (T : TS) (ps : Array Value) : Prop :=
  ps = #[] ∨ ∃ c' oc vs t, ps = #[rawInt T.line, rawInt T.col, .ref c'] ∧ (c', oc) ∈ tl ∧ oc.data = .fields vs ∧ vs[1]? = some (.str T.qual t)
def TsOk (Ts : List TS) : Prop := (∀ T₁ ∈ Ts, ∀ T₂ ∈ Ts, T₁.P = T₂.P → T₁ = T₂) ∧ ∀ T ∈ Ts, T.P ∈ tabAdr
/-- what the ledger's tail says of the tables of codes -/
def TabsOk (Ts : List TS) (tl : List (Addr × Obj)) : Prop := (∀ p ∈ tl, tlk p.2 = true) ∧ ∀ T ∈ Ts, ∃ ps, (T.P, tabObj ps) ∈ tl ∧ TabSt tl T ps

theorem tlk_tab (ps : Array Value) : tlk (tabObj ps) = true := rfl
theorem triples_tab {tl : List (Addr × Obj)} {T : TS} {ps : Array Value} (h : TabSt tl T ps) : TriplesOk ps.toList := by
  rcases h with rfl | ⟨_, _, _, _, rfl, _⟩
  · exact trivial
  · exact trivial

inductive Spl : List (Addr × Obj) → List (Addr × Obj) → List (Addr × Obj) → Prop
  | base {rest tl} : NT rest → Spl (rest ++ tl) rest tl
  | keep {a o news rest tl} : tabby o = false → Spl news rest tl → Spl ((a, o) :: news) ((a, o) :: rest) tl
  | drop {p news rest tl} : Spl news rest tl → Spl (p :: news) rest tl
theorem Spl.nt {news rest tl : List (Addr × Obj)} (h : Spl news rest tl) : NT rest := by
  induction h with
  | base h => exact h
  | keep h _ ih => exact NT.cons h ih
  | drop _ ih => exact ih
theorem Spl.sub {news rest tl : List (Addr × Obj)} (h : Spl news rest tl) : ∀ p ∈ rest ++ tl, p ∈ news := by
  induction h with
  | base h => exact fun p hp => hp
  | keep h _ ih =>
    intro p hp
    rcases List.mem_cons.mp hp with rfl | hp
    · exact .head _
    · exact .tail _ (ih p hp)
  | drop _ ih => exact fun p hp => .tail _ (ih p hp)
theorem memL {α : Type} {a : α} {l r : List α} (h : a ∈ l) : List.Mem a (l ++ r) := List.mem_append_left _ h
theorem memR {α : Type} {a : α} {l r : List α} (h : a ∈ r) : List.Mem a (l ++ r) := List.mem_append_right _ h
theorem memL' {α : Type} {a : α} {l r : List α} (h : a ∈ l) : a ∈ l ++ r := List.mem_append_left _ h
theorem memR' {α : Type} {a : α} {l r : List α} (h : a ∈ r) : a ∈ l ++ r := List.mem_append_right _ h
theorem memI {α : Type} {a : α} {l : List α} (h : a ∈ l) : List.Mem a l := h
theorem ne_above {l : List (Addr × Obj)} {a d : Addr} (h : ∀ p ∈ l, p.1 < a) (ha : @LE.le Nat _ a d) : ∀ p ∈ l, p.1 ≠ d := fun p hp => Nat.ne_of_lt (Nat.lt_of_lt_of_le (h p hp) ha)
theorem newsSub {h₀ h : Heap} {L : Addr} {l l' : List (Addr × Obj)} (N : News h₀ L h l) (hs : ∀ p ∈ l', p ∈ l) : News h₀ L h l' := fun p hp => N p (hs p hp)
theorem Spl.news {h₀ h : Heap} {L : Addr} {news rest tl : List (Addr × Obj)} (hs : Spl news rest tl) (N : News h₀ L h news) : News h₀ L h (rest ++ tl) := newsSub N hs.sub
theorem news_same {h₀ h : Heap} {L a : Addr} {o o' : Obj} {news : List (Addr × Obj)} (N : News h₀ L h news) (h1 : (a, o) ∈ news) (h2 : (a, o') ∈ news) : o = o' := by
  have e1 := (N _ h1).1
  have e2 := (N _ h2).1
  exact Option.some.inj (e1.symm.trans e2)

inductive TailOf (tl : List (Addr × Obj)) : List (Addr × Obj) → Prop
  | base {rest} : TailOf tl (rest ++ tl)
  | cons {p news} : TailOf tl news → TailOf tl (p :: news)
theorem TailOf.sub {tl news : List (Addr × Obj)} (h : TailOf tl news) : ∀ p ∈ tl, p ∈ news := by
  induction h with
  | base => exact fun p hp => List.mem_append_right _ hp
  | cons _ ih => exact fun p hp => .tail _ (ih p hp)
inductive Suf (l : List (Addr × Obj)) : List (Addr × Obj) → Prop
  | base : Suf l l
  | cons {p news} : Suf l news → Suf l (p :: news)
theorem Suf.sub {l news : List (Addr × Obj)} (h : Suf l news) : ∀ p ∈ l, p ∈ news := by
  induction h with
  | base => exact fun p hp => hp
  | cons _ ih => exact fun p hp => .tail _ (ih p hp)
inductive Pick : List (Addr × Obj) → List (Addr × Obj) → Prop
  | base {l news} : Suf l news → Pick l news
  | cons {p l news} : p ∈ news → Pick l news → Pick (p :: l) news
theorem Pick.sub {l news : List (Addr × Obj)} (h : Pick l news) : ∀ p ∈ l, p ∈ news := by
  induction h with
  | base h => exact h.sub
  | cons h _ ih =>
    intro p hp
    rcases List.mem_cons.mp hp with rfl | hp
    · exact h
    · exact ih p hp
theorem Pick.news {h₀ h : Heap} {L : Addr} {l news : List (Addr × Obj)} (hp : Pick l news) (N : News h₀ L h news) : News h₀ L h l := newsSub N hp.sub
theorem news_hd {h₀ h : Heap} {L : Addr} {news l : List (Addr × Obj)} {q : Addr × Obj} (N : News h₀ L h news) (hm : q ∈ news) (hs : Suf l news) : News h₀ L h (q :: l) := newsSub N fun p hp => by
  rcases List.mem_cons.mp hp with rfl | hp
  · exact hm
  · exact hs.sub p hp
theorem lt_suf {news rest tl : List (Addr × Obj)} {d : Addr} (h : ∀ p ∈ news, p.1 < d) (hs : Suf (rest ++ tl) news) : ∀ p ∈ rest, p.1 < d := fun p hp => h p (hs.sub p (List.mem_append_left _ hp))
/-- an object that is no record stands apart from the tables and their codes -/
theorem off_all {Ts : List TS} {h₀ h : Heap} {L c : Addr} {o : Obj} {news rest tl : List (Addr × Obj)} (N : News h₀ L h news) (ht : TabsOk Ts tl) (hs : TailOf tl news) (hm : (c, o) ∈ news) (hd : tlk o = false)
    (hr : ∀ p ∈ rest, p.1 ≠ c) : ∀ p ∈ rest ++ tl, p.1 ≠ c := fun p hp e => by
  rcases List.mem_append.mp hp with hp | hp
  · exact hr p hp e
  · obtain ⟨b, o'⟩ := p
    cases e
    have hv := ht.1 _ hp
    have q := news_same N (hs.sub _ hp) hm
    cases q
    rw [hd] at hv
    cases hv
inductive Sel (c : Addr) : List (Addr × Obj) → List (Addr × Obj) → Prop
  | base {l} : (∀ p ∈ l, p.1 ≠ c) → Sel c l l
  | keep {a : Addr} {o r r'} : a ≠ c → Sel c r r' → Sel c ((a, o) :: r) ((a, o) :: r')
  | drop {p r r'} : Sel c r r' → Sel c (p :: r) r'
theorem Sel.hit {c : Addr} {o : Obj} {r r' : List (Addr × Obj)} (h : Sel c r r') : Sel c ((c, o) :: r) r' := .drop h
theorem Sel.sub {c : Addr} {l l' : List (Addr × Obj)} (h : Sel c l l') : ∀ p ∈ l', p ∈ l ∧ p.1 ≠ c := by
  induction h with
  | base h => exact fun p hp => ⟨hp, h p hp⟩
  | keep h _ ih =>
    intro p hp
    rcases List.mem_cons.mp hp with rfl | hp
    · exact ⟨.head _, h⟩
    · exact ⟨.tail _ (ih p hp).1, (ih p hp).2⟩
  | drop _ ih => exact fun p hp => ⟨.tail _ (ih p hp).1, (ih p hp).2⟩
theorem ne_kind {h₀ h : Heap} {L a c : Addr} {o o' : Obj} {news : List (Addr × Obj)} (N : News h₀ L h news) (h1 : (a, o) ∈ news) (h2 : (c, o') ∈ news) (hn : (o.cls == o'.cls) = false) : a ≠ c := fun e => by
  cases e
  rw [news_same N h1 h2] at hn
  simp at hn

section
variable {M : Model} {A : Around} {E : Value → Shared → Prop} {s : Shared} {h₀ : Heap} {L a : Addr} {m : Str → Option Value} {cn : Str} {cs : Scope} {ccd : Value} {cl : List (Str × Addr)}
  {x : Str} {v : Value} {Q : Unit → Shared → Prop} {news news' : List (Addr × Obj)} {c : Addr} {o : Obj} {v₀ : Option Value}
/-- a store into a cell of the frame's -/
theorem store_cell (F : Fr h₀ L s.heap m) (N : News h₀ L s.heap news) (hc : cl.lookup x = some c) (hm : (c, o) ∈ news) (hd : o.data = .cell v₀) (hs : Sel c news news')
    (h : ∀ h' o', Fr h₀ L h' m → News h₀ L h' ((c, o') :: news') → o'.data = .cell (some v) → Q () { s with heap := h' })
    (hk : cs.kind = .function := by rfl) (hx : (envX cn cs L a ccd cl).kindOf x = some .cell := by rfl) : wpAny M A (storeName (envX cn cs L a ccd cl) x v) Q E s :=
  storeX_C F (newsSub N (l' := (c, o) :: news') fun p hp => by
    rcases List.mem_cons.mp hp with rfl | hp
    · exact hm
    · exact (hs.sub p hp).1) hc (.head fun p hp => (hs.sub p hp).2) hd h hk hx
end

section
variable {M : Model} {A : Around} {E : Value → Shared → Prop} {s : Shared} {h₀ : Heap} {L a c : Addr} {m mg mb : Str → Option Value} {cn : Str} {cs : Scope} {ccd : Value} {cl : List (Str × Addr)} {rest tl : List (Addr × Obj)}
  {p : Program} {loose : List Str} {mean : ExcName → Option Value} {name qual : Str} {params : Arguments} {body : List Stmt} {scope : Scope} {pos : Pos} {firstLine : Nat} {clos : List (Str × Addr)} {Ts : List TS}

/-- the ledger that a table's own step wants, and what it leaves -/
theorem tab_put {T : TS} {ps : Array Value} {h' : Heap} {f c' : Addr} {fo oc : Obj} {vs : Array Value} {t : Tok} (N : News h₀ L s.heap (rest ++ tl)) (ht : TabsOk Ts tl) (hu : TsOk Ts) (hT : T ∈ Ts) (hm : (T.P, tabObj ps) ∈ tl) (hs : ps = #[])
    (N' : News h₀ L h' ((f, fo) :: (c', oc) :: (T.P, tabObj (ps ++ #[rawInt T.line, rawInt T.col, .ref c'])) :: (rest ++ tl.filter fun p => decide (p.1 ≠ T.P)))) (hd : oc.data = .fields vs) (hv : vs[1]? = some (.str T.qual t)) (hlt : ∀ p ∈ rest, p.1 < c') :
    ∃ tl', News h₀ L h' ((f, fo) :: (rest ++ tl')) ∧ TabsOk Ts tl' ∧ (c', oc) ∈ tl' ∧ Fresh rest tl tl' := by
  subst hs
  refine ⟨(c', oc) :: (T.P, tabObj #[rawInt T.line, rawInt T.col, .ref c']) :: (tl.filter fun p => decide (p.1 ≠ T.P)), newsSub N' (fun p hp => ?_), ⟨fun p hp => ?_, fun T₁ h1 => ?_⟩, .head _, fun q hq => ?_⟩
  · rcases List.mem_cons.mp hp with rfl | hp
    · exact .head _
    · refine .tail _ ?_
      rcases List.mem_append.mp hp with hp | hp
      · exact .tail _ (.tail _ (List.mem_append_left _ hp))
      · rcases List.mem_cons.mp hp with rfl | hp
        · exact .head _
        · rcases List.mem_cons.mp hp with rfl | hp
          · exact .tail _ (.head _)
          · exact .tail _ (.tail _ (List.mem_append_right _ hp))
  · rcases List.mem_cons.mp hp with rfl | hp
    · exact tlk_code hd hv
    · rcases List.mem_cons.mp hp with rfl | hp
      · exact tlk_tab _
      · exact ht.1 p (List.mem_filter.mp hp).1
  · obtain ⟨ps₁, hm₁, hs₁⟩ := ht.2 T₁ h1
    by_cases e : T₁.P = T.P
    · have := hu.1 T₁ h1 T hT e
      subst this
      exact ⟨_, .tail _ (.head _), .inr ⟨c', oc, vs, t, rfl, .head _, hd, hv⟩⟩
    · refine ⟨ps₁, .tail _ (.tail _ (List.mem_filter.mpr ⟨hm₁, by simpa using e⟩)), ?_⟩
      rcases hs₁ with rfl | ⟨c₁, oc₁, vs₁, t₁, rfl, hc₁, hd₁, hv₁⟩
      · exact .inl rfl
      · refine .inr ⟨c₁, oc₁, vs₁, t₁, rfl, .tail _ (.tail _ (List.mem_filter.mpr ⟨hc₁, ?_⟩)), hd₁, hv₁⟩
        by_cases e₂ : c₁ = T.P
        · subst e₂
          have q := news_same N (List.mem_append_right _ hc₁) (List.mem_append_right _ hm)
          rw [q] at hd₁
          cases hd₁
          cases hv₁
        · simpa using e₂
  · rcases List.mem_cons.mp hq with rfl | hq
    · exact .inr (.inr hlt)
    · rcases List.mem_cons.mp hq with rfl | hq
      · exact .inr (.inl (hu.2 T hT))
      · exact .inl (List.mem_filter.mp hq).1
theorem tab_need {T : TS} {ps : Array Value} (N : News h₀ L s.heap (rest ++ tl)) (hr : NT rest) (hTP : T.P ∈ tabAdr) (hm : (T.P, tabObj ps) ∈ tl) (hs : ps = #[]) :
    News h₀ L s.heap ((T.P, tabObj ps) :: (rest ++ tl.filter fun p => decide (p.1 ≠ T.P))) ∧ ∀ p ∈ rest ++ tl.filter (fun p => decide (p.1 ≠ T.P)), p.1 ≠ T.P := by
  refine ⟨fun p hp => ?_, fun p hp e => ?_⟩
  · rcases List.mem_cons.mp hp with rfl | hp
    · exact N _ (List.mem_append_right _ hm)
    · rcases List.mem_append.mp hp with hp | hp
      · exact N _ (List.mem_append_left _ hp)
      · exact N _ (List.mem_append_right _ (List.mem_filter.mp hp).1)
  · rcases List.mem_append.mp hp with hp | hp
    · obtain ⟨b, o⟩ := p
      cases e
      have q := news_same N (List.mem_append_left _ hp) (List.mem_append_right _ hm)
      rcases hr _ hp with this | this
      · rw [q, hs] at this
        cases this
      · exact this hTP
    · have := (List.mem_filter.mp hp).2
      simp [e] at this

theorem nest_any {Q : Value → Shared → Prop} (T : TS) (hT : T ∈ Ts) (hu : TsOk Ts) (F : Fr h₀ L s.heap m) (N : News h₀ L s.heap (rest ++ tl)) (hr : NT rest) (ht : TabsOk Ts tl) (Tp : Top p loose mean mg mb h₀) (C : CodeHd h₀ c T.P) (hcd : ccd = .ref c)
    (hl : T.line = pos.line) (hc : T.col = pos.col) (hq : T.qual = qual) (hcl : closureFor scope (envX cn cs L a ccd cl) = pure clos)
    (h : ∀ f c' oc vs t ctv doc h' tk tl', Fr h₀ L h' m → News h₀ L h' ((f, fnMade name qual params body scope clos doc ((mg "__name__").getD .none) c' ctv) :: (rest ++ tl')) → TabsOk Ts tl' →
      (c', oc) ∈ tl' → oc.data = .fields vs → vs[1]? = some (.str qual t) → (∀ q ∈ rest, q.1 < f) → Fresh rest tl tl' → Q (.ref f) { s with heap := h', toks := tk }) :
    wpAny M A (makeFunction name qual params (.stmts body) scope (envX cn cs L a ccd cl) [] [] [] pos firstLine) Q E s := by
  obtain ⟨ps, hm, hs⟩ := ht.2 T hT
  rcases hs with hs | ⟨c₁, oc₁, vs₁, t₁, hs, hc₁, hd₁, hv₁⟩
  · obtain ⟨N₁, hoff⟩ := tab_need (T := T) N hr (hu.2 T hT) hm hs
    refine nest_K F N₁ Tp C hcd (.head hoff) (by rw [hs]; exact trivial) (by rw [hs]; rfl) hcl fun f c' oc vs t ctv doc h' tk F' N' hd hv l1 l2 => ?_
    rw [← hl, ← hc] at N'
    obtain ⟨tl', N₂, ht', hc', hfr⟩ := tab_put N ht hu hT hm hs N' hd (hq ▸ hv) (fun q hq => l1 q (.tail _ (List.mem_append_left _ hq)))
    exact h f c' oc vs t ctv doc h' tk tl' F' N₂ ht' hc' hd hv (fun q hq => Nat.lt_trans (l1 q (.tail _ (List.mem_append_left _ hq))) l2) hfr
  · have hf : codeAmong pos ps.toList = some (.ref c₁) := by
      rw [hs]
      show codeAmong pos [.int (T.line : Int) 0, .int (T.col : Int) 0, .ref c₁] = _
      unfold codeAmong
      rw [hl, hc]
      simp
    exact nestHit_K F N Tp C hcd (List.mem_append_right _ hm) (by rw [hs]; exact trivial) hf hcl fun f ctv doc h' tk F' N' l1 =>
      h f c₁ oc₁ vs₁ t₁ ctv doc h' tk tl F' N' ht hc₁ hd₁ (hq ▸ hv₁) (fun q hq => l1 q (List.mem_append_left _ hq)) (Fresh.refl _ _)
theorem nest_spl {Q : Value → Shared → Prop} {news : List (Addr × Obj)} (T : TS) (hu : TsOk Ts) (hT : T ∈ Ts) (F : Fr h₀ L s.heap m) (N : News h₀ L s.heap news) (hs : Spl news rest tl) (ht : TabsOk Ts tl) (Tp : Top p loose mean mg mb h₀) (C : CodeHd h₀ c T.P) (hcd : ccd = .ref c)
    (hl : T.line = pos.line) (hc : T.col = pos.col) (hq : T.qual = qual) (hcl : closureFor scope (envX cn cs L a ccd cl) = pure clos)
    (h : ∀ f c' oc vs t ctv doc h' tk tl', Fr h₀ L h' m → News h₀ L h' ((f, fnMade name qual params body scope clos doc ((mg "__name__").getD .none) c' ctv) :: (rest ++ tl')) → TabsOk Ts tl' →
      (c', oc) ∈ tl' → oc.data = .fields vs → vs[1]? = some (.str qual t) → (∀ q ∈ rest, q.1 < f) → Fresh rest tl tl' → Q (.ref f) { s with heap := h', toks := tk }) :
    wpAny M A (makeFunction name qual params (.stmts body) scope (envX cn cs L a ccd cl) [] [] [] pos firstLine) Q E s :=
  nest_any T hT hu F (hs.news N) hs.nt ht Tp C hcd hl hc hq hcl h
theorem lam_any {Q : Value → Shared → Prop} {body : Expr} (T : TS) (hT : T ∈ Ts) (hu : TsOk Ts) (F : Fr h₀ L s.heap m) (N : News h₀ L s.heap (rest ++ tl)) (hr : NT rest) (ht : TabsOk Ts tl) (Tp : Top p loose mean mg mb h₀) (C : CodeHd h₀ c T.P) (hcd : ccd = .ref c)
    (hl : T.line = pos.line) (hc : T.col = pos.col) (hq : T.qual = qual) (hcl : closureFor scope (envX cn cs L a ccd cl) = pure clos)
    (h : ∀ f c' oc vs t ctv h' tk tl', Fr h₀ L h' m → News h₀ L h' ((f, kla_obj name qual params body scope clos ((mg "__name__").getD .none) c' ctv) :: (rest ++ tl')) → TabsOk Ts tl' →
      (c', oc) ∈ tl' → oc.data = .fields vs → vs[1]? = some (.str qual t) → (∀ q ∈ rest, q.1 < f) → Q (.ref f) { s with heap := h', toks := tk }) :
    wpAny M A (makeFunction name qual params (.expr body) scope (envX cn cs L a ccd cl) [] [] [] pos firstLine) Q E s := by
  obtain ⟨ps, hm, hs⟩ := ht.2 T hT
  rcases hs with hs | ⟨c₁, oc₁, vs₁, t₁, hs, hc₁, hd₁, hv₁⟩
  · obtain ⟨N₁, hoff⟩ := tab_need (T := T) N hr (hu.2 T hT) hm hs
    refine kla_nest F N₁ Tp C hcd (.head hoff) (by rw [hs]; exact trivial) (by rw [hs]; rfl) hcl fun f c' oc vs t ctv h' tk F' N' hd hv l1 l2 => ?_
    rw [← hl, ← hc] at N'
    obtain ⟨tl', N₂, ht', hc', hfr⟩ := tab_put N ht hu hT hm hs N' hd (hq ▸ hv) (fun q hq => l1 q (.tail _ (List.mem_append_left _ hq)))
    exact h f c' oc vs t ctv h' tk tl' F' N₂ ht' hc' hd hv fun q hq => Nat.lt_trans (l1 q (.tail _ (List.mem_append_left _ hq))) l2
  · have hf : codeAmong pos ps.toList = some (.ref c₁) := by
      rw [hs]
      show codeAmong pos [.int (T.line : Int) 0, .int (T.col : Int) 0, .ref c₁] = _
      unfold codeAmong
      rw [hl, hc]
      simp
    exact kla_hit F N Tp C hcd (List.mem_append_right _ hm) (by rw [hs]; exact trivial) hf hcl fun f ctv h' tk F' N' l1 =>
      h f c₁ oc₁ vs₁ t₁ ctv h' tk tl F' N' ht hc₁ hd₁ (hq ▸ hv₁) fun q hq => l1 q (List.mem_append_left _ hq)
end

section
variable {prog : Program} {w : World} {A : Around} {E : Value → Shared → Prop} {s : Shared} {h₀ : Heap} {L : Addr} {m : Str → Option Value} {news : List (Addr × Obj)} {l : Addr} {x : Int} {u : Tok} {Q : Value → Shared → Prop}
theorem ints_replicate (tz : Tok) : ∀ n : Nat, IntsAre (List.replicate n (.int 0 tz)) (List.replicate n 0)
  | 0 => .nil
  | n + 1 => .cons 0 tz (ints_replicate tz n)
/-- [0] * k -/
theorem mul_zero_list {tz : Tok} {len : Nat} (Fm : Fr h₀ L s.heap m) (N : News h₀ L s.heap news) (hl : (l, PySem.W.listOf #[.int 0 tz] 0) ∈ news) (hx : x = (len : Int)) (hsz : len ≤ 256)
    (h : ∀ D h' vs, Fr h₀ L h' m → News h₀ L h' ((D, PySem.W.listOf vs.toArray 0) :: news) → IntsAre vs (List.replicate len 0) → (∀ p ∈ news, p.1 < D) → Q (.ref D) { s with heap := h' }) : wpAny (model prog w) A (binaryOp .Mult (.ref l) (.int x u)) Q E s := by
  subst hx
  have e : (List.replicate ((len : Int).toNat) [Value.int 0 tz]).flatten = List.replicate len (.int 0 tz) := by
    rw [Int.toNat_natCast]
    clear h hsz
    induction len with
    | zero => rfl
    | succ n ih => rw [List.replicate_succ, List.flatten_cons, ih]; rfl
  exact KMa.mul (vs := [.int 0 tz]) Fm N ⟨_, (N _ hl).1, rfl, 0, rfl⟩ (by omega) (by omega) (by simp; omega) e fun D h' F' N' l1 => h D h' _ F' N' (ints_replicate tz len) l1
end

section
variable {prog : Program} {w : World} {A : Around} {E : Value → Shared → Prop} {s : Shared} {a b n r : Int} {t u : Tok} {Q : Value → Shared → Prop}
theorem rshift_eq (hn : 0 ≤ n) (e : a.fdiv (2 ^ n.toNat) = r) (h : Q (.int r s.toks) { s with toks := s.toks + 1 }) : wpAny (model prog w) A (binaryOp .RShift (.int a t) (.int n u)) Q E s := by
  subst e; exact rshift_int hn h
theorem lshift_eq (e : a * 2 ^ n.toNat = r) (hn : 0 ≤ n) (hsz : (Builtin.Int.intBits a : Int) + n ≤ 2 ^ 27) (h : Q (.int r s.toks) { s with toks := s.toks + 1 }) : wpAny (model prog w) A (binaryOp .LShift (.int a t) (.int n u)) Q E s := by
  subst e; exact lshift_int hn hsz h
theorem xor_eq (e : Builtin.bitXor a b = r) (h : Q (.int r s.toks) { s with toks := s.toks + 1 }) : wpAny (model prog w) A (binaryOp .BitXor (.int a t) (.int b u)) Q E s := by
  subst e; exact xor_int h
theorem mul_eq (e : a * b = r) (hm : IntMulOk a b) (h : Q (.int r s.toks) { s with toks := s.toks + 1 }) : wpAny (model prog w) A (binaryOp .Mult (.int a t) (.int b u)) Q E s := by
  subst e; exact mul_int h hm
theorem add_eq (e : a + b = r) (h : Q (.int r s.toks) { s with toks := s.toks + 1 }) : wpAny (model prog w) A (binaryOp .Add (.int a t) (.int b u)) Q E s := by
  subst e; exact add_int h
theorem sub_eq (e : a - b = r) (h : Q (.int r s.toks) { s with toks := s.toks + 1 }) : wpAny (model prog w) A (binaryOp .Sub (.int a t) (.int b u)) Q E s := by
  subst e; exact sub_int h
end

/-- the contract of the def within _int2digits -/
structure I2dInner (prog : Program) (w : World) (K : Frag) (qual : Str) (params : Arguments) (body : List Stmt) (scope : Scope) (nI : Int) (N₁ : Nat) (dep : Nat) : Prop where
  out : ∀ {dp un : Nat} {gd : Option (List Code)} {cn : Str} {cs : Scope} {a : Addr} {ccd : Value} {cl : List (Str × Addr)} {outer : List Env}
    {A₀ : Around} {base h₀ : Heap} {L : Addr} {m mg mb : Str → Option Value} {loose : List Str} {mean : ExcName → Option Value} {R : List (Addr × Obj)} {s : Shared}
    {f c' cN cI cA d : Addr} {oc oN oI oA : Obj} {doc pm ctv : Value} {vs0 : Array Value} {t0 tN t1 t2 t3 : Tok} {vs : List Value} {ns : List Int} {k : Nat} {x Lo Ri : Int} {X lo ri : Nat} {Q E : Value → Shared → Prop},
    Below A₀ base outer h₀ → Fr h₀ L s.heap m → K.In h₀ → News h₀ L s.heap ((d, PySem.W.listOf vs.toArray k) :: R) → Top topProg loose mean mg mb h₀ → cs.kind = .function → dp + dep + 1 < 1000 → (∀ p ∈ R, p.1 ≠ d) →
    (f, fnMade (Str.ofString "inner") qual params body scope [(Str.ofString "n", cN), (Str.ofString "inner", cI), (Str.ofString "a_digits", cA)] doc pm c' ctv) ∈ R → (c', oc) ∈ R → oc.data = .fields vs0 → vs0[1]? = some (.str qual t0) →
    (cN, oN) ∈ R → oN.data = .cell (some (.int nI tN)) → (cI, oI) ∈ R → oI.data = .cell (some (.ref f)) → (cA, oA) ∈ R → oA.data = .cell (some (.ref d)) →
    IntsAre vs ns → x = X → Lo = lo → Ri = ri → lo < ri → ri ≤ ns.length → ns.length ≤ 256 → ri - lo ≤ 2 ^ dep → X < 2 ^ (N₁ * (ri - lo)) →
    (∀ r h' tk' vs', Fr h₀ L h' m → News h₀ L h' ((d, PySem.W.listOf vs'.toArray k) :: R) → IntsAre vs' (putD ns lo (digs N₁ X (ri - lo))) → Q r { s with heap := h', toks := tk' }) →
    wpAny (model prog w) (ktrTop dp un gd cn cs L a ccd cl outer) (call (.ref f) [.int x t1, .int Lo t2, .int Ri t3]) Q E s
theorem I2dInner.all {prog : Program} {w : World} {K : Frag} {qual : Str} {params : Arguments} {body : List Stmt} {scope : Scope} {nI : Int} {N₁ : Nat}
    (step : ∀ dep, (∀ d', d' < dep → I2dInner prog w K qual params body scope nI N₁ d') → I2dInner prog w K qual params body scope nI N₁ dep) (dep : Nat) : I2dInner prog w K qual params body scope nI N₁ dep :=
  Nat.strongRecOn dep step
theorem I2dInner.use {prog : Program} {w : World} {K : Frag} {qual : Str} {params : Arguments} {body : List Stmt} {scope : Scope} {nI : Int} {N₁ : Nat} {dep : Nat} (I : I2dInner prog w K qual params body scope nI N₁ dep)
    {dp un : Nat} {gd : Option (List Code)} {cn : Str} {cs : Scope} {a : Addr} {ccd : Value} {cl : List (Str × Addr)} {outer : List Env}
    {A₀ : Around} {base h₀ : Heap} {L : Addr} {m mg mb : Str → Option Value} {loose : List Str} {mean : ExcName → Option Value} {news R : List (Addr × Obj)} {s : Shared}
    {f c' cN cI cA d : Addr} {oc oN oI oA : Obj} {doc pm ctv : Value} {vs0 : Array Value} {t0 tN t1 t2 t3 : Tok} {vs : List Value} {ns : List Int} {k : Nat} {x Lo Ri : Int} {X lo ri : Nat} {Q E : Value → Shared → Prop}
    (B : Below A₀ base outer h₀) (F : Fr h₀ L s.heap m) (X₀ : K.In h₀) (N : News h₀ L s.heap news) (T : Top topProg loose mean mg mb h₀) (hk : cs.kind = .function) (hdp : dp + dep + 1 < 1000)
    (hm : (d, PySem.W.listOf vs.toArray k) ∈ news) (hs : Sel d news R)
    (hf : (f, fnMade (Str.ofString "inner") qual params body scope [(Str.ofString "n", cN), (Str.ofString "inner", cI), (Str.ofString "a_digits", cA)] doc pm c' ctv) ∈ R) (hc : (c', oc) ∈ R) (hcd : oc.data = .fields vs0) (hcv : vs0[1]? = some (.str qual t0))
    (hN : (cN, oN) ∈ R) (hNd : oN.data = .cell (some (.int nI tN))) (hI : (cI, oI) ∈ R) (hId : oI.data = .cell (some (.ref f))) (hA : (cA, oA) ∈ R) (hAd : oA.data = .cell (some (.ref d)))
    (hi : IntsAre vs ns) (ex : x = X) (el : Lo = lo) (er : Ri = ri) (hlr : lo < ri) (hrn : ri ≤ ns.length) (hn : ns.length ≤ 256) (hdep : ri - lo ≤ 2 ^ dep) (hX : X < 2 ^ (N₁ * (ri - lo)))
    (hret : ∀ r h' tk' vs', Fr h₀ L h' m → News h₀ L h' ((d, PySem.W.listOf vs'.toArray k) :: R) → IntsAre vs' (putD ns lo (digs N₁ X (ri - lo))) → Q r { s with heap := h', toks := tk' }) :
    wpAny (model prog w) (ktrTop dp un gd cn cs L a ccd cl outer) (call (.ref f) [.int x t1, .int Lo t2, .int Ri t3]) Q E s :=
  I.out B F X₀ (fun p hp => by
    rcases List.mem_cons.mp hp with rfl | hp
    · exact N _ hm
    · exact N _ (hs.sub p hp).1) T hk hdp (fun p hp => (hs.sub p hp).2) hf hc hcd hcv hN hNd hI hId hA hAd hi ex el er hlr hrn hn hdep hX hret

/-- the contract of the def within _digits2int -/
structure D2iInner (prog : Program) (w : World) (K : Frag) (qual : Str) (params : Arguments) (body : List Stmt) (scope : Scope) (nI : Int) (N₁ : Nat) (dep : Nat) : Prop where
  out : ∀ {dp un : Nat} {gd : Option (List Code)} {cn : Str} {cs : Scope} {a : Addr} {ccd : Value} {cl : List (Str × Addr)} {outer : List Env}
    {A₀ : Around} {base h₀ : Heap} {L : Addr} {m mg mb : Str → Option Value} {loose : List Str} {mean : ExcName → Option Value} {R : List (Addr × Obj)} {s : Shared}
    {f c' cN cI cA d : Addr} {oc oN oI oA : Obj} {doc pm ctv : Value} {vs0 : Array Value} {t0 tN t2 t3 : Tok} {vs : List Value} {ns : List Int} {k : Nat} {Lo Ri : Int} {lo ri : Nat} {Q E : Value → Shared → Prop},
    Below A₀ base outer h₀ → Fr h₀ L s.heap m → K.In h₀ → News h₀ L s.heap R → Top topProg loose mean mg mb h₀ → cs.kind = .function → dp + dep + 1 < 1000 →
    (f, fnMade (Str.ofString "inner") qual params body scope [(Str.ofString "n", cN), (Str.ofString "inner", cI), (Str.ofString "digits", cA)] doc pm c' ctv) ∈ R → (c', oc) ∈ R → oc.data = .fields vs0 → vs0[1]? = some (.str qual t0) →
    (cN, oN) ∈ R → oN.data = .cell (some (.int nI tN)) → (cI, oI) ∈ R → oI.data = .cell (some (.ref f)) → (cA, oA) ∈ R → oA.data = .cell (some (.ref d)) →
    (d, PySem.W.listOf vs.toArray k) ∈ R → IntsAre vs ns → InR N₁ ns → Lo = lo → Ri = ri → lo < ri → ri ≤ ns.length → ns.length ≤ 256 → ri - lo ≤ 2 ^ dep →
    (∀ tk h' tk', Fr h₀ L h' m → News h₀ L h' R → Q (.int (val N₁ (seg ns lo ri)) tk) { s with heap := h', toks := tk' }) →
    wpAny (model prog w) (ktrTop dp un gd cn cs L a ccd cl outer) (call (.ref f) [.int Lo t2, .int Ri t3]) Q E s
theorem D2iInner.all {prog : Program} {w : World} {K : Frag} {qual : Str} {params : Arguments} {body : List Stmt} {scope : Scope} {nI : Int} {N₁ : Nat}
    (step : ∀ dep, (∀ d', d' < dep → D2iInner prog w K qual params body scope nI N₁ d') → D2iInner prog w K qual params body scope nI N₁ dep) (dep : Nat) : D2iInner prog w K qual params body scope nI N₁ dep :=
  Nat.strongRecOn dep step
theorem D2iInner.use {prog : Program} {w : World} {K : Frag} {qual : Str} {params : Arguments} {body : List Stmt} {scope : Scope} {nI : Int} {N₁ : Nat} {dep : Nat} (I : D2iInner prog w K qual params body scope nI N₁ dep)
    {dp un : Nat} {gd : Option (List Code)} {cn : Str} {cs : Scope} {a : Addr} {ccd : Value} {cl : List (Str × Addr)} {outer : List Env}
    {A₀ : Around} {base h₀ : Heap} {L : Addr} {m mg mb : Str → Option Value} {loose : List Str} {mean : ExcName → Option Value} {R : List (Addr × Obj)} {s : Shared}
    {f c' cN cI cA d : Addr} {oc oN oI oA : Obj} {doc pm ctv : Value} {vs0 : Array Value} {t0 tN t2 t3 : Tok} {vs : List Value} {ns : List Int} {k : Nat} {Lo Ri : Int} {lo ri : Nat} {Q E : Value → Shared → Prop}
    (B : Below A₀ base outer h₀) (F : Fr h₀ L s.heap m) (X₀ : K.In h₀) (N : News h₀ L s.heap R) (T : Top topProg loose mean mg mb h₀) (hk : cs.kind = .function) (hdp : dp + dep + 1 < 1000)
    (hf : (f, fnMade (Str.ofString "inner") qual params body scope [(Str.ofString "n", cN), (Str.ofString "inner", cI), (Str.ofString "digits", cA)] doc pm c' ctv) ∈ R) (hc : (c', oc) ∈ R) (hcd : oc.data = .fields vs0) (hcv : vs0[1]? = some (.str qual t0))
    (hN : (cN, oN) ∈ R) (hNd : oN.data = .cell (some (.int nI tN))) (hI : (cI, oI) ∈ R) (hId : oI.data = .cell (some (.ref f))) (hA : (cA, oA) ∈ R) (hAd : oA.data = .cell (some (.ref d)))
    (hm : (d, PySem.W.listOf vs.toArray k) ∈ R) (hi : IntsAre vs ns) (hr : InR N₁ ns) (el : Lo = lo) (er : Ri = ri) (hlr : lo < ri) (hrn : ri ≤ ns.length) (hn : ns.length ≤ 256) (hdep : ri - lo ≤ 2 ^ dep)
    (hret : ∀ tk h' tk', Fr h₀ L h' m → News h₀ L h' R → Q (.int (val N₁ (seg ns lo ri)) tk) { s with heap := h', toks := tk' }) :
    wpAny (model prog w) (ktrTop dp un gd cn cs L a ccd cl outer) (call (.ref f) [.int Lo t2, .int Ri t3]) Q E s :=
  I.out B F X₀ N T hk hdp hf hc hcd hcv hN hNd hI hId hA hAd hm hi hr el er hlr hrn hn hdep hret

section
variable {prog : Program} {w : World} {A : Around} {E : Value → Shared → Prop} {s : Shared} {h₀ : Heap} {L l : Addr} {news : List (Addr × Obj)}
theorem truthy_list {vs : List Value} {ns : List Int} {k : Nat} {Q : Bool → Shared → Prop} (N : News h₀ L s.heap news) (hm : (l, PySem.W.listOf vs.toArray k) ∈ news) (hi : IntsAre vs ns) (hfit : ns.length ≤ 1000000)
    (h : Q (decide (0 < ns.length)) { s with toks := s.toks + 1 + 1 }) : wpAny (model prog w) A (truthy (.ref l)) Q E s :=
  truthy_ints_fit ⟨_, (N _ hm).1, rfl, k, rfl⟩ hi (by omega) h
theorem len_list' {vs : List Value} {ns : List Int} {k : Nat} {Q : Value → Shared → Prop} (N : News h₀ L s.heap news) (hm : (l, PySem.W.listOf vs.toArray k) ∈ news) (hi : IntsAre vs ns) (hfit : ns.length ≤ 1000000)
    (h : Q (.int (ns.length : Int) (s.toks + 1)) { s with toks := s.toks + 1 + 1 }) : wpAny (model prog w) A (call (.builtin "len") [.ref l]) Q E s :=
  kst_len N hm hi.length (by omega) h
end
end
section
/-! loops whose ledger may grow and change: the state is any word J of the turn's number, the frame's map, the ledger -/
section
variable {prog : Program} {w : World} {A : Around} {E : Value → Shared → Prop} {s : Shared} {env : Env} {h₀ : Heap} {x : Str} {body : List Stmt} {Q : Flow → Shared → Prop}
def TurnPost (h₀ : Heap) (L I : Addr) (itO : Obj) (J : (Str → Option Value) → List (Addr × Obj) → Prop) (s₁ : Shared) (Q : Flow → Shared → Prop) (f : Flow) (s₂ : Shared) : Prop :=
  match f with
  | .ret v => Q (.ret v) s₂
  | .brk => Q .next s₂
  | _ => ∃ h' tk m' news', s₂ = { s₁ with heap := h', toks := tk } ∧ Fr h₀ L h' m' ∧ News h₀ L h' ((I, itO) :: news') ∧ (∀ p ∈ news', p.1 ≠ I) ∧ J m' news'
theorem TurnPost.next {L I : Addr} {itO : Obj} {J : (Str → Option Value) → List (Addr × Obj) → Prop} {s₁ : Shared} {h' : Heap} {tk : Nat} {m' : Str → Option Value} {news' : List (Addr × Obj)}
    (F : Fr h₀ L h' m') (N : News h₀ L h' ((I, itO) :: news')) (ho : ∀ p ∈ news', p.1 ≠ I) (hj : J m' news') : TurnPost h₀ L I itO J s₁ Q .next { s₁ with heap := h', toks := tk } := ⟨h', tk, m', news', rfl, F, N, ho, hj⟩
theorem loop_gen {I : Addr} {fp : List Addr} {n : Nat} {P : Nat → Value → Prop} {St : Nat → Heap → Prop} {m₀ : Str → Option Value} {news₀ : List (Addr × Obj)} (J : Nat → (Str → Option Value) → List (Addr × Obj) → Prop)
    (W : Walks prog w A I fp [I] n P St) (hI : I ∈ fp) (hfp : ∀ b ∈ fp, b = I ∨ ∃ lo, ∀ i m news, J i m news → (b, lo) ∈ news) (hSt : ∀ i h, St i h → ∃ o, h.get? I = some o ∧ tlk o = false)
    (hLf : env.locals ∉ fp) (hI0 : h₀.get? I = none) (hnI : ∀ p ∈ news₀, p.1 ≠ I) (hst : St 0 s.heap) (F : Fr h₀ env.locals s.heap m₀) (N : News h₀ env.locals s.heap news₀) (hj : J 0 m₀ news₀)
    (turn : ∀ i v m₁ news₁ h tk itO, i < n → P i v → J i m₁ news₁ → (∀ p ∈ news₁, p.1 ≠ I) → tlk itO = false → Fr h₀ env.locals h (fun y => if y = x then some v else m₁ y) → News h₀ env.locals h ((I, itO) :: news₁) →
      wpAny (model prog w) A (execs body env) (TurnPost h₀ env.locals I itO (J (i + 1)) { s with heap := h, toks := tk } Q) E { s with heap := h, toks := tk })
    (done : ∀ h tk m₁ news₁, J n m₁ news₁ → Fr h₀ env.locals h m₁ → News h₀ env.locals h news₁ → Q .next { s with heap := h, toks := tk }) :
    LoopAtV prog w A h₀ env x body Q E (.ref I) s := by
  refine ⟨I, fp, [I], n, P, St, m₀, news₀, J, rfl, W, hLf, ?_, ?_, hst, F, N, hj, ?_, ?_⟩
  · intro b hb
    rw [List.mem_singleton.mp hb]; exact hI0
  · intro p hp hq
    exact hnI p hp (List.mem_singleton.mp hq)
  · rintro i v m₁ news₁ s₁ own ⟨hh', tk', rfl⟩ hin hP hJ hoff hown hget hall hst₁ F₁ N₁
    obtain ⟨itO, hit, hk⟩ := hSt _ _ hst₁
    have hIown : (I, itO) ∈ own := hall I hI hI0 itO hit
    have N₂ : News h₀ env.locals hh' ((I, itO) :: news₁) := fun p hp => by
      rcases List.mem_cons.mp hp with rfl | hp
      · exact N₁ _ (List.mem_append_left _ hIown)
      · exact N₁ _ (List.mem_append_right _ hp)
    refine wpAny_mono (turn i v m₁ news₁ hh' tk' itO hin hP hJ (fun p hp e => hoff p hp (List.mem_singleton.mpr e)) hk F₁ N₂) (fun f s₂ p => ?_) fun _ _ e => e
    have fin : (∃ h' tk m' news', s₂ = { { s with heap := hh', toks := tk' } with heap := h', toks := tk } ∧ Fr h₀ env.locals h' m' ∧ News h₀ env.locals h' ((I, itO) :: news') ∧ (∀ p ∈ news', p.1 ≠ I) ∧ J (i + 1) m' news') →
        LoopStepU h₀ env.locals [I] own (J (i + 1)) { s with heap := hh', toks := tk' } .next s₂ := by
      rintro ⟨h', tk, m', news', e, F', N', hne, hm⟩
      refine ⟨rfl, h', tk, m', news', e, F', fun p hp => ?_, fun p hp hq => hne p hp (List.mem_singleton.mp hq), hm⟩
      rcases List.mem_append.mp hp with hp | hp
      · obtain ⟨b, o⟩ := p
        rcases hfp b (hown _ hp) with rfl | ⟨lo, hlo⟩
        · have h1 := hget _ hp
          rw [hit] at h1
          cases h1
          exact N' _ (.head _)
        · have h1 := hget _ hp
          have h2 := (N₂ _ (.tail _ (hlo i m₁ news₁ hJ))).1
          have h3 : o = lo := Option.some.inj (h1.symm.trans h2)
          subst h3
          exact N' _ (.tail _ (hlo (i + 1) m' news' hm))
      · exact N' _ (.tail _ hp)
    cases f with
    | ret v => exact .ret p
    | brk => exact .brk p
    | next => exact .next (fin p)
    | cont => exact .cont (fin p)
  · rintro h' tk m' news' F' N' _ hJ
    exact done h' tk m' news' hJ F' N'

/-- for x in reversed(l), l a list of ints of the ledger's -/
theorem loop_rev {D l : Addr} {vs : List Value} {ns : List Int} {k : Nat} {m₀ : Str → Option Value} {news₀ news : List (Addr × Obj)} (J : Nat → (Str → Option Value) → List (Addr × Obj) → Prop)
    (hh : A.handled = none) (hi : IntsAre vs ns) (hD : (D, revObj l ((vs.length : Int) - 1)) ∈ news) (hs : Sel D news news₀) (hl : (l, PySem.W.listOf vs.toArray k) ∈ news₀)
    (hlJ : ∀ i m news, J i m news → (l, PySem.W.listOf vs.toArray k) ∈ news) (F : Fr h₀ env.locals s.heap m₀) (N : News h₀ env.locals s.heap news) (hj : J 0 m₀ news₀)
    (turn : ∀ i t m₁ news₁ h tk itO, i < ns.length → J i m₁ news₁ → (∀ p ∈ news₁, p.1 ≠ D) → tlk itO = false → Fr h₀ env.locals h (fun y => if y = x then some (.int (ns.getD (ns.length - 1 - i) 0) t) else m₁ y) → News h₀ env.locals h ((D, itO) :: news₁) →
      wpAny (model prog w) A (execs body env) (TurnPost h₀ env.locals D itO (J (i + 1)) { s with heap := h, toks := tk } Q) E { s with heap := h, toks := tk })
    (done : ∀ h tk m₁ news₁, J ns.length m₁ news₁ → Fr h₀ env.locals h m₁ → News h₀ env.locals h news₁ → Q .next { s with heap := h, toks := tk }) :
    wpAny (model prog w) A (pyIter (.ref D)) (fun it s₂ => LoopAtV prog w A h₀ env x body Q E it s₂) E s := by
  have hDx := N _ hD
  have hlx := N _ (hs.sub _ hl).1
  have hls : s.heap.IsList l vs.toArray := ⟨_, hlx.1, rfl, k, rfl⟩
  have hne : l ≠ D := (hs.sub _ hl).2
  have hit : s.heap.IsRevIter D l ((vs.length : Int) - 1) := ⟨_, hDx.1, rfl, rfl⟩
  refine wpAny_pyIter_revIter hit ?_
  have W := Walks.listRev (prog := prog) (w := w) hh D l hne vs.toArray
  have hlen : vs.toArray.size = ns.length := by simp [hi.length]
  rw [hlen] at W
  refine loop_gen J W (.head _) ?_ ?_ ?_ hDx.2.2 (fun p hp => (hs.sub p hp).2) ⟨Nat.zero_le _, ?_, hls⟩ F (fun p hp => N p (hs.sub p hp).1) hj ?_ done
  · intro b hb
    rcases List.mem_cons.mp hb with rfl | hb
    · exact .inl rfl
    · rw [List.mem_singleton.mp hb]
      exact .inr ⟨_, hlJ⟩
  · rintro i h ⟨_, ⟨o, ho, hc, hd⟩, _⟩
    refine ⟨o, ho, ?_⟩
    unfold tlk
    rw [hd, hc]
    rfl
  · intro hm
    rcases List.mem_cons.mp hm with e | hm
    · exact hDx.2.1 e.symm
    · exact hlx.2.1 (List.mem_singleton.mp hm).symm
  · have e : ((ns.length : Nat) : Int) - 1 - ((0 : Nat) : Int) = (vs.length : Int) - 1 := by rw [hi.length]; simp
    rw [e]; exact hit
  · intro i v m₁ news₁ h tk itO hin hP hJ hoff hk F₁ N₁
    obtain ⟨t, hx⟩ := hi.get (ns.length - 1 - i) (ns[ns.length - 1 - i]'(by omega)) (List.getElem?_eq_getElem (by omega))
    have hv : v = .int (ns.getD (ns.length - 1 - i) 0) t := by
      have hP' : vs[ns.length - 1 - i]? = some v := by simpa using hP
      rw [hx] at hP'
      have e : ns.getD (ns.length - 1 - i) 0 = ns[ns.length - 1 - i]'(by omega) := by
        rw [List.getD_eq_getElem?_getD, List.getElem?_eq_getElem (by omega)]; rfl
      rw [e]
      exact (Option.some.inj hP').symm
    subst hv
    exact turn i t m₁ news₁ h tk itO hin hJ hoff hk F₁ N₁

/-- for x in range(..), by ones -/
theorem loop_range {r : Addr} {a₀ b₀ : Int} {t₀ u₀ v₀ : Tok} {n : Nat} {m₀ : Str → Option Value} {news : List (Addr × Obj)} (J : Nat → (Str → Option Value) → List (Addr × Obj) → Prop)
    (hh : A.handled = none) (hr : IsRange s.heap r a₀ b₀ 1 t₀ u₀ v₀) (hsmall : Builtin.Range.small a₀ b₀ 1 = true) (hn : Builtin.Range.rangeSize a₀ b₀ 1 = (n : Int)) (F : Fr h₀ env.locals s.heap m₀) (N : News h₀ env.locals s.heap news) (hj : J 0 m₀ news)
    (turn : ∀ i t m₁ news₁ h tk I itO, i < n → J i m₁ news₁ → (∀ p ∈ news, p.1 < I) → (∀ p ∈ news₁, p.1 ≠ I) → tlk itO = false → Fr h₀ env.locals h (fun y => if y = x then some (.int (a₀ + (i : Int)) t) else m₁ y) → News h₀ env.locals h ((I, itO) :: news₁) →
      wpAny (model prog w) A (execs body env) (TurnPost h₀ env.locals I itO (J (i + 1)) { s with heap := h, toks := tk } Q) E { s with heap := h, toks := tk })
    (done : ∀ h tk m₁ news₁, J n m₁ news₁ → Fr h₀ env.locals h m₁ → News h₀ env.locals h news₁ → Q .next { s with heap := h, toks := tk }) :
    wpAny (model prog w) A (pyIter (.ref r)) (fun it s₂ => LoopAtV prog w A h₀ env x body Q E it s₂) E s := by
  refine wpAny_pyIter_range hr hsmall ?_
  have W : Walks prog w A s.heap.objs.size [s.heap.objs.size] [s.heap.objs.size] n (fun i v => i < n ∧ ∃ t, v = .int (a₀ + i * 1) t)
      (fun i h => IsRangeIter h s.heap.objs.size (a₀ + (i : Nat) * 1) ((n : Int) - (i : Nat)) 1) := (Walks.range hh _ a₀ 1 n).bound
  refine loop_gen J W (.head _) ?_ ?_ ?_ (next_is_new F) (fun p hp e => absurd (Heap.lt_size (N p hp).1) (e ▸ Nat.lt_irrefl _)) (by show IsRangeIter _ _ _ _ _; rw [hn]; simpa using Heap.get?_push_size _ rfl) (F.push _) (fun p hp => ⟨Heap.get?_push_of_some _ (N p hp).1, (N p hp).2⟩) hj ?_ done
  · intro b hb
    exact .inl (List.mem_singleton.mp hb)
  · intro i h hst
    exact ⟨_, hst, rfl⟩
  · intro hm
    exact absurd F.ns.lt ((List.mem_singleton.mp hm) ▸ Nat.lt_irrefl _)
  · rintro i v m₁ news₁ h tk itO hin ⟨_, t, rfl⟩ hJ hoff hk F₁ N₁
    have e : a₀ + (i : Int) * 1 = a₀ + (i : Int) := by omega
    rw [e] at F₁
    exact turn i t m₁ news₁ h tk _ itO hin hJ (fun p hp => Heap.lt_size (N p hp).1) hoff hk F₁ N₁

/-- for x in it, it the iterator of a list of ints of the ledger's -/
theorem loop_listit {D l : Addr} {itO₀ : Obj} {vs : List Value} {ns : List Int} {k : Nat} {m₀ : Str → Option Value} {news₀ news : List (Addr × Obj)} (J : Nat → (Str → Option Value) → List (Addr × Obj) → Prop)
    (hh : A.handled = none) (hi : IntsAre vs ns) (hD : (D, itO₀) ∈ news) (hc : itO₀.cls = .type "list_iterator") (hd : itO₀.data = .fields #[.ref l, .int 0 0]) (hs : Sel D news news₀) (hl : (l, PySem.W.listOf vs.toArray k) ∈ news₀)
    (hlJ : ∀ i m news, J i m news → (l, PySem.W.listOf vs.toArray k) ∈ news) (F : Fr h₀ env.locals s.heap m₀) (N : News h₀ env.locals s.heap news) (hj : J 0 m₀ news₀)
    (turn : ∀ i t m₁ news₁ h tk itO, i < ns.length → J i m₁ news₁ → (∀ p ∈ news₁, p.1 ≠ D) → tlk itO = false → Fr h₀ env.locals h (fun y => if y = x then some (.int (ns.getD i 0) t) else m₁ y) → News h₀ env.locals h ((D, itO) :: news₁) →
      wpAny (model prog w) A (execs body env) (TurnPost h₀ env.locals D itO (J (i + 1)) { s with heap := h, toks := tk } Q) E { s with heap := h, toks := tk })
    (done : ∀ h tk m₁ news₁, J ns.length m₁ news₁ → Fr h₀ env.locals h m₁ → News h₀ env.locals h news₁ → Q .next { s with heap := h, toks := tk }) :
    wpAny (model prog w) A (pyIter (.ref D)) (fun it s₂ => LoopAtV prog w A h₀ env x body Q E it s₂) E s := by
  have hDx := N _ hD
  have hlx := N _ (hs.sub _ hl).1
  have hls : s.heap.IsList l vs.toArray := ⟨_, hlx.1, rfl, k, rfl⟩
  have hne : l ≠ D := (hs.sub _ hl).2
  have hit : s.heap.IsListIter D l 0 := ⟨_, hDx.1, hc, hd⟩
  refine wpAny_pyIter_listiter hit ?_
  have W := Walks.list (prog := prog) (w := w) hh D l hne vs.toArray
  have hlen : vs.toArray.size = ns.length := by simp [hi.length]
  rw [hlen] at W
  refine loop_gen J W (.head _) ?_ ?_ ?_ hDx.2.2 (fun p hp => (hs.sub p hp).2) ⟨hit, hls⟩ F (fun p hp => N p (hs.sub p hp).1) hj ?_ done
  · intro b hb
    rcases List.mem_cons.mp hb with rfl | hb
    · exact .inl rfl
    · rw [List.mem_singleton.mp hb]
      exact .inr ⟨_, hlJ⟩
  · rintro i h ⟨⟨o, ho, hc, hd⟩, _⟩
    refine ⟨o, ho, ?_⟩
    unfold tlk
    rw [hd, hc]
    rfl
  · intro hm
    rcases List.mem_cons.mp hm with e | hm
    · exact hDx.2.1 e.symm
    · exact hlx.2.1 (List.mem_singleton.mp hm).symm
  · intro i v m₁ news₁ h tk itO hin hP hJ hoff hk F₁ N₁
    obtain ⟨t, hx⟩ := hi.get i (ns[i]'hin) (List.getElem?_eq_getElem hin)
    have hv : v = .int (ns.getD i 0) t := by
      have hP' : vs[i]? = some v := by simpa using hP
      rw [hx] at hP'
      have e : ns.getD i 0 = ns[i]'hin := by
        rw [List.getD_eq_getElem?_getD, List.getElem?_eq_getElem hin]; rfl
      rw [e]
      exact (Option.some.inj hP').symm
    subst hv
    exact turn i t m₁ news₁ h tk itO hin hJ hoff hk F₁ N₁

/-- for x in it, it a range's iterator -/
theorem loop_rangeit {D : Addr} {n : Nat} {m₀ : Str → Option Value} {news₀ news : List (Addr × Obj)} (J : Nat → (Str → Option Value) → List (Addr × Obj) → Prop)
    (hh : A.handled = none) (hit : IsRangeIter s.heap D 0 (n : Int) 1) (hD : (D, (⟨.type "range_iterator", none, .fields #[rawInt 0, rawInt n, rawInt 1], #[]⟩ : Obj)) ∈ news) (hs : Sel D news news₀)
    (F : Fr h₀ env.locals s.heap m₀) (N : News h₀ env.locals s.heap news) (hj : J 0 m₀ news₀)
    (turn : ∀ i t m₁ news₁ h tk itO, i < n → J i m₁ news₁ → (∀ p ∈ news₁, p.1 ≠ D) → tlk itO = false → Fr h₀ env.locals h (fun y => if y = x then some (.int (i : Int) t) else m₁ y) → News h₀ env.locals h ((D, itO) :: news₁) →
      wpAny (model prog w) A (execs body env) (TurnPost h₀ env.locals D itO (J (i + 1)) { s with heap := h, toks := tk } Q) E { s with heap := h, toks := tk })
    (done : ∀ h tk m₁ news₁, J n m₁ news₁ → Fr h₀ env.locals h m₁ → News h₀ env.locals h news₁ → Q .next { s with heap := h, toks := tk }) :
    wpAny (model prog w) A (pyIter (.ref D)) (fun it s₂ => LoopAtV prog w A h₀ env x body Q E it s₂) E s := by
  have hDx := N _ hD
  refine wpAny_pyIter_rangeiter hit ?_
  have W : Walks prog w A D [D] [D] n (fun i v => i < n ∧ ∃ t, v = .int (0 + i * 1) t)
      (fun i h => IsRangeIter h D (0 + (i : Nat) * 1) ((n : Int) - (i : Nat)) 1) := (Walks.range hh _ 0 1 n).bound
  refine loop_gen J W (.head _) ?_ ?_ ?_ hDx.2.2 (fun p hp => (hs.sub p hp).2) (by simpa using hit) F (fun p hp => N p (hs.sub p hp).1) hj ?_ done
  · intro b hb
    exact .inl (List.mem_singleton.mp hb)
  · intro i h hst
    exact ⟨_, hst, rfl⟩
  · intro hm
    exact hDx.2.1 (List.mem_singleton.mp hm).symm
  · rintro i v m₁ news₁ h tk itO hin ⟨_, t, rfl⟩ hJ hoff hk F₁ N₁
    have e : (0 : Int) + (i : Int) * 1 = (i : Int) := by omega
    rw [e] at F₁
    exact turn i t m₁ news₁ h tk itO hin hJ hoff hk F₁ N₁
end

section
variable {prog : Program} {w : World} {A : Around} {E : Value → Shared → Prop} {s : Shared} {h₀ : Heap} {L d : Addr} {m : Str → Option Value} {news news' : List (Addr × Obj)}
theorem append_my {vs : List Value} {k : Nat} {v : Value} {Q : Value → Shared → Prop} (F : Fr h₀ L s.heap m) (N : News h₀ L s.heap news) (hm : (d, PySem.W.listOf vs.toArray k) ∈ news) (hs : Sel d news news') (hsz : vs.length ≤ 1000000)
    (h : ∀ h', Fr h₀ L h' m → News h₀ L h' ((d, PySem.W.listOf (vs ++ [v]).toArray (k + 1)) :: news') → Q .none { s with heap := h' }) : wpAny (model prog w) A (call (.builtin "list.append") [.ref d, v]) Q E s := by
  refine append_K (news := (d, PySem.W.listOf vs.toArray k) :: news') F (fun p hp => ?_) (.head fun p hp => (hs.sub p hp).2) (fun h' F' N' => h h' F' ?_) (by rw [List.size_toArray, PySem.sizeLine_eq]; omega)
  · rcases List.mem_cons.mp hp with rfl | hp
    · exact N _ hm
    · exact N _ (hs.sub p hp).1
  · simpa using N'
theorem reverse_my {vs : List Value} {k : Nat} {Q : Value → Shared → Prop} (F : Fr h₀ L s.heap m) (N : News h₀ L s.heap news) (hm : (d, PySem.W.listOf vs.toArray k) ∈ news) (hs : Sel d news news') (hsz : vs.length ≤ 1000000)
    (h : ∀ h', Fr h₀ L h' m → News h₀ L h' ((d, PySem.W.listOf vs.reverse.toArray k) :: news') → Q .none { s with heap := h' }) : wpAny (model prog w) A (call (.builtin "list.reverse") [.ref d]) Q E s := by
  refine kl_reverse (its := vs.toArray) (news := (d, PySem.W.listOf vs.toArray k) :: news') F (fun p hp => ?_) (by simp) (.head fun p hp => (hs.sub p hp).2) (by simp [PySem.sizeLine_eq]; omega) (fun h' F' N' => h h' F' N')
  rcases List.mem_cons.mp hp with rfl | hp
  · exact N _ hm
  · exact N _ (hs.sub p hp).1
theorem kstB_fr {h : Heap} {m₁ : Str → Option Value} {ps : List (Str × Value)} (F : Fr h₀ L h m₁) (hp : ∀ p ∈ ps, m₁ p.1 = some p.2) : Fr h₀ L h (kstB m₁ ps) := by
  have e : kstB m₁ ps = m₁ := by
    funext z
    exact kstB_eq hp fun _ => rfl
  rw [e]; exact F
theorem kstB_frX {h : Heap} {m₁ : Str → Option Value} {x : Str} {v : Value} {ps : List (Str × Value)} (F : Fr h₀ L h (fun y => if y = x then some v else m₁ y)) (hp : ∀ p ∈ ps, m₁ p.1 = some p.2) : Fr h₀ L h (fun y => if y = x then some v else kstB m₁ ps y) := by
  have e : kstB m₁ ps = m₁ := by
    funext z
    exact kstB_eq hp fun _ => rfl
  rw [e]; exact F
end

section
variable {prog : Program} {w : World} {A : Around} {E : Value → Shared → Prop} {s : Shared} {a r : Int} {t : Tok} {Q : Value → Shared → Prop}
theorem invert_eq (e : Builtin.bitNot a = r) (h : Q (.int r s.toks) { s with toks := s.toks + 1 }) : wpAny (model prog w) A (unaryOp .Invert (.int a t)) Q E s := by
  subst e; exact invert_int h
theorem neg_eq (e : -a = r) (h : Q (.int r s.toks) { s with toks := s.toks + 1 }) : wpAny (model prog w) A (unaryOp .USub (.int a t)) Q E s := by
  subst e; exact PyProof.Rows.neg_int h
end

section
variable {prog : Program} {w : World} {A : Around} {E : Value → Shared → Prop} {s : Shared} {h₀ : Heap} {L l : Addr} {m : Str → Option Value} {news : List (Addr × Obj)} {Q : Value → Shared → Prop}
theorem iter_list_my {vs : List Value} {k : Nat} (F : Fr h₀ L s.heap m) (N : News h₀ L s.heap news) (hm : (l, PySem.W.listOf vs.toArray k) ∈ news)
    (h : ∀ I h', Fr h₀ L h' m → News h₀ L h' ((I, ({ cls := .type "list_iterator", data := .fields #[.ref l, .int 0 0] } : Obj)) :: news) → (∀ p ∈ news, p.1 < I) → Q (.ref I) { s with heap := h' }) :
    wpAny (model prog w) A (call (.builtin "iter") [.ref l]) Q E s := by
  refine call_function_entry (by decide +kernel) (by decide +kernel) kdk_entry_iter (kdk_args_iter _) ?_
  unfold Builtin.«iter»
  refine wpAny_bind (m := someArgs "iter" 1 2 _) (wpAny_of_eq (a := [Value.ref l]) (by first | rfl | kernel_rfl!) ?_)
  show wpAny _ _ (pyIter (.ref l) >>= _) _ _ _
  refine wpAny_bind (wpAny_pyIter_list ⟨_, (N _ hm).1, rfl, k, rfl⟩ ?_)
  exact wpAny_pure ⟨_, rfl, h _ _ (F.push _) (News.push F N _ rfl) fun q hq => Heap.lt_size (N q hq).1⟩
theorem iter_range_my {a b c : Int} {t u v : Tok} (F : Fr h₀ L s.heap m) (N : News h₀ L s.heap news) (hr : IsRange s.heap l a b c t u v) (hsmall : Builtin.Range.small a b c = true)
    (h : ∀ I h', Fr h₀ L h' m → News h₀ L h' ((I, ({ cls := .type "range_iterator", data := .fields #[rawInt a, rawInt (Builtin.Range.rangeSize a b c), rawInt c] } : Obj)) :: news) → (∀ p ∈ news, p.1 < I) → Q (.ref I) { s with heap := h' }) :
    wpAny (model prog w) A (call (.builtin "iter") [.ref l]) Q E s := by
  refine call_function_entry (by decide +kernel) (by decide +kernel) kdk_entry_iter (kdk_args_iter _) ?_
  unfold Builtin.«iter»
  refine wpAny_bind (m := someArgs "iter" 1 2 _) (wpAny_of_eq (a := [Value.ref l]) (by first | rfl | kernel_rfl!) ?_)
  show wpAny _ _ (pyIter (.ref l) >>= _) _ _ _
  refine wpAny_bind (wpAny_pyIter_range hr hsmall ?_)
  exact wpAny_pure ⟨_, rfl, h _ _ (F.push _) (News.push F N _ rfl) fun q hq => Heap.lt_size (N q hq).1⟩
end
end
section
abbrev T1 : TS := ⟨30, 32, 4, Str.ofString "_int2digits.<locals>.inner"⟩
abbrev T2 : TS := ⟨37, 47, 4, Str.ofString "_digits2int.<locals>.inner"⟩
abbrev T3 : TS := ⟨95, 106, 18, Str.ofString "_law_stepped.<locals>.<lambda>"⟩
def Ts : List TS := [T1, T2, T3]
-- ⟨95, 106, 18, Str.ofString "_law_stepped.<locals>.<lambda>"⟩]
theorem Ts_one : TsOk Ts := by
  refine ⟨?_, ?_⟩
  rotate_left
  · intro T hT
    simp only [Ts, List.mem_cons, List.not_mem_nil, or_false] at hT
    rcases hT with rfl | rfl | rfl <;> decide
  intro T₁ h1 T₂ h2 e
  simp only [Ts, List.mem_cons, List.not_mem_nil, or_false] at h1 h2
  rcases h1 with rfl | rfl | rfl <;> rcases h2 with rfl | rfl | rfl <;> first | rfl | (exact absurd e (by decide))
end
section


local macro_rules | `(tactic| ktr_rel) => `(tactic| first | refine' TailOf.base | (refine' TailOf.cons ?t9; (case t9 => ktr_rel)))
local macro_rules | `(tactic| ktr_rel) => `(tactic| first | ((with_reducible refine' Sel.hit ?s9); (case s9 => ktr_rel)) | (refine' Sel.keep ?ne ?s9; (case ne => first | k_ne | (refine' ne_kind ?x1 ?x2 ?x3 ?x4; (case x1 => k_asm); (case x2 => k_mem); (case x3 => k_mem); (case x4 => with_unfolding_all rfl)) | fail "ne"); (case s9 => ktr_rel)) | (refine' Sel.base ?b9; (case b9 => (refine' off_all ?n1 ?n2 ?n3 ?n4 ?n5 ?n6; (case n1 => assumption); (case n2 => assumption); (case n3 => ktr_rel); (case n4 => k_mem); (case n5 => first | exact rfl | assumption | (refine' tlk_cell ?n7; (case n7 => assumption))); (case n6 => (refine' ne_above ?n8 ?n9; (case n8 => assumption); (case n9 => omega)))))))
local macro_rules | `(tactic| walk_at "storeName") => `(tactic| (k_here; k_dflt (refine' store_cell ?F ?N ?c ?m ?d ?S ?_ ?a ?b; (case a => rfl); (case b => rfl); (case F => k_asm); (case N => k_asm); (case c => rfl); (case m => k_mem); (case d => k_asm); (case S => ktr_rel); k_whole; intro h' o' F' N' d'; (try dsimp only at N'); (try k_sweep))))
local macro_rules | `(tactic| ktr_rel) => `(tactic| first | (refine' Spl.base ?b9; (case b9 => assumption)) | (refine' Spl.keep ?ta ?s9; (case ta => (first | exact rfl | assumption | (refine' tabby_cell ?b8; (case b8 => assumption)) | (refine' tabby_of_tlk ?b8; (case b8 => assumption)) | (refine' tabby_code ?b8 ?b7; (case b8 => assumption); (case b7 => assumption)) | fail "ta")); (case s9 => ktr_rel)) | (refine' Spl.drop ?s9; (case s9 => ktr_rel)))
local macro_rules | `(tactic| ktr_rel) => `(tactic| first | refine' Suf.base | (refine' Suf.cons ?t9; (case t9 => ktr_rel)))
local macro_rules | `(tactic| walk_at "callWith ref") => `(tactic| (k_here; k_dflt (first
  | (refine' callWith_F ?k1 ?_; (case k1 => exact FnAt.of (by k_asm) (by k_mem)); k_whole)
  | (refine' callWith_F0 ?k1 ?_; (case k1 => exact FnAt.of (by k_asm) (by k_mem)); k_whole; try dsimp only [List.nil_append, List.cons_append]))))
local macro_rules | `(tactic| walk_at "eval Name") => `(tactic| (k_here; k_dflt (refine' nameX_F ?N ?c ?m ?d ?_ ?a ?b; (case a => rfl); (case b => rfl); (case N => k_asm); (case c => rfl); (case m => k_mem); (case d => k_asm); k_whole)))
local macro_rules | `(tactic| k_all) => `(tactic| assumption)
local macro_rules | `(tactic| k_mem) => `(tactic| first | ((with_reducible refine' memL ?_); assumption) | ((with_reducible refine' memR ?_); assumption) | ((with_reducible refine' memI ?_); ktr_member) | fail "k_mem")
local macro_rules | `(tactic| walk_at "binaryOp RShift int int") => `(tactic| (k_here; (refine' rshift_eq ?n ?e ?_; (case n => first | decide | assumption | exact Int.natCast_nonneg _); (case e => assumption); k_whole)))
local macro_rules | `(tactic| walk_at "binaryOp Mult int int") => `(tactic| (k_here; (refine' mul_eq ?e ?n ?_; (case e => assumption); (case n => assumption); k_whole)))
local macro_rules | `(tactic| walk_at "binaryOp LShift int int") => `(tactic| (k_here; (refine' lshift_eq ?e ?n ?m ?_; (case e => assumption); (case n => first | decide | assumption | exact Int.natCast_nonneg _); (case m => assumption); k_whole)))
local macro_rules | `(tactic| walk_at "binaryOp BitXor int int") => `(tactic| (k_here; (refine' xor_eq ?e ?_; (case e => assumption); k_whole)))

local macro_rules | `(tactic| walk_at "call builtin:len") => `(tactic| (k_here; (with_reducible show wpAny _ _ (call (Value.builtin "len") [Value.ref _]) _ _ _); k_dflt (refine' len_list' ?kl1 ?kl2 ?kl3 ?kl4 ?_; (case kl1 => k_asm); (case kl2 => k_mem); (case kl3 => assumption); (case kl4 => first | omega | ((try simp only [List.length_replicate]); omega)); k_whole); (try simp only [List.length_replicate])))
local macro_rules | `(tactic| walk_at "truthy ref") => `(tactic| (k_here; (with_reducible show wpAny _ _ (truthy (Value.ref _)) _ _ _); k_dflt (refine' truthy_list ?kl1 ?kl2 ?kl3 ?kl4 ?_; (case kl1 => k_asm); (case kl2 => k_mem); (case kl3 => assumption); (case kl4 => omega); k_whole)))

local macro_rules | `(tactic| ktr_rel) => `(tactic| first | (refine' Pick.base ?pb9; (case pb9 => ktr_rel)) | (refine' Pick.cons ?pm9 ?pr9; (case pm9 => k_mem); (case pr9 => ktr_rel)) | fail "pick")
local macro_rules | `(tactic| walk_at "call builtin:list.append") => `(tactic| (k_here; k_dflt (show wpAny _ _ (call (Value.builtin _) [Value.ref _, _]) _ _ _); k_dflt (refine' append_my ?ap1 ?ap2 ?ap3 ?ap4 ?ap5 ?_; (case ap1 => k_asm); (case ap2 => k_asm); (case ap3 => k_mem); (case ap4 => ktr_rel); (case ap5 => omega); k_whole); intro h' F' N'))
local macro_rules | `(tactic| walk_at "call builtin:list.reverse") => `(tactic| (k_here; k_dflt (show wpAny _ _ (call (Value.builtin _) [Value.ref _]) _ _ _); k_dflt (refine' reverse_my ?ap1 ?ap2 ?ap3 ?ap4 ?ap5 ?_; (case ap1 => k_asm); (case ap2 => k_asm); (case ap3 => k_mem); (case ap4 => ktr_rel); (case ap5 => omega); k_whole); intro h' F' N'))
local macro_rules | `(tactic| walk_at "binaryOp Add int int") => `(tactic| (k_here; (refine' add_eq ?e ?_; (case e => assumption); k_whole)))
local macro_rules | `(tactic| walk_at "compareOp Is") => `(tactic| (k_here; (with_reducible show wpAny _ _ (compareOp CmpOp.Is (Value.int _ _) (Value.ref _)) _ _ _); k_dflt (refine' wpAny_is_other ?io1 ?io2 ?_; (case io1 => with_unfolding_all rfl); (case io2 => (intro x; cases x)); k_whole)))
local macro_rules | `(tactic| walk_at "binaryOp Mult ref int") => `(tactic| (k_here; (with_reducible show wpAny _ _ (binaryOp Operator.Mult (Value.ref _) (Value.int _ _)) _ _ _); k_dflt (refine' mul_zero_list ?F ?N ?l ?x ?z ?_; (case F => k_asm); (case N => k_asm); (case l => exact List.Mem.head _); (case x => assumption); (case z => assumption); k_whole); intro D' h' vs' F' N' i1 l1; (have l0 := l1); (try k_lt l1); (try k_sweep)))
local macro_rules | `(tactic| walk_at "exec FunctionDef") => `(tactic| (k_here; k_dflt (refine' nestDef_K ?d0 ?k0 ?a0 ?_; (case d0 => exact rfl); (case k0 => exact rfl); (case a0 => exact rfl)); k_dflt (refine' nest_spl T1 Ts_one (.head _) ?F ?N ?S ?ht ?T ?C ?cd ?l ?c ?q ?cl ?_; (case F => k_asm); (case N => k_asm); (case T => k_asm); (case cd => exact rfl); (case C => exact codeHd_of_K (c := 34) (P := 30) (by assumption) (by kernel_rfl)); (case S => ktr_rel); (case ht => assumption); (case l => rfl); (case c => rfl); (case q => rfl); (case cl => exact rfl); k_whole); intro f' c' oc' vs' t' ct' dc' h' tk' tl' F' N' ht' hc' d1' d2' l1 fr1; (try k_lt l1); (try dsimp only [List.cons_append] at N')))
theorem i2d_spec0 {w : World} {dp un : Nat} {gd : Option (List Code)} {cn : Str} {cs : Scope} {a : Addr} {ccd : Value} {cl : List (Str × Addr)} {outer : List Env}
    {A₀ : Around} {base h₀ : Heap} {L : Addr} {m mg mb : Str → Option Value} {loose : List Str} {mean : ExcName → Option Value} {rest tl : List (Addr × Obj)} {s : Shared}
    {x n : Int} {X₁ N₁ len : Nat} {t u : Tok} {Q E : Value → Shared → Prop}
    (B : Below A₀ base outer h₀) (F : Fr h₀ L s.heap m) (X : (Mine.hd.heap_39 w.params).In h₀) (N : News h₀ L s.heap (rest ++ tl)) (T : Top topProg loose mean mg mb h₀)
    (hk : cs.kind = .function) (hd : dp + 10 < 1000) (hr : NT rest) (ht : TabsOk Ts tl) (hx : x = X₁) (hn : n = N₁) (hn0 : 0 < N₁) (hn2 : N₁ ≤ 2000) (hlen : len = (Builtin.Int.intBits x + N₁ - 1) / N₁) (hl2 : len ≤ 256)
    (hret : ∀ d h' tk' vs k tl', Fr h₀ L h' m → News h₀ L h' ((d, PySem.W.listOf vs.toArray k) :: (rest ++ tl')) → TabsOk Ts tl' → IntsAre vs (digs N₁ X₁ len) → (∀ p ∈ rest, p.1 < d) → Fresh rest tl tl' → Q (.ref d) { s with heap := h', toks := tk' }) :
    wpAny (model PySem.Challenge.rw_xi0012_02.row.prog w) (ktrTop dp un gd cn cs L a ccd cl outer) (call (.ref 35) [.int x t, .int n u]) Q E s := by
  revert X; k_fill; intro X
  have hn3 : n < 1000000 := by omega
  have hn4 : 0 < n := by omega
  have hq : Int.fdiv ((Builtin.Int.intBits x : Int) + n - 1) n = (len : Int) := by rw [hlen]; exact len_eq hn hn0
  refine wpAny_call ?_
  k_dflt (refine' code_defC ?k1 ?k2 ?k3 ?k4 ?k5 ?kA ?kF ?kK ?k6 ?k7 ?k8 ?k9 ?kB ?kD ?_ ?c2 ?c3 ?c4; (case kA => exact rfl); (case kF => exact rfl); (case kK => exact hk); (case k1 => k_asm); (case k2 => k_asm); (case k3 => k_asm); (case k4 => k_asm); (case k5 => k_asm); (case k6 => k_is); (case k7 => k_is); (case k8 => ktr_room); (case k9 => exact BindsTo.of_eq rfl); (case kB => exact rfl); (case kD => decide +kernel); (case c2 => exact rfl); (case c3 => exact rfl); (case c4 => exact rfl); k_whole; intro g' L' h' tk' cells' FG' F' N' Y' B' X' T' l1; (try dsimp only); (try k_lift B'); (try k_fold))
  obtain ⟨o1, o2, o3, hE, d1, d2, d3⟩ := CellsAre.three Y'
  subst hE
  have lr : ∀ p ∈ rest, p.1 < L' := fun p hp => l1 p (List.mem_append_left _ hp)
  replace d1 : o1.data = .cell none := d1
  replace d2 : o2.data = .cell none := d2
  replace d3 : o3.data = .cell (some (.int n u)) := d3
  (try simp only [List.cons_append, List.nil_append] at N')
  k_steps
  all_goals try dsimp only
  · rename_i hx0
    obtain ⟨hp0, hpX⟩ := len_pos hx hx0 hn0 hlen
    k_dflt (refine' I2dInner.use (dep := 8) (nI := n) (N₁ := N₁) (X := X₁) (lo := 0) (ri := len) ?u9I ?u9B ?u9F ?u9X ?u9N ?u9T ?u9k ?u9p ?u9m ?u9S ?u9f ?u9c ?u9cd ?u9cv ?u9hN ?u9hNd ?u9hI ?u9hId ?u9hA ?u9hAd ?u9i ?u9ex ?u9el ?u9er ?u9lr ?u9rn ?u9n ?u9dp ?u9xx ?_; (case u9B => k_asm); (case u9F => k_asm); (case u9X => k_asm); (case u9N => k_asm); (case u9T => k_asm); (case u9k => exact rfl); (case u9p => omega); (case u9m => k_mem); (case u9S => ktr_rel); (case u9f => k_mem); (case u9c => k_mem); (case u9cd => assumption); (case u9cv => assumption); (case u9hN => k_mem); (case u9hNd => assumption); (case u9hI => k_mem); (case u9hId => assumption); (case u9hA => k_mem); (case u9hAd => assumption); (case u9i => assumption); (case u9ex => exact hx); (case u9el => exact rfl); (case u9er => exact rfl); (case u9lr => exact hp0); (case u9rn => (rw [List.length_replicate]; exact Nat.le_refl _)); (case u9n => (rw [List.length_replicate]; exact hl2)); (case u9dp => exact hl2); (case u9xx => exact hpX))
    · skip
      refine I2dInner.all (fun dep ih => ⟨?_⟩) 8
      intro dp un gd cn cs a ccd cl outer A₀ base h₀ L m mg mb loose mean R s f c' cN cI cA d oc oN oI oA doc pm ctv vs0 t0 tN t1 t2 t3 vs ns k x Lo Ri X lo ri Q E B F X₀ N T hk hdp hoff hf hc hcd hcv hN hNd hI hId hA hAd hi ex el er hlr hrn hnl hdep hX hret
      subst ex el er
      obtain ⟨mid, hmid⟩ : ∃ mid, (lo + ri) / 2 = mid := ⟨_, rfl⟩
      have hm := mid_eq (lo := lo) (ri := ri) rfl rfl
      rw [hmid] at hm
      have hsh := shift_eq (nI := n) (lo := lo) (mid := mid) rfl hn (by omega)
      have hmo : IntMulOk ((mid : Int) - (lo : Int)) n := IntMulOk.of_right (intBits_le_64 (by omega) (by omega))
      obtain ⟨sh, hshe⟩ : ∃ sh, N₁ * (mid - lo) = sh := ⟨_, rfl⟩
      rw [hshe] at hsh
      have hu := upper_eq (x := (X : Int)) (k := sh) rfl
      have hub := upper_back X sh
      have hxl := xor_low X sh
      have hszz : (Builtin.Int.intBits ((X / 2 ^ sh : Nat) : Int) : Int) + (sh : Int) ≤ 2 ^ 27 := by
        have b1 := low_bits (lo := lo) hrn hnl N₁ hn2
        have b2 : sh ≤ 512000 := by
          have b3 := low_bits (lo := lo) (ri := mid) (n := ns.length) (by omega) hnl N₁ hn2
          omega
        exact shl_fits (Nat.lt_of_le_of_lt (Nat.div_le_self _ _) hX) (by omega)
      refine wpAny_call ?_
      k_dflt (refine' code_nest ?k1 ?k2 ?k3 ?k4 ?k5 ?kA ?kF ?kK ?k6 ?k7 ?k8 ?k9 ?kB ?_ ?c2 ?c3 ?c4 ?c5; (case kA => exact rfl); (case kF => exact rfl); (case kK => assumption); (case k1 => k_asm); (case k2 => k_asm); (case k3 => k_asm); (case k4 => k_asm); (case k5 => k_asm); (case k6 => exact List.Mem.tail _ hf); (case k7 => exact codeRec_news N (List.Mem.tail _ hc) hcd hcv); (case k8 => ktr_room); (case k9 => exact BindsTo.of_eq rfl); (case c5 => decide); (case kB => exact locs rfl); (case c2 => exact rfl); (case c3 => exact rfl); (case c4 => exact rfl); k_whole; intro g' L' h' FG' F' N' B' X' T'; (try dsimp only); (try k_fold))
      k_steps
      · refine' hret _ _ _ _ ?v1F ?v1N ?v1I
        case v1F => k_asm
        case v1N => k_asm
        case v1I => (refine' base_ints ?v1h ?v1e hX hrn; (case v1h => assumption); (case v1e => assumption))
      have hne : ¬ (lo : Int) + 1 = (ri : Int) := by assumption
      obtain ⟨hd0, hlm, hmr, hd1, hd2⟩ := half_le hmid hlr hdep hne
      k_dflt (refine' I2dInner.use (ih (dep - 1) (by omega)) (nI := n) (N₁ := N₁) (X := X % 2 ^ sh) (lo := lo) (ri := mid) ?w1B ?w1F ?w1X ?w1N ?w1T ?w1k ?w1p ?w1m ?w1S hf hc hcd hcv hN hNd hI hId hA hAd ?w1i ?w1ex ?w1el ?w1er ?w1lr ?w1rn ?w1n ?w1dp ?w1xx ?_; (case w1B => k_asm); (case w1F => k_asm); (case w1X => k_asm); (case w1N => k_asm); (case w1T => k_asm); (case w1k => exact rfl); (case w1p => ktr_room); (case w1m => exact List.Mem.head _); (case w1S => exact Sel.hit (Sel.base hoff)))
      case w1i => assumption
      case w1ex => exact rfl
      case w1el => exact rfl
      case w1er => exact rfl
      case w1lr => exact hlm
      case w1rn => omega
      case w1n => exact hnl
      case w1dp => exact hd1
      case w1xx => (rw [hshe]; exact Nat.mod_lt _ (Nat.pow_pos (by decide)))
      intro r1 h1 tk1 vs1 F1 N1 i1
      have hpl : (putD ns lo (digs N₁ (X % 2 ^ sh) (mid - lo))).length = ns.length := putD_length (by rw [digs_length]; omega)
      k_steps
      try dsimp only
      k_dflt (refine' I2dInner.use (ih (dep - 1) (by omega)) (nI := n) (N₁ := N₁) (X := X / 2 ^ sh) (lo := mid) (ri := ri) ?w2B ?w2F ?w2X ?w2N ?w2T ?w2k ?w2p ?w2m ?w2S hf hc hcd hcv hN hNd hI hId hA hAd ?w2i ?w2ex ?w2el ?w2er ?w2lr ?w2rn ?w2n ?w2dp ?w2xx ?_; (case w2B => k_asm); (case w2F => k_asm); (case w2X => k_asm); (case w2N => k_asm); (case w2T => k_asm); (case w2k => exact rfl); (case w2p => ktr_room); (case w2m => exact List.Mem.head _); (case w2S => exact Sel.hit (Sel.base hoff)))
      case w2i => exact i1
      case w2ex => exact rfl
      case w2el => exact rfl
      case w2er => exact rfl
      case w2lr => exact hmr
      case w2rn => (rw [hpl]; exact hrn)
      case w2n => (rw [hpl]; exact hnl)
      case w2dp => exact hd2
      case w2xx => exact div_bound (by omega) (by omega) hshe hX
      intro r2 h2 tk2 vs2 F2 N2 i2
      rw [two_digs (by omega) (by omega) hrn hshe] at i2
      k_steps
      refine' hret _ _ _ vs2 ?v2F ?v2N ?v2I
      case v2F => k_asm
      case v2N => k_asm
      case v2I => exact i2
    · intro r h9 tk9 vs9 F9 N9 i9
      rw [putD_all (by rw [digs_length, List.length_replicate]; rfl)] at i9
      k_steps
      refine' hret _ _ _ vs9 _ _ ?r1F ?r1N ?r1T ?r1I ?r1l ?r1f
      case r1F => k_asm
      case r1N => (refine' news_hd ?r1n1 ?r1n2 ?r1n3; (case r1n1 => k_asm); (case r1n2 => k_mem); (case r1n3 => ktr_rel))
      case r1T => assumption
      case r1I => exact i9
      case r1l => (refine' lt_suf ?r1m1 ?r1m3; (case r1m1 => assumption); (case r1m3 => ktr_rel))
      case r1f => (rename Fresh _ _ _ => fr8; refine' Fresh.sub fr8 (Suf.sub ?r1g); (case r1g => ktr_rel))
  · rename_i hx0 _ _ _ _
    obtain ⟨h0, h1⟩ := len_zero hx hx0 hn0 hlen
    refine' hret _ _ _ _ _ _ ?r2F ?r2N ?r2T ?r2I ?r2l ?r2f
    case r2F => k_asm
    case r2N => (refine' news_hd ?r2n1 ?r2n2 ?r2n3; (case r2n1 => k_asm); (case r2n2 => k_mem); (case r2n3 => ktr_rel))
    case r2T => assumption
    case r2I => (rw [h1]; assumption)
    case r2l => (refine' lt_suf ?r2m1 ?r2m3; (case r2m1 => assumption); (case r2m3 => ktr_rel))
    case r2f => (rename Fresh _ _ _ => fr8; refine' Fresh.sub fr8 (Suf.sub ?r2g); (case r2g => ktr_rel))
theorem i2d_spec {w : World} {dp un : Nat} {gd : Option (List Code)} {cn : Str} {cs : Scope} {a : Addr} {ccd : Value} {cl : List (Str × Addr)} {outer : List Env}
    {A₀ : Around} {base h₀ : Heap} {L : Addr} {m mg mb : Str → Option Value} {loose : List Str} {mean : ExcName → Option Value} {rest tl : List (Addr × Obj)} {s : Shared}
    {x n : Int} {X₁ N₁ len : Nat} {t u : Tok} {Q E : Value → Shared → Prop}
    (B : Below A₀ base outer h₀) (F : Fr h₀ L s.heap m) (X : (Mine.hd.heap_39 w.params).In h₀) (N : News h₀ L s.heap (rest ++ tl)) (T : Top topProg loose mean mg mb h₀)
    (hk : cs.kind = .function) (hd : dp + 10 < 1000) (hr : NT rest) (ht : TabsOk Ts tl) (hx : x = X₁) (hn : n = N₁) (hn0 : 0 < N₁) (hn2 : N₁ ≤ 2000) (hlen : len = (Builtin.Int.intBits x + N₁ - 1) / N₁) (hl2 : len ≤ 256)
    (hret : ∀ d h' tk' vs k tl', Fr h₀ L h' m → News h₀ L h' ((d, PySem.W.listOf vs.toArray k) :: (rest ++ tl')) → TabsOk Ts tl' → IntsAre vs (digs N₁ X₁ len) → (∀ p ∈ rest, p.1 < d) → Q (.ref d) { s with heap := h', toks := tk' }) :
    wpAny (model PySem.Challenge.rw_xi0012_02.row.prog w) (ktrTop dp un gd cn cs L a ccd cl outer) (call (.ref 35) [.int x t, .int n u]) Q E s :=
  i2d_spec0 B F X N T hk hd hr ht hx hn hn0 hn2 hlen hl2 fun d h' tk' vs k tl' F' N' ht' hi hl _ => hret d h' tk' vs k tl' F' N' ht' hi hl
end
section
local macro_rules | `(tactic| walk_at "no key 3") => `(tactic| fail)
local macro_rules | `(tactic| walk_at "no key 2") => `(tactic| fail)
local macro_rules | `(tactic| walk_at "no key 1") => `(tactic| fail)
local macro_rules | `(tactic| walk_at "no key 0") => `(tactic| fail)


local macro_rules | `(tactic| ktr_rel) => `(tactic| first | refine' TailOf.base | (refine' TailOf.cons ?t9; (case t9 => ktr_rel)))
local macro_rules | `(tactic| ktr_rel) => `(tactic| first | ((with_reducible refine' Sel.hit ?s9); (case s9 => ktr_rel)) | (refine' Sel.keep ?ne ?s9; (case ne => first | k_ne | (refine' ne_kind ?x1 ?x2 ?x3 ?x4; (case x1 => k_asm); (case x2 => k_mem); (case x3 => k_mem); (case x4 => with_unfolding_all rfl)) | fail "ne"); (case s9 => ktr_rel)) | (refine' Sel.base ?b9; (case b9 => (refine' off_all ?n1 ?n2 ?n3 ?n4 ?n5 ?n6; (case n1 => assumption); (case n2 => assumption); (case n3 => ktr_rel); (case n4 => k_mem); (case n5 => first | exact rfl | assumption | (refine' tlk_cell ?n7; (case n7 => assumption))); (case n6 => (refine' ne_above ?n8 ?n9; (case n8 => assumption); (case n9 => omega)))))))
local macro_rules | `(tactic| walk_at "storeName") => `(tactic| (k_here; k_dflt (refine' store_cell ?F ?N ?c ?m ?d ?S ?_ ?a ?b; (case a => rfl); (case b => rfl); (case F => k_asm); (case N => k_asm); (case c => rfl); (case m => k_mem); (case d => k_asm); (case S => ktr_rel); k_whole; intro h' o' F' N' d'; (try dsimp only at N'); (try k_sweep))))
local macro_rules | `(tactic| ktr_rel) => `(tactic| first | (refine' Spl.base ?b9; (case b9 => assumption)) | (refine' Spl.keep ?ta ?s9; (case ta => (first | exact rfl | assumption | (refine' tabby_cell ?b8; (case b8 => assumption)) | (refine' tabby_of_tlk ?b8; (case b8 => assumption)) | (refine' tabby_code ?b8 ?b7; (case b8 => assumption); (case b7 => assumption)) | fail "ta")); (case s9 => ktr_rel)) | (refine' Spl.drop ?s9; (case s9 => ktr_rel)))
local macro_rules | `(tactic| ktr_rel) => `(tactic| first | refine' Suf.base | (refine' Suf.cons ?t9; (case t9 => ktr_rel)))
local macro_rules | `(tactic| walk_at "callWith ref") => `(tactic| (k_here; k_dflt (first
  | (refine' callWith_F ?k1 ?_; (case k1 => exact FnAt.of (by k_asm) (by k_mem)); k_whole)
  | (refine' callWith_F0 ?k1 ?_; (case k1 => exact FnAt.of (by k_asm) (by k_mem)); k_whole; try dsimp only [List.nil_append, List.cons_append]))))
local macro_rules | `(tactic| walk_at "eval Name") => `(tactic| (k_here; k_dflt (refine' nameX_F ?N ?c ?m ?d ?_ ?a ?b; (case a => rfl); (case b => rfl); (case N => k_asm); (case c => rfl); (case m => k_mem); (case d => k_asm); k_whole)))
local macro_rules | `(tactic| k_all) => `(tactic| assumption)
local macro_rules | `(tactic| k_mem) => `(tactic| first | ((with_reducible refine' memL ?_); assumption) | ((with_reducible refine' memR ?_); assumption) | ((with_reducible refine' memI ?_); ktr_member) | fail "k_mem")
local macro_rules | `(tactic| walk_at "binaryOp RShift int int") => `(tactic| (k_here; (refine' rshift_eq ?n ?e ?_; (case n => first | decide | assumption | exact Int.natCast_nonneg _); (case e => assumption); k_whole)))
local macro_rules | `(tactic| walk_at "binaryOp Mult int int") => `(tactic| (k_here; (refine' mul_eq ?e ?n ?_; (case e => assumption); (case n => assumption); k_whole)))
local macro_rules | `(tactic| walk_at "binaryOp LShift int int") => `(tactic| (k_here; (refine' lshift_eq ?e ?n ?m ?_; (case e => assumption); (case n => first | decide | assumption | exact Int.natCast_nonneg _); (case m => assumption); k_whole)))
local macro_rules | `(tactic| walk_at "binaryOp BitXor int int") => `(tactic| (k_here; (refine' xor_eq ?e ?_; (case e => assumption); k_whole)))

local macro_rules | `(tactic| walk_at "call builtin:len") => `(tactic| (k_here; (with_reducible show wpAny _ _ (call (Value.builtin "len") [Value.ref _]) _ _ _); k_dflt (refine' len_list' ?kl1 ?kl2 ?kl3 ?kl4 ?_; (case kl1 => k_asm); (case kl2 => k_mem); (case kl3 => assumption); (case kl4 => first | omega | ((try simp only [List.length_replicate]); omega)); k_whole); (try simp only [List.length_replicate])))
local macro_rules | `(tactic| walk_at "truthy ref") => `(tactic| (k_here; (with_reducible show wpAny _ _ (truthy (Value.ref _)) _ _ _); k_dflt (refine' truthy_list ?kl1 ?kl2 ?kl3 ?kl4 ?_; (case kl1 => k_asm); (case kl2 => k_mem); (case kl3 => assumption); (case kl4 => omega); k_whole)))

local macro_rules | `(tactic| ktr_rel) => `(tactic| first | (refine' Pick.base ?pb9; (case pb9 => ktr_rel)) | (refine' Pick.cons ?pm9 ?pr9; (case pm9 => k_mem); (case pr9 => ktr_rel)) | fail "pick")
local macro_rules | `(tactic| walk_at "call builtin:list.append") => `(tactic| (k_here; k_dflt (show wpAny _ _ (call (Value.builtin _) [Value.ref _, _]) _ _ _); k_dflt (refine' append_my ?ap1 ?ap2 ?ap3 ?ap4 ?ap5 ?_; (case ap1 => k_asm); (case ap2 => k_asm); (case ap3 => k_mem); (case ap4 => ktr_rel); (case ap5 => omega); k_whole); intro h' F' N'))
local macro_rules | `(tactic| walk_at "call builtin:list.reverse") => `(tactic| (k_here; k_dflt (show wpAny _ _ (call (Value.builtin _) [Value.ref _]) _ _ _); k_dflt (refine' reverse_my ?ap1 ?ap2 ?ap3 ?ap4 ?ap5 ?_; (case ap1 => k_asm); (case ap2 => k_asm); (case ap3 => k_mem); (case ap4 => ktr_rel); (case ap5 => omega); k_whole); intro h' F' N'))
local macro_rules | `(tactic| walk_at "binaryOp Add int int") => `(tactic| (k_here; (refine' add_eq ?e ?_; (case e => assumption); k_whole)))
local macro_rules | `(tactic| walk_at "compareOp Is") => `(tactic| (k_here; (with_reducible show wpAny _ _ (compareOp CmpOp.Is (Value.int _ _) (Value.ref _)) _ _ _); k_dflt (refine' wpAny_is_other ?io1 ?io2 ?_; (case io1 => with_unfolding_all rfl); (case io2 => (intro x; cases x)); k_whole)))
local macro_rules | `(tactic| walk_at "exec FunctionDef") => `(tactic| (k_here; k_dflt (refine' nestDef_K ?d0 ?k0 ?a0 ?_; (case d0 => exact rfl); (case k0 => exact rfl); (case a0 => exact rfl)); k_dflt (refine' nest_spl T2 Ts_one (.tail _ (.head _)) ?F ?N ?S ?ht ?T ?C ?cd ?l ?c ?q ?cl ?_; (case F => k_asm); (case N => k_asm); (case T => k_asm); (case cd => exact rfl); (case C => exact codeHd_of_K (c := 41) (P := 37) (by assumption) (by kernel_rfl)); (case S => ktr_rel); (case ht => assumption); (case l => rfl); (case c => rfl); (case q => rfl); (case cl => exact rfl); k_whole); intro f' c' oc' vs' t' ct' dc' h' tk' tl' F' N' ht' hc' d1' d2' l1 fr1; (try k_lt l1); (try dsimp only [List.cons_append] at N')))
theorem d2i_spec {w : World} {dp un : Nat} {gd : Option (List Code)} {cn : Str} {cs : Scope} {a : Addr} {ccd : Value} {cl : List (Str × Addr)} {outer : List Env}
    {A₀ : Around} {base h₀ : Heap} {L : Addr} {m mg mb : Str → Option Value} {loose : List Str} {mean : ExcName → Option Value} {rest tl : List (Addr × Obj)} {s : Shared}
    {n : Int} {N₁ : Nat} {d : Addr} {vs : List Value} {ns : List Int} {k : Nat} {u : Tok} {Q E : Value → Shared → Prop}
    (B : Below A₀ base outer h₀) (F : Fr h₀ L s.heap m) (X : (Mine.hd.heap_39 w.params).In h₀) (N : News h₀ L s.heap (rest ++ tl)) (T : Top topProg loose mean mg mb h₀)
    (hk : cs.kind = .function) (hd : dp + 10 < 1000) (hr : NT rest) (ht : TabsOk Ts tl) (hdm : (d, PySem.W.listOf vs.toArray k) ∈ rest) (hi : IntsAre vs ns) (hin : InR N₁ ns) (hn : n = N₁) (hn2 : N₁ ≤ 2000) (hl2 : ns.length ≤ 256)
    (hret : ∀ tk h' tk' tl', Fr h₀ L h' m → News h₀ L h' (rest ++ tl') → TabsOk Ts tl' → Q (.int (val N₁ ns) tk) { s with heap := h', toks := tk' }) :
    wpAny (model PySem.Challenge.rw_xi0012_02.row.prog w) (ktrTop dp un gd cn cs L a ccd cl outer) (call (.ref 42) [.ref d, .int n u]) Q E s := by
  revert X; k_fill; intro X
  refine wpAny_call ?_
  k_dflt (refine' code_defC ?k1 ?k2 ?k3 ?k4 ?k5 ?kA ?kF ?kK ?k6 ?k7 ?k8 ?k9 ?kB ?kD ?_ ?c2 ?c3 ?c4; (case kA => exact rfl); (case kF => exact rfl); (case kK => exact hk); (case k1 => k_asm); (case k2 => k_asm); (case k3 => k_asm); (case k4 => k_asm); (case k5 => k_asm); (case k6 => k_is); (case k7 => k_is); (case k8 => ktr_room); (case k9 => exact BindsTo.of_eq rfl); (case kB => exact rfl); (case kD => decide +kernel); (case c2 => exact rfl); (case c3 => exact rfl); (case c4 => exact rfl); k_whole; intro g' L' h' tk' cells' FG' F' N' Y' B' X' T' l1; (try dsimp only); (try k_lift B'); (try k_fold))
  obtain ⟨o1, o2, o3, hE, d1, d2, d3⟩ := CellsAre.three Y'
  subst hE
  have lr : ∀ p ∈ rest, p.1 < L' := fun p hp => l1 p (List.mem_append_left _ hp)
  replace d1 : o1.data = .cell none := d1
  replace d2 : o2.data = .cell (some (.int n u)) := d2
  replace d3 : o3.data = .cell (some (.ref d)) := d3
  simp only [List.cons_append, List.nil_append] at N'
  k_steps
  all_goals try dsimp only
  · have hlen : 0 < ns.length := by first | assumption | (rename_i h; exact of_decide_eq_true h)
    k_dflt (refine' D2iInner.use (dep := 8) ?w0I (nI := n) (N₁ := N₁) (lo := 0) (ri := ns.length) ?w0B ?w0F ?w0X ?w0N ?w0T ?w0k ?w0p ?w0f ?w0c ?w0cd ?w0cv ?w0hN ?w0hNd ?w0hI ?w0hId ?w0hA ?w0hAd ?w0m ?w0i ?w0r ?w0el ?w0er ?w0lr ?w0rn ?w0n ?w0dp ?_; (case w0B => k_asm); (case w0F => k_asm); (case w0X => k_asm); (case w0N => k_asm); (case w0T => k_asm); (case w0k => exact rfl); (case w0p => ktr_room); (case w0f => k_mem); (case w0c => k_mem); (case w0cd => assumption); (case w0cv => assumption); (case w0hN => k_mem); (case w0hNd => assumption); (case w0hI => k_mem); (case w0hId => assumption); (case w0hA => k_mem); (case w0hAd => assumption); (case w0m => k_mem); (case w0i => assumption); (case w0r => assumption); (case w0el => exact rfl); (case w0er => exact rfl))
    · refine D2iInner.all (fun dep ih => ⟨?_⟩) 8
      intro dp un gd cn cs a ccd cl outer A₀ base h₀ L m mg mb loose mean R s f c' cN cI cA d oc oN oI oA doc pm ctv vs0 t0 tN t2 t3 vs ns k Lo Ri lo ri Q E B F X₀ N T hk hdp hf hc hcd hcv hN hNd hI hId hA hAd hm0 hi hin el er hlr hrn hnl hdep hret
      subst el er
      obtain ⟨mid, hmid⟩ : ∃ mid, (lo + ri) / 2 = mid := ⟨_, rfl⟩
      have hm := mid_eq (lo := lo) (ri := ri) rfl rfl
      rw [hmid] at hm
      have hsh := shift_eq (nI := n) (lo := lo) (mid := mid) rfl hn (by omega)
      have hmo : IntMulOk ((mid : Int) - (lo : Int)) n := IntMulOk.of_right (intBits_le_64 (by omega) (by omega))
      obtain ⟨sh, hshe⟩ : ∃ sh, N₁ * (mid - lo) = sh := ⟨_, rfl⟩
      rw [hshe] at hsh
      have hsb : sh ≤ 512000 := by
        have b3 := low_bits (lo := lo) (ri := mid) (n := ns.length) (by omega) hnl N₁ hn2
        omega
      have hszz := val_fits (mid := mid) hin hrn hnl hn2 hsb
      have hV : val N₁ (seg ns mid ri) * 2 ^ Int.toNat (sh : Int) = val N₁ (seg ns mid ri) * 2 ^ Int.toNat (sh : Int) := rfl
      refine wpAny_call ?_
      k_dflt (refine' code_nest ?k1 ?k2 ?k3 ?k4 ?k5 ?kA ?kF ?kK ?k6 ?k7 ?k8 ?k9 ?kB ?_ ?c2 ?c3 ?c4 ?c5; (case kA => exact rfl); (case kF => exact rfl); (case kK => assumption); (case k1 => k_asm); (case k2 => k_asm); (case k3 => k_asm); (case k4 => k_asm); (case k5 => k_asm); (case k6 => exact hf); (case k7 => exact codeRec_news N hc hcd hcv); (case k8 => ktr_room); (case k9 => exact BindsTo.of_eq rfl); (case c5 => decide); (case kB => exact locs rfl); (case c2 => exact rfl); (case c3 => exact rfl); (case c4 => exact rfl); k_whole; intro g' L' h' FG' F' N' B' X' T'; (try dsimp only); (try k_fold))
      k_steps
      · rw [val_one (by assumption) hrn]
        refine' hret _ _ _ ?v1F ?v1N
        case v1F => k_asm
        case v1N => k_asm
      have hne : ¬ (lo : Int) + 1 = (ri : Int) := by assumption
      obtain ⟨hd0, hlm, hmr, hd1, hd2⟩ := half_le hmid hlr hdep hne
      k_dflt (refine' D2iInner.use (ih (dep - 1) (by omega)) (nI := n) (N₁ := N₁) (lo := mid) (ri := ri) ?w1B ?w1F ?w1X ?w1N ?w1T ?w1k ?w1p hf hc hcd hcv hN hNd hI hId hA hAd hm0 hi hin ?w1el ?w1er ?w1lr ?w1rn hnl ?w1dp ?_; (case w1B => k_asm); (case w1F => k_asm); (case w1X => k_asm); (case w1N => k_asm); (case w1T => k_asm); (case w1k => exact rfl); (case w1p => ktr_room); (case w1el => exact rfl); (case w1er => exact rfl))
      case w1lr => exact hmr
      case w1rn => exact hrn
      case w1dp => exact hd2
      intro tk1 h1 tkk1 F1 N1
      k_steps
      try dsimp only
      k_dflt (refine' D2iInner.use (ih (dep - 1) (by omega)) (nI := n) (N₁ := N₁) (lo := lo) (ri := mid) ?w2B ?w2F ?w2X ?w2N ?w2T ?w2k ?w2p hf hc hcd hcv hN hNd hI hId hA hAd hm0 hi hin ?w2el ?w2er ?w2lr ?w2rn hnl ?w2dp ?_; (case w2B => k_asm); (case w2F => k_asm); (case w2X => k_asm); (case w2N => k_asm); (case w2T => k_asm); (case w2k => exact rfl); (case w2p => ktr_room); (case w2el => exact rfl); (case w2er => exact rfl))
      case w2lr => exact hlm
      case w2rn => omega
      case w2dp => exact hd1
      intro tk2 h2 tkk2 F2 N2
      k_steps
      rw [val_seg (by omega) (by omega) hrn hshe]
      refine' hret _ _ _ ?v2F ?v2N
      case v2F => k_asm
      case v2N => k_asm
    case w0lr => exact hlen
    case w0rn => exact Nat.le_refl _
    case w0n => exact hl2
    case w0dp => exact hl2
    intro tk9 h9 tkk9 F9 N9
    rw [seg_all]
    k_steps
    refine' hret _ _ _ _ ?r1F ?r1N ?r1T
    case r1F => k_asm
    case r1N => (refine' newsSub ?r1a (Suf.sub ?r1b); (case r1a => k_asm); (case r1b => ktr_rel))
    case r1T => assumption
  · rw [val_nil (by assumption)] at hret
    refine' hret _ _ _ _ ?r2F ?r2N ?r2T
    case r2F => k_asm
    case r2N => (refine' newsSub ?r2a (Suf.sub ?r2b); (case r2a => k_asm); (case r2b => ktr_rel))
    case r2T => assumption
end
section


local macro_rules | `(tactic| ktr_rel) => `(tactic| first | refine' TailOf.base | (refine' TailOf.cons ?t9; (case t9 => ktr_rel)))
local macro_rules | `(tactic| ktr_rel) => `(tactic| first | ((with_reducible refine' Sel.hit ?s9); (case s9 => ktr_rel)) | (refine' Sel.keep ?ne ?s9; (case ne => first | k_ne | (refine' ne_kind ?x1 ?x2 ?x3 ?x4; (case x1 => k_asm); (case x2 => k_mem); (case x3 => k_mem); (case x4 => with_unfolding_all rfl)) | fail "ne"); (case s9 => ktr_rel)) | (refine' Sel.base ?b9; (case b9 => (refine' off_all ?n1 ?n2 ?n3 ?n4 ?n5 ?n6; (case n1 => assumption); (case n2 => assumption); (case n3 => ktr_rel); (case n4 => k_mem); (case n5 => first | exact rfl | assumption | (refine' tlk_cell ?n7; (case n7 => assumption))); (case n6 => (refine' ne_above ?n8 ?n9; (case n8 => assumption); (case n9 => omega)))))))
local macro_rules | `(tactic| walk_at "storeName") => `(tactic| (k_here; k_dflt (refine' store_cell ?F ?N ?c ?m ?d ?S ?_ ?a ?b; (case a => rfl); (case b => rfl); (case F => k_asm); (case N => k_asm); (case c => rfl); (case m => k_mem); (case d => k_asm); (case S => ktr_rel); k_whole; intro h' o' F' N' d'; (try dsimp only at N'); (try k_sweep))))
local macro_rules | `(tactic| ktr_rel) => `(tactic| first | (refine' Spl.base ?b9; (case b9 => assumption)) | (refine' Spl.keep ?ta ?s9; (case ta => (first | exact rfl | assumption | (refine' tabby_cell ?b8; (case b8 => assumption)) | (refine' tabby_of_tlk ?b8; (case b8 => assumption)) | (refine' tabby_code ?b8 ?b7; (case b8 => assumption); (case b7 => assumption)) | fail "ta")); (case s9 => ktr_rel)) | (refine' Spl.drop ?s9; (case s9 => ktr_rel)))
local macro_rules | `(tactic| ktr_rel) => `(tactic| first | refine' Suf.base | (refine' Suf.cons ?t9; (case t9 => ktr_rel)))
local macro_rules | `(tactic| walk_at "callWith ref") => `(tactic| (k_here; k_dflt (first
  | (refine' callWith_F ?k1 ?_; (case k1 => exact FnAt.of (by k_asm) (by k_mem)); k_whole)
  | (refine' callWith_F0 ?k1 ?_; (case k1 => exact FnAt.of (by k_asm) (by k_mem)); k_whole; try dsimp only [List.nil_append, List.cons_append]))))
local macro_rules | `(tactic| walk_at "eval Name") => `(tactic| (k_here; k_dflt (refine' nameX_F ?N ?c ?m ?d ?_ ?a ?b; (case a => rfl); (case b => rfl); (case N => k_asm); (case c => rfl); (case m => k_mem); (case d => k_asm); k_whole)))
local macro_rules | `(tactic| k_all) => `(tactic| assumption)
local macro_rules | `(tactic| k_mem) => `(tactic| first | ((with_reducible refine' memL ?_); assumption) | ((with_reducible refine' memR ?_); assumption) | ((with_reducible refine' memI ?_); ktr_member) | fail "k_mem")
local macro_rules | `(tactic| walk_at "binaryOp RShift int int") => `(tactic| (k_here; (refine' rshift_eq ?n ?e ?_; (case n => first | decide | assumption | exact Int.natCast_nonneg _); (case e => assumption); k_whole)))
local macro_rules | `(tactic| walk_at "binaryOp Mult int int") => `(tactic| (k_here; (refine' mul_eq ?e ?n ?_; (case e => assumption); (case n => assumption); k_whole)))
local macro_rules | `(tactic| walk_at "binaryOp LShift int int") => `(tactic| (k_here; (refine' lshift_eq ?e ?n ?m ?_; (case e => assumption); (case n => first | decide | assumption | exact Int.natCast_nonneg _); (case m => assumption); k_whole)))
local macro_rules | `(tactic| walk_at "binaryOp BitXor int int") => `(tactic| (k_here; (refine' xor_eq ?e ?_; (case e => assumption); k_whole)))

local macro_rules | `(tactic| walk_at "call builtin:len") => `(tactic| (k_here; (with_reducible show wpAny _ _ (call (Value.builtin "len") [Value.ref _]) _ _ _); k_dflt (refine' len_list' ?kl1 ?kl2 ?kl3 ?kl4 ?_; (case kl1 => k_asm); (case kl2 => k_mem); (case kl3 => assumption); (case kl4 => first | omega | ((try simp only [List.length_replicate]); omega)); k_whole); (try simp only [List.length_replicate])))
local macro_rules | `(tactic| walk_at "truthy ref") => `(tactic| (k_here; (with_reducible show wpAny _ _ (truthy (Value.ref _)) _ _ _); k_dflt (refine' truthy_list ?kl1 ?kl2 ?kl3 ?kl4 ?_; (case kl1 => k_asm); (case kl2 => k_mem); (case kl3 => assumption); (case kl4 => omega); k_whole)))

local macro_rules | `(tactic| ktr_rel) => `(tactic| first | (refine' Pick.base ?pb9; (case pb9 => ktr_rel)) | (refine' Pick.cons ?pm9 ?pr9; (case pm9 => k_mem); (case pr9 => ktr_rel)) | fail "pick")
local macro_rules | `(tactic| walk_at "call builtin:list.append") => `(tactic| (k_here; k_dflt (show wpAny _ _ (call (Value.builtin _) [Value.ref _, _]) _ _ _); k_dflt (refine' append_my ?ap1 ?ap2 ?ap3 ?ap4 ?ap5 ?_; (case ap1 => k_asm); (case ap2 => k_asm); (case ap3 => k_mem); (case ap4 => ktr_rel); (case ap5 => omega); k_whole); intro h' F' N'))
local macro_rules | `(tactic| walk_at "call builtin:list.reverse") => `(tactic| (k_here; k_dflt (show wpAny _ _ (call (Value.builtin _) [Value.ref _]) _ _ _); k_dflt (refine' reverse_my ?ap1 ?ap2 ?ap3 ?ap4 ?ap5 ?_; (case ap1 => k_asm); (case ap2 => k_asm); (case ap3 => k_mem); (case ap4 => ktr_rel); (case ap5 => omega); k_whole); intro h' F' N'))
local macro_rules | `(tactic| walk_at "binaryOp Add int int") => `(tactic| (k_here; (refine' add_eq ?e ?_; (case e => assumption); k_whole)))
local macro_rules | `(tactic| walk_at "compareOp Is") => `(tactic| (k_here; (with_reducible show wpAny _ _ (compareOp CmpOp.Is (Value.int _ _) (Value.ref _)) _ _ _); k_dflt (refine' wpAny_is_other ?io1 ?io2 ?_; (case io1 => with_unfolding_all rfl); (case io2 => (intro x; cases x)); k_whole)))
theorem add_spec {w : World} {dp un : Nat} {gd : Option (List Code)} {cn : Str} {cs : Scope} {a : Addr} {ccd : Value} {cl : List (Str × Addr)} {outer : List Env}
    {A₀ : Around} {base h₀ : Heap} {L : Addr} {m mg mb : Str → Option Value} {loose : List Str} {mean : ExcName → Option Value} {news : List (Addr × Obj)} {s : Shared}
    {x y : Int} {t u : Tok} {Q E : Value → Shared → Prop}
    (B : Below A₀ base outer h₀) (F : Fr h₀ L s.heap m) (X : (Mine.hd.heap_39 w.params).In h₀) (N : News h₀ L s.heap news) (T : Top topProg loose mean mg mb h₀)
    (hk : cs.kind = .function) (hd : dp + 1 < 1000)
    (hret : ∀ h' tk tk', Fr h₀ L h' m → News h₀ L h' news → Q (.int (x + y) tk) { s with heap := h', toks := tk' }) :
    wpAny (model PySem.Challenge.rw_xi0012_02.row.prog w) (ktrTop dp un gd cn cs L a ccd cl outer) (call (.ref 72) [.int x t, .int y u]) Q E s := by
  revert X; k_fill; intro X
  refine wpAny_call ?_
  k_dflt ktr_enter
  k_steps
  all_goals exact hret _ _ _ (by k_asm) (by k_asm)
theorem sub_spec {w : World} {dp un : Nat} {gd : Option (List Code)} {cn : Str} {cs : Scope} {a : Addr} {ccd : Value} {cl : List (Str × Addr)} {outer : List Env}
    {A₀ : Around} {base h₀ : Heap} {L : Addr} {m mg mb : Str → Option Value} {loose : List Str} {mean : ExcName → Option Value} {news : List (Addr × Obj)} {s : Shared}
    {x y : Int} {t u : Tok} {Q E : Value → Shared → Prop}
    (B : Below A₀ base outer h₀) (F : Fr h₀ L s.heap m) (X : (Mine.hd.heap_39 w.params).In h₀) (N : News h₀ L s.heap news) (T : Top topProg loose mean mg mb h₀)
    (hk : cs.kind = .function) (hd : dp + 1 < 1000)
    (hret : ∀ h' tk tk', Fr h₀ L h' m → News h₀ L h' news → Q (.int (x - y) tk) { s with heap := h', toks := tk' }) :
    wpAny (model PySem.Challenge.rw_xi0012_02.row.prog w) (ktrTop dp un gd cn cs L a ccd cl outer) (call (.ref 86) [.int x t, .int y u]) Q E s := by
  revert X; k_fill; intro X
  refine wpAny_call ?_
  k_dflt ktr_enter
  k_steps
  all_goals exact hret _ _ _ (by k_asm) (by k_asm)
section
local macro_rules | `(tactic| walk_at "binaryOp Mult int int") => `(tactic| (k_here; (refine' mul_int ?_ ?n; rotate_left; (case n => assumption); k_whole)))
theorem mul_spec {w : World} {dp un : Nat} {gd : Option (List Code)} {cn : Str} {cs : Scope} {a : Addr} {ccd : Value} {cl : List (Str × Addr)} {outer : List Env}
    {A₀ : Around} {base h₀ : Heap} {L : Addr} {m mg mb : Str → Option Value} {loose : List Str} {mean : ExcName → Option Value} {news : List (Addr × Obj)} {s : Shared}
    {x y : Int} {t u : Tok} {Q E : Value → Shared → Prop}
    (B : Below A₀ base outer h₀) (F : Fr h₀ L s.heap m) (X : (Mine.hd.heap_39 w.params).In h₀) (N : News h₀ L s.heap news) (T : Top topProg loose mean mg mb h₀)
    (hk : cs.kind = .function) (hd : dp + 1 < 1000) (hm : IntMulOk x y)
    (hret : ∀ h' tk tk', Fr h₀ L h' m → News h₀ L h' news → Q (.int (x * y) tk) { s with heap := h', toks := tk' }) :
    wpAny (model PySem.Challenge.rw_xi0012_02.row.prog w) (ktrTop dp un gd cn cs L a ccd cl outer) (call (.ref 79) [.int x t, .int y u]) Q E s := by
  revert X; k_fill; intro X
  refine wpAny_call ?_
  k_dflt ktr_enter
  k_steps
  all_goals exact hret _ _ _ (by k_asm) (by k_asm)
end
section
local macro_rules | `(tactic| walk_at "call builtin:divmod") => `(tactic| (k_here; (with_reducible show wpAny _ _ (call (Value.builtin _) [Value.int _ _, Value.int _ _]) _ _ _); (refine' divmod_N ?dF ?dN ?db ?_ (Or.inl ?dp); (case dF => k_asm); (case dN => k_asm); (case db => assumption); (case dp => assumption)); intro h' F' N'))
theorem div2n1n_spec {w : World} {dp un : Nat} {gd : Option (List Code)} {cn : Str} {cs : Scope} {a : Addr} {ccd : Value} {cl : List (Str × Addr)} {outer : List Env}
    {A₀ : Around} {base h₀ : Heap} {L : Addr} {m mg mb : Str → Option Value} {loose : List Str} {mean : ExcName → Option Value} {news : List (Addr × Obj)} {s : Shared}
    {x y n q₁ r₁ : Int} {t u v : Tok} {Q E : Value → Shared → Prop}
    (B : Below A₀ base outer h₀) (F : Fr h₀ L s.heap m) (X : (Mine.hd.heap_39 w.params).In h₀) (N : News h₀ L s.heap news) (T : Top topProg loose mean mg mb h₀)
    (hk : cs.kind = .function) (hd : dp + 1 < 1000) (hle : (Builtin.Int.intBits x : Int) - n ≤ 4000) (hy : y ≠ 0) (hpy : Builtin.divisionGoesByPylong x y = false) (hq₁ : x.fdiv y = q₁) (hr₁ : x.fmod y = r₁)
    (hret : ∀ q h' t1 t2 tk', Fr h₀ L h' m → News h₀ L h' ((q, { cls := .type "tuple", data := .seq #[.int q₁ t1, .int r₁ t2] }) :: news) → Q (.ref q) { s with heap := h', toks := tk' }) :
    wpAny (model PySem.Challenge.rw_xi0012_02.row.prog w) (ktrTop dp un gd cn cs L a ccd cl outer) (call (.ref 21) [.int x t, .int y u, .int n v]) Q E s := by
  revert X; k_fill; intro X
  refine wpAny_call ?_
  k_dflt ktr_enter
  subst hq₁ hr₁
  k_steps
  all_goals exact hret _ _ _ _ _ (by k_asm) (by k_asm)
end
end
section
local macro_rules | `(tactic| walk_at "no key 4") => `(tactic| fail)
local macro_rules | `(tactic| walk_at "no key 3") => `(tactic| fail)
local macro_rules | `(tactic| walk_at "no key 2") => `(tactic| fail)
local macro_rules | `(tactic| walk_at "no key 1") => `(tactic| fail)
local macro_rules | `(tactic| walk_at "no key 0") => `(tactic| fail)


local macro_rules | `(tactic| ktr_rel) => `(tactic| first | refine' TailOf.base | (refine' TailOf.cons ?t9; (case t9 => ktr_rel)))
local macro_rules | `(tactic| ktr_rel) => `(tactic| first | ((with_reducible refine' Sel.hit ?s9); (case s9 => ktr_rel)) | (refine' Sel.keep ?ne ?s9; (case ne => first | k_ne | (refine' ne_kind ?x1 ?x2 ?x3 ?x4; (case x1 => k_asm); (case x2 => k_mem); (case x3 => k_mem); (case x4 => with_unfolding_all rfl)) | fail "ne"); (case s9 => ktr_rel)) | (refine' Sel.base ?b9; (case b9 => (refine' off_all ?n1 ?n2 ?n3 ?n4 ?n5 ?n6; (case n1 => assumption); (case n2 => assumption); (case n3 => ktr_rel); (case n4 => k_mem); (case n5 => first | exact rfl | assumption | (refine' tlk_cell ?n7; (case n7 => assumption))); (case n6 => (refine' ne_above ?n8 ?n9; (case n8 => assumption); (case n9 => omega)))))))
local macro_rules | `(tactic| walk_at "storeName") => `(tactic| (k_here; k_dflt (refine' store_cell ?F ?N ?c ?m ?d ?S ?_ ?a ?b; (case a => rfl); (case b => rfl); (case F => k_asm); (case N => k_asm); (case c => rfl); (case m => k_mem); (case d => k_asm); (case S => ktr_rel); k_whole; intro h' o' F' N' d'; (try dsimp only at N'); (try k_sweep))))
local macro_rules | `(tactic| ktr_rel) => `(tactic| first | (refine' Spl.base ?b9; (case b9 => assumption)) | (refine' Spl.keep ?ta ?s9; (case ta => (first | exact rfl | assumption | (refine' tabby_cell ?b8; (case b8 => assumption)) | (refine' tabby_of_tlk ?b8; (case b8 => assumption)) | (refine' tabby_code ?b8 ?b7; (case b8 => assumption); (case b7 => assumption)) | fail "ta")); (case s9 => ktr_rel)) | (refine' Spl.drop ?s9; (case s9 => ktr_rel)))
local macro_rules | `(tactic| ktr_rel) => `(tactic| first | refine' Suf.base | (refine' Suf.cons ?t9; (case t9 => ktr_rel)))
local macro_rules | `(tactic| walk_at "callWith ref") => `(tactic| (k_here; k_dflt (first
  | (refine' callWith_F ?k1 ?_; (case k1 => exact FnAt.of (by k_asm) (by k_mem)); k_whole)
  | (refine' callWith_F0 ?k1 ?_; (case k1 => exact FnAt.of (by k_asm) (by k_mem)); k_whole; try dsimp only [List.nil_append, List.cons_append]))))
local macro_rules | `(tactic| walk_at "eval Name") => `(tactic| (k_here; k_dflt (refine' nameX_F ?N ?c ?m ?d ?_ ?a ?b; (case a => rfl); (case b => rfl); (case N => k_asm); (case c => rfl); (case m => k_mem); (case d => k_asm); k_whole)))
local macro_rules | `(tactic| k_all) => `(tactic| assumption)
local macro_rules | `(tactic| k_mem) => `(tactic| first | ((with_reducible refine' memL ?_); assumption) | ((with_reducible refine' memR ?_); assumption) | ((with_reducible refine' memI ?_); ktr_member) | fail "k_mem")
local macro_rules | `(tactic| walk_at "binaryOp RShift int int") => `(tactic| (k_here; (refine' rshift_eq ?n ?e ?_; (case n => first | decide | assumption | exact Int.natCast_nonneg _); (case e => assumption); k_whole)))
local macro_rules | `(tactic| walk_at "binaryOp Mult int int") => `(tactic| (k_here; (refine' mul_eq ?e ?n ?_; (case e => assumption); (case n => assumption); k_whole)))
local macro_rules | `(tactic| walk_at "binaryOp LShift int int") => `(tactic| (k_here; (refine' lshift_eq ?e ?n ?m ?_; (case e => assumption); (case n => first | decide | assumption | exact Int.natCast_nonneg _); (case m => assumption); k_whole)))
local macro_rules | `(tactic| walk_at "binaryOp BitXor int int") => `(tactic| (k_here; (refine' xor_eq ?e ?_; (case e => assumption); k_whole)))

local macro_rules | `(tactic| walk_at "call builtin:len") => `(tactic| (k_here; (with_reducible show wpAny _ _ (call (Value.builtin "len") [Value.ref _]) _ _ _); k_dflt (refine' len_list' ?kl1 ?kl2 ?kl3 ?kl4 ?_; (case kl1 => k_asm); (case kl2 => k_mem); (case kl3 => assumption); (case kl4 => first | omega | ((try simp only [List.length_replicate]); omega)); k_whole); (try simp only [List.length_replicate])))
local macro_rules | `(tactic| walk_at "truthy ref") => `(tactic| (k_here; (with_reducible show wpAny _ _ (truthy (Value.ref _)) _ _ _); k_dflt (refine' truthy_list ?kl1 ?kl2 ?kl3 ?kl4 ?_; (case kl1 => k_asm); (case kl2 => k_mem); (case kl3 => assumption); (case kl4 => omega); k_whole)))

local macro_rules | `(tactic| ktr_rel) => `(tactic| first | (refine' Pick.base ?pb9; (case pb9 => ktr_rel)) | (refine' Pick.cons ?pm9 ?pr9; (case pm9 => k_mem); (case pr9 => ktr_rel)) | fail "pick")
local macro_rules | `(tactic| walk_at "call builtin:list.append") => `(tactic| (k_here; k_dflt (show wpAny _ _ (call (Value.builtin _) [Value.ref _, _]) _ _ _); k_dflt (refine' append_my ?ap1 ?ap2 ?ap3 ?ap4 ?ap5 ?_; (case ap1 => k_asm); (case ap2 => k_asm); (case ap3 => k_mem); (case ap4 => ktr_rel); (case ap5 => omega); k_whole); intro h' F' N'))
local macro_rules | `(tactic| walk_at "call builtin:list.reverse") => `(tactic| (k_here; k_dflt (show wpAny _ _ (call (Value.builtin _) [Value.ref _]) _ _ _); k_dflt (refine' reverse_my ?ap1 ?ap2 ?ap3 ?ap4 ?ap5 ?_; (case ap1 => k_asm); (case ap2 => k_asm); (case ap3 => k_mem); (case ap4 => ktr_rel); (case ap5 => omega); k_whole); intro h' F' N'))
local macro_rules | `(tactic| walk_at "binaryOp Add int int") => `(tactic| (k_here; (refine' add_eq ?e ?_; (case e => assumption); k_whole)))
local macro_rules | `(tactic| walk_at "compareOp Is") => `(tactic| (k_here; (with_reducible show wpAny _ _ (compareOp CmpOp.Is (Value.int _ _) (Value.ref _)) _ _ _); k_dflt (refine' wpAny_is_other ?io1 ?io2 ?_; (case io1 => with_unfolding_all rfl); (case io2 => (intro x; cases x)); k_whole)))
/-- the state of _divmod_pos' loop behind i turns -/
def DivJ (X₁ Y₁ N₁ len : Nat) (y : Int) (lq da : Addr) (va : List Value) (ka : Nat) (R : List (Addr × Obj)) (i : Nat) (m : Str → Option Value) (nx : List (Addr × Obj)) : Prop :=
  ∃ (vq : List Value) (kq : Nat) (qs : List Int) (tr tb tn : Tok), nx = (lq, PySem.W.listOf vq.toArray kq) :: (da, PySem.W.listOf va.toArray ka) :: R ∧ IntsAre vq qs ∧ qs.length = i ∧ InR N₁ qs ∧ val N₁ qs.reverse = ((top X₁ N₁ len i / Y₁ : Nat) : Int) ∧
    ∀ p ∈ [(Str.ofString "r", Value.int ((top X₁ N₁ len i % Y₁ : Nat) : Int) tr), (Str.ofString "b", Value.int y tb), (Str.ofString "n", Value.int (N₁ : Int) tn), (Str.ofString "q_digits", Value.ref lq)], m p.1 = some p.2
theorem divmod_pos_spec {w : World} {dp un : Nat} {gd : Option (List Code)} {cn : Str} {cs : Scope} {a : Addr} {ccd : Value} {cl : List (Str × Addr)} {outer : List Env}
    {A₀ : Around} {base h₀ : Heap} {L : Addr} {m mg mb : Str → Option Value} {loose : List Str} {mean : ExcName → Option Value} {rest tl : List (Addr × Obj)} {s : Shared}
    {x y : Int} {X₁ Y₁ N₁ len : Nat} {t u : Tok} {Q E : Value → Shared → Prop}
    (B : Below A₀ base outer h₀) (F : Fr h₀ L s.heap m) (X : (Mine.hd.heap_39 w.params).In h₀) (N : News h₀ L s.heap (rest ++ tl)) (T : Top topProg loose mean mg mb h₀)
    (hk : cs.kind = .function) (hd : dp + 20 < 1000) (hr : NT rest) (ht : TabsOk Ts tl) (hx : x = X₁) (hy : y = Y₁) (hy0 : 0 < Y₁) (hN : N₁ = Builtin.Int.intBits y) (hn2 : N₁ ≤ 2000) (hlen : len = (Builtin.Int.intBits x + N₁ - 1) / N₁) (hl2 : len ≤ 256)
    (hret : ∀ q h' t1 t2 tk' tl', Fr h₀ L h' m → News h₀ L h' ((q, { cls := .type "tuple", data := .seq #[.int ((X₁ / Y₁ : Nat) : Int) t1, .int ((X₁ % Y₁ : Nat) : Int) t2] }) :: (rest ++ tl')) → TabsOk Ts tl' → Q (.ref q) { s with heap := h', toks := tk' }) :
    wpAny (model PySem.Challenge.rw_xi0012_02.row.prog w) (ktrTop dp un gd cn cs L a ccd cl outer) (call (.ref 49) [.int x t, .int y u]) Q E s := by
  revert X; k_fill; intro X
  refine wpAny_call ?_
  k_dflt ktr_enter
  k_steps
  have hb := bits_pos hy0
  rw [← hy, ← hN] at hb
  obtain ⟨hN0, hYN⟩ := hb
  have hXl : X₁ < 2 ^ (N₁ * len) := by
    by_cases h0 : x = 0
    · have : X₁ = 0 := by omega
      rw [this]; exact Nat.pow_pos (by decide)
    · exact (len_pos hx h0 hN0 hlen).2
  k_dflt (refine' i2d_spec (X₁ := X₁) (N₁ := N₁) (len := len) ?a1 ?a2 ?a3 (Spl.news ?aS ?a4) ?a5 ?a6 ?a7 (Spl.nt ?aS) ?a8 hx ?a9 ?a10 hn2 hlen hl2 ?_; (case a1 => k_asm); (case a2 => k_asm); (case a3 => k_asm); (case a4 => k_asm); (case aS => ktr_rel); (case a5 => k_asm); (case a6 => exact rfl); (case a7 => ktr_room); (case a8 => assumption); (case a9 => (rw [hN])); (case a10 => exact hN0))
  intro da h9 tk9 va ka tl9 F9 N9 ht9 i9 l9
  k_steps
  all_goals try dsimp only
  rename_i lq hq1 lq1 hq2 Dq hq3 Fq Nq lD
  k_dflt (refine' loop_rev (DivJ X₁ Y₁ N₁ len y lq da va ka (rest ++ tl9)) ?b1 i9 ?b2 ?b3 ?b4 ?b5 ?b6 ?b7 ?b8 ?_ ?_; (case b1 => rfl); (case b6 => k_asm); (case b7 => k_asm); (case b2 => k_mem); (case b3 => ktr_rel); (case b4 => k_mem))
  case b8 =>
    refine' ⟨[], 0, [], _, _, _, rfl, .nil, rfl, (fun _ h => nomatch h), ?bv, ?bp⟩
    case bp =>
      refine' List.forall_mem_cons.mpr ⟨?bq, List.forall_mem_cons.mpr ⟨rfl, List.forall_mem_cons.mpr ⟨?br, List.forall_mem_cons.mpr ⟨rfl, List.forall_mem_nil _⟩⟩⟩⟩
      case bq => (rw [top_zero hXl, Nat.zero_mod]; rfl)
      case br => (rw [hN]; rfl)
    case bv => (rw [top_zero hXl, Nat.zero_div]; rfl)
  case b5 =>
    rintro i m nx ⟨vq, kq, qs, tr, tb, tn, rfl, _⟩
    exact .tail _ (.head _)
  · intro i t9 m₁ news₁ h1 tk1 itO hi ⟨vq, kq, qs, tr, tb, tn, e1, hvq, hql, hqr, hqv, hps⟩ hoff hkI F1 N1
    subst e1
    rw [digs_length] at hi F1
    rw [digs_getD (show len - 1 - i < len by omega)] at F1
    replace F1 := kstB_frX F1 hps
    obtain ⟨d9, hd9⟩ : ∃ d9, X₁ / 2 ^ (N₁ * (len - 1 - i)) % 2 ^ N₁ = d9 := ⟨_, rfl⟩
    have hd2 : d9 < 2 ^ N₁ := by rw [← hd9]; exact Nat.mod_lt _ (Nat.pow_pos (by decide))
    have htop := top_succ (X := X₁) (N := N₁) hi
    rw [hd9] at F1 htop
    obtain ⟨H, hH⟩ : ∃ H, top X₁ N₁ len i = H := ⟨_, rfl⟩
    rw [hH] at F1 htop hqv
    obtain ⟨s1, s2, s3, s4⟩ := div_step (H := H) hy0 hd2
    have f1 : ((H % Y₁ : Nat) : Int) * 2 ^ Int.toNat (N₁ : Int) = ((H % Y₁ * 2 ^ N₁ : Nat) : Int) := by rw [Int.toNat_natCast]; norm_cast
    have f2 : ((H % Y₁ * 2 ^ N₁ : Nat) : Int) + (d9 : Int) = ((H % Y₁ * 2 ^ N₁ + d9 : Nat) : Int) := by norm_cast
    have f3 : (Builtin.Int.intBits ((H % Y₁ : Nat) : Int) : Int) + (N₁ : Int) ≤ 2 ^ 27 := shl_fits (k := N₁) (Nat.lt_of_lt_of_le (Nat.mod_lt _ hy0) (Nat.le_of_lt hYN)) (by omega)
    have f4 := bits_two s4 hYN
    have hvl := hvq.length
    have hDl : @Ne Nat Dq lq := fun e => hoff _ (.head _) e.symm
    have hDa : @Ne Nat Dq da := fun e => hoff _ (.tail _ (.head _)) e.symm
    k_steps
    all_goals try dsimp only
    k_dflt (refine' div2n1n_spec (q₁ := (((H % Y₁ * 2 ^ N₁ + d9) / Y₁ : Nat) : Int)) (r₁ := (((H % Y₁ * 2 ^ N₁ + d9) % Y₁ : Nat) : Int)) ?c1 ?c2 ?c3 ?c4 ?c5 ?c6 ?c7 ?c8 ?c9 ?c10 ?c11 ?c12 ?_; (case c1 => k_asm); (case c2 => k_asm); (case c3 => k_asm); (case c4 => k_asm); (case c5 => k_asm); (case c6 => exact rfl); (case c7 => ktr_room); (case c8 => omega); (case c9 => omega); (case c10 => (rw [hy]; exact PyProof.noPylong_of_log2 (log2_small hYN hn2))); (case c11 => (rw [hy, nat_fdiv])); (case c12 => (rw [hy, nat_fmod])))
    intro q9 h2 t1 t2 tk2 F2 N2
    k_steps
    all_goals try dsimp only
    refine' TurnPost.next ?e1 ?e2 ?e3 ?e4
    case e1 => k_asm
    case e4 =>
      refine' ⟨vq ++ [.int (((H % Y₁ * 2 ^ N₁ + d9) / Y₁ : Nat) : Int) t1], kq + 1, qs ++ [(((H % Y₁ * 2 ^ N₁ + d9) / Y₁ : Nat) : Int)], t2, tb, tn, rfl, IntsAre.append hvq (.cons _ t1 .nil), ?f1, inR_snoc hqr s3, ?f2, ?f3⟩
      case f1 => (rw [List.length_append, hql]; rfl)
      case f2 =>
        rw [val_snoc_rev, hqv, htop, s2]
        push_cast
        omega
      case f3 =>
        rw [htop, s1]
        exact List.forall_mem_cons.mpr ⟨rfl, List.forall_mem_cons.mpr ⟨rfl, List.forall_mem_cons.mpr ⟨rfl, List.forall_mem_cons.mpr ⟨rfl, List.forall_mem_nil _⟩⟩⟩⟩
    case e2 => (refine' Pick.news ?g1 ?g2; (case g2 => k_asm); (case g1 => ktr_rel))
    case e3 =>
      intro p hp
      rcases List.mem_cons.mp hp with rfl | hp
      · exact hoff (lq, PySem.W.listOf vq.toArray kq) (.head _)
      · exact hoff p (.tail _ hp)
  · intro h1 tk1 m₁ news₁ ⟨vq, kq, qs, tr, tb, tn, e1, hvq, hql, hqr, hqv, hps⟩ F1 N1
    subst e1
    rw [digs_length] at hql hqv hps
    rw [top_all] at hqv hps
    replace F1 := kstB_fr F1 hps
    have hvl := hvq.length
    k_steps
    all_goals try dsimp only
    k_dflt (refine' d2i_spec (N₁ := N₁) (ns := qs.reverse) ?h1 ?h2 ?h3 (Spl.news ?hS ?h4) ?h5 ?h6 ?h7 (Spl.nt ?hS) ?h8 ?h9 hvq.reverse (inR_rev hqr) ?h10 hn2 ?h11 ?_; (case h1 => k_asm); (case h2 => k_asm); (case h3 => k_asm); (case h4 => k_asm); (case hS => ktr_rel); (case h5 => k_asm); (case h6 => exact rfl); (case h7 => ktr_room); (case h8 => assumption); (case h9 => k_mem); (case h10 => exact rfl); (case h11 => (rw [List.length_reverse]; omega)))
    rw [hqv]
    intro tk3 h3 tkk3 tl3 F3 N3 ht3
    k_steps
    all_goals try dsimp only
    refine' hret _ _ _ _ _ _ ?r1F ?r1N ?r1T
    case r1F => k_asm
    case r1N => (refine' Pick.news ?r1a ?r1b; (case r1b => k_asm); (case r1a => ktr_rel))
    case r1T => assumption
end
section


local macro_rules | `(tactic| ktr_rel) => `(tactic| first | refine' TailOf.base | (refine' TailOf.cons ?t9; (case t9 => ktr_rel)))
local macro_rules | `(tactic| ktr_rel) => `(tactic| first | ((with_reducible refine' Sel.hit ?s9); (case s9 => ktr_rel)) | (refine' Sel.keep ?ne ?s9; (case ne => first | k_ne | (refine' ne_kind ?x1 ?x2 ?x3 ?x4; (case x1 => k_asm); (case x2 => k_mem); (case x3 => k_mem); (case x4 => with_unfolding_all rfl)) | fail "ne"); (case s9 => ktr_rel)) | (refine' Sel.base ?b9; (case b9 => (refine' off_all ?n1 ?n2 ?n3 ?n4 ?n5 ?n6; (case n1 => assumption); (case n2 => assumption); (case n3 => ktr_rel); (case n4 => k_mem); (case n5 => first | exact rfl | assumption | (refine' tlk_cell ?n7; (case n7 => assumption))); (case n6 => (refine' ne_above ?n8 ?n9; (case n8 => assumption); (case n9 => omega)))))))
local macro_rules | `(tactic| walk_at "storeName") => `(tactic| (k_here; k_dflt (refine' store_cell ?F ?N ?c ?m ?d ?S ?_ ?a ?b; (case a => rfl); (case b => rfl); (case F => k_asm); (case N => k_asm); (case c => rfl); (case m => k_mem); (case d => k_asm); (case S => ktr_rel); k_whole; intro h' o' F' N' d'; (try dsimp only at N'); (try k_sweep))))
local macro_rules | `(tactic| ktr_rel) => `(tactic| first | (refine' Spl.base ?b9; (case b9 => assumption)) | (refine' Spl.keep ?ta ?s9; (case ta => (first | exact rfl | assumption | (refine' tabby_cell ?b8; (case b8 => assumption)) | (refine' tabby_of_tlk ?b8; (case b8 => assumption)) | (refine' tabby_code ?b8 ?b7; (case b8 => assumption); (case b7 => assumption)) | fail "ta")); (case s9 => ktr_rel)) | (refine' Spl.drop ?s9; (case s9 => ktr_rel)))
local macro_rules | `(tactic| ktr_rel) => `(tactic| first | refine' Suf.base | (refine' Suf.cons ?t9; (case t9 => ktr_rel)))
local macro_rules | `(tactic| walk_at "callWith ref") => `(tactic| (k_here; k_dflt (first
  | (refine' callWith_F ?k1 ?_; (case k1 => exact FnAt.of (by k_asm) (by k_mem)); k_whole)
  | (refine' callWith_F0 ?k1 ?_; (case k1 => exact FnAt.of (by k_asm) (by k_mem)); k_whole; try dsimp only [List.nil_append, List.cons_append]))))
local macro_rules | `(tactic| walk_at "eval Name") => `(tactic| (k_here; k_dflt (refine' nameX_F ?N ?c ?m ?d ?_ ?a ?b; (case a => rfl); (case b => rfl); (case N => k_asm); (case c => rfl); (case m => k_mem); (case d => k_asm); k_whole)))
local macro_rules | `(tactic| k_all) => `(tactic| assumption)
local macro_rules | `(tactic| k_mem) => `(tactic| first | ((with_reducible refine' memL ?_); assumption) | ((with_reducible refine' memR ?_); assumption) | ((with_reducible refine' memI ?_); ktr_member) | fail "k_mem")
local macro_rules | `(tactic| walk_at "binaryOp RShift int int") => `(tactic| (k_here; (refine' rshift_eq ?n ?e ?_; (case n => first | decide | assumption | exact Int.natCast_nonneg _); (case e => assumption); k_whole)))
local macro_rules | `(tactic| walk_at "binaryOp Mult int int") => `(tactic| (k_here; (refine' mul_eq ?e ?n ?_; (case e => assumption); (case n => assumption); k_whole)))
local macro_rules | `(tactic| walk_at "binaryOp LShift int int") => `(tactic| (k_here; (refine' lshift_eq ?e ?n ?m ?_; (case e => assumption); (case n => first | decide | assumption | exact Int.natCast_nonneg _); (case m => assumption); k_whole)))
local macro_rules | `(tactic| walk_at "binaryOp BitXor int int") => `(tactic| (k_here; (refine' xor_eq ?e ?_; (case e => assumption); k_whole)))

local macro_rules | `(tactic| walk_at "call builtin:len") => `(tactic| (k_here; (with_reducible show wpAny _ _ (call (Value.builtin "len") [Value.ref _]) _ _ _); k_dflt (refine' len_list' ?kl1 ?kl2 ?kl3 ?kl4 ?_; (case kl1 => k_asm); (case kl2 => k_mem); (case kl3 => assumption); (case kl4 => first | omega | ((try simp only [List.length_replicate]); omega)); k_whole); (try simp only [List.length_replicate])))
local macro_rules | `(tactic| walk_at "truthy ref") => `(tactic| (k_here; (with_reducible show wpAny _ _ (truthy (Value.ref _)) _ _ _); k_dflt (refine' truthy_list ?kl1 ?kl2 ?kl3 ?kl4 ?_; (case kl1 => k_asm); (case kl2 => k_mem); (case kl3 => assumption); (case kl4 => omega); k_whole)))

local macro_rules | `(tactic| ktr_rel) => `(tactic| first | (refine' Pick.base ?pb9; (case pb9 => ktr_rel)) | (refine' Pick.cons ?pm9 ?pr9; (case pm9 => k_mem); (case pr9 => ktr_rel)) | fail "pick")
local macro_rules | `(tactic| walk_at "call builtin:list.append") => `(tactic| (k_here; k_dflt (show wpAny _ _ (call (Value.builtin _) [Value.ref _, _]) _ _ _); k_dflt (refine' append_my ?ap1 ?ap2 ?ap3 ?ap4 ?ap5 ?_; (case ap1 => k_asm); (case ap2 => k_asm); (case ap3 => k_mem); (case ap4 => ktr_rel); (case ap5 => omega); k_whole); intro h' F' N'))
local macro_rules | `(tactic| walk_at "call builtin:list.reverse") => `(tactic| (k_here; k_dflt (show wpAny _ _ (call (Value.builtin _) [Value.ref _]) _ _ _); k_dflt (refine' reverse_my ?ap1 ?ap2 ?ap3 ?ap4 ?ap5 ?_; (case ap1 => k_asm); (case ap2 => k_asm); (case ap3 => k_mem); (case ap4 => ktr_rel); (case ap5 => omega); k_whole); intro h' F' N'))
local macro_rules | `(tactic| walk_at "binaryOp Add int int") => `(tactic| (k_here; (refine' add_eq ?e ?_; (case e => assumption); k_whole)))
local macro_rules | `(tactic| walk_at "compareOp Is") => `(tactic| (k_here; (with_reducible show wpAny _ _ (compareOp CmpOp.Is (Value.int _ _) (Value.ref _)) _ _ _); k_dflt (refine' wpAny_is_other ?io1 ?io2 ?_; (case io1 => with_unfolding_all rfl); (case io2 => (intro x; cases x)); k_whole)))
theorem idm_pp {w : World} {dp un : Nat} {gd : Option (List Code)} {cn : Str} {cs : Scope} {a : Addr} {ccd : Value} {cl : List (Str × Addr)} {outer : List Env}
    {A₀ : Around} {base h₀ : Heap} {L : Addr} {m mg mb : Str → Option Value} {loose : List Str} {mean : ExcName → Option Value} {rest tl : List (Addr × Obj)} {s : Shared}
    {x y : Int} {X₁ Y₁ : Nat} {t u : Tok} {Q E : Value → Shared → Prop}
    (B : Below A₀ base outer h₀) (F : Fr h₀ L s.heap m) (X : (Mine.hd.heap_39 w.params).In h₀) (N : News h₀ L s.heap (rest ++ tl)) (T : Top topProg loose mean mg mb h₀)
    (hk : cs.kind = .function) (hd : dp + 30 < 1000) (hr : NT rest) (ht : TabsOk Ts tl) (hx : x = X₁) (hy : y = Y₁) (hy0 : 0 < Y₁) (hn2 : Builtin.Int.intBits y ≤ 2000) (hl2 : (Builtin.Int.intBits x + Builtin.Int.intBits y - 1) / Builtin.Int.intBits y ≤ 256)
    (hret : ∀ q h' t1 t2 tk' tl', Fr h₀ L h' m → News h₀ L h' ((q, { cls := .type "tuple", data := .seq #[.int ((X₁ / Y₁ : Nat) : Int) t1, .int ((X₁ % Y₁ : Nat) : Int) t2] }) :: (rest ++ tl')) → TabsOk Ts tl' → Q (.ref q) { s with heap := h', toks := tk' }) :
    wpAny (model PySem.Challenge.rw_xi0012_02.row.prog w) (ktrTop dp un gd cn cs L a ccd cl outer) (call (.ref 56) [.int x t, .int y u]) Q E s := by
  revert X; k_fill; intro X
  have y0 : 0 < y := by omega
  have x0 : 0 ≤ x := by omega
  refine wpAny_call ?_
  k_dflt ktr_enter
  k_steps
  · exfalso; omega
  all_goals try dsimp only
  k_dflt (refine' divmod_pos_spec (X₁ := X₁) (Y₁ := Y₁) ?daB ?daF ?daX (Spl.news ?daS ?daN) ?daT ?dak ?dad (Spl.nt ?daS) ?dah hx hy hy0 rfl hn2 rfl hl2 ?_; (case daB => k_asm); (case daF => k_asm); (case daX => k_asm); (case daN => k_asm); (case daS => ktr_rel); (case daT => k_asm); (case dak => exact rfl); (case dad => ktr_room); (case dah => assumption))
  intro q h1 t1 t2 tk1 tl1 F1 N1 ht1
  k_steps
  all_goals try dsimp only
  refine' hret _ _ _ _ _ _ ?r1F ?r1N ?r1T
  case r1F => k_asm
  case r1N => (refine' Pick.news ?r1a ?r1b; (case r1b => k_asm); (case r1a => ktr_rel))
  case r1T => assumption
section
local macro_rules | `(tactic| walk_at "unaryOp Invert int") => `(tactic| (k_here; (refine' invert_eq ?e ?_; (case e => assumption); k_whole)))
theorem idm_np {w : World} {dp un : Nat} {gd : Option (List Code)} {cn : Str} {cs : Scope} {a : Addr} {ccd : Value} {cl : List (Str × Addr)} {outer : List Env}
    {A₀ : Around} {base h₀ : Heap} {L : Addr} {m mg mb : Str → Option Value} {loose : List Str} {mean : ExcName → Option Value} {rest tl : List (Addr × Obj)} {s : Shared}
    {x y : Int} {X₁ Y₁ : Nat} {t u : Tok} {Q E : Value → Shared → Prop}
    (B : Below A₀ base outer h₀) (F : Fr h₀ L s.heap m) (X : (Mine.hd.heap_39 w.params).In h₀) (N : News h₀ L s.heap (rest ++ tl)) (T : Top topProg loose mean mg mb h₀)
    (hk : cs.kind = .function) (hd : dp + 32 < 1000) (hr : NT rest) (ht : TabsOk Ts tl) (hx : x = -((X₁ : Int) + 1)) (hy : y = Y₁) (hy0 : 0 < Y₁) (hn2 : Builtin.Int.intBits y ≤ 2000) (hl2 : (Builtin.Int.intBits x + Builtin.Int.intBits y - 1) / Builtin.Int.intBits y ≤ 256)
    (hret : ∀ q h' t1 t2 tk' tl', Fr h₀ L h' m → News h₀ L h' ((q, { cls := .type "tuple", data := .seq #[.int (-((X₁ / Y₁ : Nat) : Int) - 1) t1, .int ((Y₁ : Int) - ((X₁ % Y₁ : Nat) : Int) - 1) t2] }) :: (rest ++ tl')) → TabsOk Ts tl' → Q (.ref q) { s with heap := h', toks := tk' }) :
    wpAny (model PySem.Challenge.rw_xi0012_02.row.prog w) (ktrTop dp un gd cn cs L a ccd cl outer) (call (.ref 56) [.int x t, .int y u]) Q E s := by
  revert X; k_fill; intro X
  have y0 : 0 < y := by omega
  have x0 : x < 0 := by omega
  have e1 : Builtin.bitNot x = (X₁ : Int) := by unfold Builtin.bitNot; omega
  have e2 : Builtin.bitNot ((X₁ / Y₁ : Nat) : Int) = -((X₁ / Y₁ : Nat) : Int) - 1 := rfl
  have e3 : Builtin.bitNot ((X₁ % Y₁ : Nat) : Int) = -((X₁ % Y₁ : Nat) : Int) - 1 := rfl
  have e4 : y + (-((X₁ % Y₁ : Nat) : Int) - 1) = (Y₁ : Int) - ((X₁ % Y₁ : Nat) : Int) - 1 := by omega
  have hl3 : (Builtin.Int.intBits (X₁ : Int) + Builtin.Int.intBits y - 1) / Builtin.Int.intBits y ≤ 256 := by
    refine Nat.le_trans (Nat.div_le_div_right ?_) hl2
    have : Builtin.Int.intBits (X₁ : Int) ≤ Builtin.Int.intBits x := intBits_le_of_natAbs (by omega) (Nat.le_refl _)
    omega
  refine wpAny_call ?_
  k_dflt ktr_enter
  k_steps
  · exfalso; omega
  all_goals try dsimp only
  k_dflt (refine' idm_pp (X₁ := X₁) (Y₁ := Y₁) ?daB ?daF ?daX (Spl.news ?daS ?daN) ?daT ?dak ?dad (Spl.nt ?daS) ?dah rfl hy hy0 hn2 hl3 ?_; (case daB => k_asm); (case daF => k_asm); (case daX => k_asm); (case daN => k_asm); (case daS => ktr_rel); (case daT => k_asm); (case dak => exact rfl); (case dad => ktr_room); (case dah => assumption))
  intro q h1 t1 t2 tk1 tl1 F1 N1 ht1
  k_steps
  all_goals try dsimp only
  refine' hret _ _ _ _ _ _ ?r1F ?r1N ?r1T
  case r1F => k_asm
  case r1N => (refine' Pick.news ?r1a ?r1b; (case r1b => k_asm); (case r1a => ktr_rel))
  case r1T => assumption
end
end
section


local macro_rules | `(tactic| ktr_rel) => `(tactic| first | refine' TailOf.base | (refine' TailOf.cons ?t9; (case t9 => ktr_rel)))
local macro_rules | `(tactic| ktr_rel) => `(tactic| first | ((with_reducible refine' Sel.hit ?s9); (case s9 => ktr_rel)) | (refine' Sel.keep ?ne ?s9; (case ne => first | k_ne | (refine' ne_kind ?x1 ?x2 ?x3 ?x4; (case x1 => k_asm); (case x2 => k_mem); (case x3 => k_mem); (case x4 => with_unfolding_all rfl)) | fail "ne"); (case s9 => ktr_rel)) | (refine' Sel.base ?b9; (case b9 => (refine' off_all ?n1 ?n2 ?n3 ?n4 ?n5 ?n6; (case n1 => assumption); (case n2 => assumption); (case n3 => ktr_rel); (case n4 => k_mem); (case n5 => first | exact rfl | assumption | (refine' tlk_cell ?n7; (case n7 => assumption))); (case n6 => (refine' ne_above ?n8 ?n9; (case n8 => assumption); (case n9 => omega)))))))
local macro_rules | `(tactic| walk_at "storeName") => `(tactic| (k_here; k_dflt (refine' store_cell ?F ?N ?c ?m ?d ?S ?_ ?a ?b; (case a => rfl); (case b => rfl); (case F => k_asm); (case N => k_asm); (case c => rfl); (case m => k_mem); (case d => k_asm); (case S => ktr_rel); k_whole; intro h' o' F' N' d'; (try dsimp only at N'); (try k_sweep))))
local macro_rules | `(tactic| ktr_rel) => `(tactic| first | (refine' Spl.base ?b9; (case b9 => assumption)) | (refine' Spl.keep ?ta ?s9; (case ta => (first | exact rfl | assumption | (refine' tabby_cell ?b8; (case b8 => assumption)) | (refine' tabby_of_tlk ?b8; (case b8 => assumption)) | (refine' tabby_code ?b8 ?b7; (case b8 => assumption); (case b7 => assumption)) | fail "ta")); (case s9 => ktr_rel)) | (refine' Spl.drop ?s9; (case s9 => ktr_rel)))
local macro_rules | `(tactic| ktr_rel) => `(tactic| first | refine' Suf.base | (refine' Suf.cons ?t9; (case t9 => ktr_rel)))
local macro_rules | `(tactic| walk_at "callWith ref") => `(tactic| (k_here; k_dflt (first
  | (refine' callWith_F ?k1 ?_; (case k1 => exact FnAt.of (by k_asm) (by k_mem)); k_whole)
  | (refine' callWith_F0 ?k1 ?_; (case k1 => exact FnAt.of (by k_asm) (by k_mem)); k_whole; try dsimp only [List.nil_append, List.cons_append]))))
local macro_rules | `(tactic| walk_at "eval Name") => `(tactic| (k_here; k_dflt (refine' nameX_F ?N ?c ?m ?d ?_ ?a ?b; (case a => rfl); (case b => rfl); (case N => k_asm); (case c => rfl); (case m => k_mem); (case d => k_asm); k_whole)))
local macro_rules | `(tactic| k_all) => `(tactic| assumption)
local macro_rules | `(tactic| k_mem) => `(tactic| first | ((with_reducible refine' memL ?_); assumption) | ((with_reducible refine' memR ?_); assumption) | ((with_reducible refine' memI ?_); ktr_member) | fail "k_mem")
local macro_rules | `(tactic| walk_at "binaryOp RShift int int") => `(tactic| (k_here; (refine' rshift_eq ?n ?e ?_; (case n => first | decide | assumption | exact Int.natCast_nonneg _); (case e => assumption); k_whole)))
local macro_rules | `(tactic| walk_at "binaryOp Mult int int") => `(tactic| (k_here; (refine' mul_eq ?e ?n ?_; (case e => assumption); (case n => assumption); k_whole)))
local macro_rules | `(tactic| walk_at "binaryOp LShift int int") => `(tactic| (k_here; (refine' lshift_eq ?e ?n ?m ?_; (case e => assumption); (case n => first | decide | assumption | exact Int.natCast_nonneg _); (case m => assumption); k_whole)))
local macro_rules | `(tactic| walk_at "binaryOp BitXor int int") => `(tactic| (k_here; (refine' xor_eq ?e ?_; (case e => assumption); k_whole)))

local macro_rules | `(tactic| walk_at "call builtin:len") => `(tactic| (k_here; (with_reducible show wpAny _ _ (call (Value.builtin "len") [Value.ref _]) _ _ _); k_dflt (refine' len_list' ?kl1 ?kl2 ?kl3 ?kl4 ?_; (case kl1 => k_asm); (case kl2 => k_mem); (case kl3 => assumption); (case kl4 => first | omega | ((try simp only [List.length_replicate]); omega)); k_whole); (try simp only [List.length_replicate])))
local macro_rules | `(tactic| walk_at "truthy ref") => `(tactic| (k_here; (with_reducible show wpAny _ _ (truthy (Value.ref _)) _ _ _); k_dflt (refine' truthy_list ?kl1 ?kl2 ?kl3 ?kl4 ?_; (case kl1 => k_asm); (case kl2 => k_mem); (case kl3 => assumption); (case kl4 => omega); k_whole)))

local macro_rules | `(tactic| ktr_rel) => `(tactic| first | (refine' Pick.base ?pb9; (case pb9 => ktr_rel)) | (refine' Pick.cons ?pm9 ?pr9; (case pm9 => k_mem); (case pr9 => ktr_rel)) | fail "pick")
local macro_rules | `(tactic| walk_at "call builtin:list.append") => `(tactic| (k_here; k_dflt (show wpAny _ _ (call (Value.builtin _) [Value.ref _, _]) _ _ _); k_dflt (refine' append_my ?ap1 ?ap2 ?ap3 ?ap4 ?ap5 ?_; (case ap1 => k_asm); (case ap2 => k_asm); (case ap3 => k_mem); (case ap4 => ktr_rel); (case ap5 => omega); k_whole); intro h' F' N'))
local macro_rules | `(tactic| walk_at "call builtin:list.reverse") => `(tactic| (k_here; k_dflt (show wpAny _ _ (call (Value.builtin _) [Value.ref _]) _ _ _); k_dflt (refine' reverse_my ?ap1 ?ap2 ?ap3 ?ap4 ?ap5 ?_; (case ap1 => k_asm); (case ap2 => k_asm); (case ap3 => k_mem); (case ap4 => ktr_rel); (case ap5 => omega); k_whole); intro h' F' N'))
local macro_rules | `(tactic| walk_at "binaryOp Add int int") => `(tactic| (k_here; (refine' add_eq ?e ?_; (case e => assumption); k_whole)))
local macro_rules | `(tactic| walk_at "compareOp Is") => `(tactic| (k_here; (with_reducible show wpAny _ _ (compareOp CmpOp.Is (Value.int _ _) (Value.ref _)) _ _ _); k_dflt (refine' wpAny_is_other ?io1 ?io2 ?_; (case io1 => with_unfolding_all rfl); (case io2 => (intro x; cases x)); k_whole)))
local macro_rules | `(tactic| walk_at "callWith ref") => `(tactic| (k_here; k_dflt (refine' callWith_F ?k1 ?_; (case k1 => assumption); k_whole)))
local macro_rules | `(tactic| walk_at "FnAt") => `(tactic| assumption)
local macro_rules | `(tactic| walk_at "call builtin:iter") => `(tactic| (k_here; (with_reducible show wpAny _ _ (call (Value.builtin "iter") [Value.ref _]) _ _ _); k_dflt (refine' iter_list_my ?it1 ?it2 ?it3 ?_; (case it1 => k_asm); (case it2 => k_asm); (case it3 => k_mem); k_whole); intro I' h' F' N' l1))
local macro_rules | `(tactic| walk_at "exec For Name Name cons nil") => `(tactic| (k_here; (rename Fr _ _ _ _ => lF'); (with_unfolding_all refine' For_invVF lF' ?k1 ?k2 ?_; (case k1 => exact rfl); (case k2 => exact rfl); k_whole)))
/-- what a function of two ints does that reduce is handed -/
structure Fn2 (prog : Program) (w : World) (K : Frag) (dd : Nat) (led : List (Addr × Obj)) (f : Addr) (g : Int → Int → Int) (ok : Int → Int → Prop) : Prop where
  fnat : ∀ {h₀ h : Heap} {L : Addr} {m : Str → Option Value} {news : List (Addr × Obj)}, Fr h₀ L h m → K.In h₀ → News h₀ L h news → (∀ p ∈ led, p ∈ news) → FnAt f h
  out : ∀ {dp un : Nat} {gd : Option (List Code)} {cn : Str} {cs : Scope} {a : Addr} {ccd : Value} {cl : List (Str × Addr)} {outer : List Env}
    {A₀ : Around} {base h₀ : Heap} {L : Addr} {m mg mb : Str → Option Value} {loose : List Str} {mean : ExcName → Option Value} {rest tl : List (Addr × Obj)} {s : Shared} {x y : Int} {t u : Tok} {Q E : Value → Shared → Prop},
    Below A₀ base outer h₀ → Fr h₀ L s.heap m → K.In h₀ → News h₀ L s.heap (rest ++ tl) → Top topProg loose mean mg mb h₀ → cs.kind = .function → dp + dd < 1000 → NT rest → TabsOk Ts tl → (∀ p ∈ led, p ∈ rest) → ok x y →
    (∀ h' tk tk' tl', Fr h₀ L h' m → News h₀ L h' (rest ++ tl') → TabsOk Ts tl' → Q (.int (g x y) tk) { s with heap := h', toks := tk' }) →
    wpAny (model prog w) (ktrTop dp un gd cn cs L a ccd cl outer) (call (.ref f) [.int x t, .int y u]) Q E s
/-- the state of reduce's loop behind i turns -/
def RedJ (f : Addr) (g : Int → Int → Int) (z : Int) (ns : List Int) (rest : List (Addr × Obj)) (i : Nat) (m : Str → Option Value) (nx : List (Addr × Obj)) : Prop :=
  ∃ (tl' : List (Addr × Obj)) (tv : Tok), nx = rest ++ tl' ∧ TabsOk Ts tl' ∧ ∀ p ∈ [(Str.ofString "value", Value.int ((ns.take i).foldl g z) tv), (Str.ofString "function", Value.ref f)], m p.1 = some p.2
theorem foldl_take {α β : Type} {g : β → α → β} {z : β} {d : α} {ns : List α} {i : Nat} (h : i < ns.length) : (ns.take (i + 1)).foldl g z = g ((ns.take i).foldl g z) (ns.getD i d) := by
  rw [List.take_succ_eq_append_getElem h, List.foldl_append, List.getD_eq_getElem?_getD, List.getElem?_eq_getElem h]; rfl
theorem reduce_list {w : World} {dp un : Nat} {gd : Option (List Code)} {cn : Str} {cs : Scope} {a : Addr} {ccd : Value} {cl : List (Str × Addr)} {outer : List Env}
    {A₀ : Around} {base h₀ : Heap} {L : Addr} {m mg mb : Str → Option Value} {loose : List Str} {mean : ExcName → Option Value} {rest tl : List (Addr × Obj)} {s : Shared}
    {dd : Nat} {led : List (Addr × Obj)} {f : Addr} {g : Int → Int → Int} {ok : Int → Int → Prop} {z : Int} {d : Addr} {vs : List Value} {ns : List Int} {k : Nat} {u : Tok} {Q E : Value → Shared → Prop}
    (B : Below A₀ base outer h₀) (F : Fr h₀ L s.heap m) (X : (Mine.hd.heap_39 w.params).In h₀) (N : News h₀ L s.heap (rest ++ tl)) (T : Top topProg loose mean mg mb h₀)
    (hk : cs.kind = .function) (hd : dp + dd + 2 < 1000) (hr : NT rest) (ht : TabsOk Ts tl) (hf : Fn2 PySem.Challenge.rw_xi0012_02.row.prog w (Mine.hd.heap_39 w.params) dd led f g ok) (hled : ∀ p ∈ led, p ∈ rest) (hdm : (d, PySem.W.listOf vs.toArray k) ∈ rest) (hi : IntsAre vs ns) (hl2 : ns.length ≤ 1000)
    (hok : ∀ i, i < ns.length → ok ((ns.take i).foldl g z) (ns.getD i 0))
    (hret : ∀ tk h' tk' tl', Fr h₀ L h' m → News h₀ L h' (rest ++ tl') → TabsOk Ts tl' → Q (.int (ns.foldl g z) tk) { s with heap := h', toks := tk' }) :
    wpAny (model PySem.Challenge.rw_xi0012_02.row.prog w) (ktrTop dp un gd cn cs L a ccd cl outer) (call (.ref 65) [.ref f, .ref d, .int z u]) Q E s := by
  revert X; k_fill; intro X
  refine wpAny_call ?_
  k_dflt (refine' code_def ?k1 ?k2 ?k3 ?k4 ?k5 ?kA ?kF ?kK ?k6 ?k7 ?k8 ?k9 ?kB ?_ ?c2 ?c3 ?c4 ?c5; (case kA => exact rfl); (case kF => exact rfl); (case kK => assumption); (case k1 => k_asm); (case k2 => k_asm); (case k3 => k_asm); (case k4 => k_asm); (case k5 => k_asm); (case k6 => k_is); (case k7 => k_is); (case k8 => ktr_room); (case k9 => first | exact BindsTo.of_eq rfl | exact binds_K (by k_in) rfl (by k_is) rfl rfl rfl); (case c5 => decide); (case kB => exact locs rfl); (case c2 => exact rfl); (case c3 => exact rfl); (case c4 => exact rfl); k_whole; intro g' L' h' FG' F' N' B' X' T'; (try dsimp only); (try k_fold))
  k_steps
  all_goals try dsimp only
  rename_i I9 hz1 l1 hz2 hz3 lF N9
  k_dflt (refine' loop_listit (RedJ f g z ns rest) ?b1 hi ?b2 ?b9 ?b10 ?b3 ?b4 ?b5 ?b6 ?b7 ?b8 ?_ ?_; (case b1 => rfl); (case b6 => k_asm); (case b7 => k_asm); (case b2 => k_mem); (case b9 => exact rfl); (case b10 => exact rfl); (case b3 => (refine' Sel.hit (Sel.base (ne_above l1 (Nat.le_refl _))))); (case b4 => k_mem))
  case b8 =>
    refine' ⟨tl, u, rfl, ht, ?bp⟩
    refine' List.forall_mem_cons.mpr ⟨rfl, List.forall_mem_cons.mpr ⟨rfl, List.forall_mem_nil _⟩⟩
  case b5 =>
    rintro i m nx ⟨tl', tv, rfl, _⟩
    exact memL hdm
  · intro i t9 m₁ news₁ h1 tk1 itO hin ⟨tl', tv, e1, ht1, hps⟩ hoff hkI F1 N1
    subst e1
    replace F1 := kstB_frX F1 hps
    have hoki := hok i hin
    have hstep := foldl_take (g := g) (z := z) (d := 0) hin
    obtain ⟨V, hV⟩ : ∃ V, List.foldl g z (List.take i ns) = V := ⟨_, rfl⟩
    rw [hV] at F1 hoki hstep
    have fa1 : FnAt f h1 := hf.fnat F1 X' N1 (fun p hp => .tail _ (memL (hled p hp)))
    have hoff' : ∀ p ∈ rest, p.1 ≠ I9 := fun p hp => hoff p (memL hp)
    k_steps
    all_goals try dsimp only
    k_dflt (refine' hf.out (rest := (I9, itO) :: rest) (tl := tl') ?c1 ?c2 ?c3 ?c4 ?c5 ?c6 ?c7 (NT.cons (tabby_of_tlk hkI) hr) ?c8 (fun p hp => .tail _ (hled p hp)) hoki ?_; (case c1 => k_asm); (case c2 => k_asm); (case c3 => k_asm); (case c4 => exact N1); (case c5 => k_asm); (case c6 => exact rfl); (case c7 => ktr_room); (case c8 => assumption))
    intro h2 tk2 tkk2 tl2 F2 N2 ht2
    k_steps
    all_goals try dsimp only
    refine' TurnPost.next ?e1 ?e2 ?e3 ?e4
    case e1 => k_asm
    case e2 => (refine' Pick.news ?g1 ?g2; (case g2 => k_asm); (case g1 => ktr_rel))
    case e3 =>
      refine' off_all ?m1 ht2 ?m2 ?m3 hkI hoff'
      case m1 => k_asm
      case m2 => ktr_rel
      case m3 => exact .head _
    case e4 =>
      refine' ⟨tl2, tk2, rfl, ht2, ?e5⟩
      rw [hstep]
      exact List.forall_mem_cons.mpr ⟨rfl, List.forall_mem_cons.mpr ⟨rfl, List.forall_mem_nil _⟩⟩
  · intro h1 tk1 m₁ news₁ ⟨tl', tv, e1, ht1, hps⟩ F1 N1
    subst e1
    rw [List.take_length] at hps
    replace F1 := kstB_fr F1 hps
    k_steps
    all_goals try dsimp only
    refine' hret _ _ _ _ ?r1F ?r1N ?r1T
    case r1F => k_asm
    case r1N => k_asm
    case r1T => assumption
theorem fn2_add {w : World} : Fn2 PySem.Challenge.rw_xi0012_02.row.prog w (Mine.hd.heap_39 w.params) 1 [] 72 (fun x y => x + y) (fun _ _ => True) where
  fnat F X N _ := ⟨_, _, _, _, F.keep _ _ (X 72 _ (by with_unfolding_all rfl))⟩
  out B F X N T hk hd hr ht hled hok hret := add_spec B F X N T hk hd (fun h' tk tk' F' N' => hret h' tk tk' _ F' N' ht)
theorem fn2_mul {w : World} : Fn2 PySem.Challenge.rw_xi0012_02.row.prog w (Mine.hd.heap_39 w.params) 1 [] 79 (fun x y => x * y) IntMulOk where
  fnat F X N _ := ⟨_, _, _, _, F.keep _ _ (X 79 _ (by with_unfolding_all rfl))⟩
  out B F X N T hk hd hr ht hled hok hret := mul_spec B F X N T hk hd hok (fun h' tk tk' F' N' => hret h' tk tk' _ F' N' ht)
end
section
/-- the walk stops before a goal so marked -/
def Hold (p : Prop) : Prop := p
theorem Hold.of {p : Prop} (h : Hold p) : p := h
theorem Hold.go {p : Prop} (h : p) : Hold p := h
/-! the row that begins nought, one and goes on by sums -/
def fib : Nat → Nat
  | 0 => 0
  | 1 => 1
  | n + 2 => fib n + fib (n + 1)
theorem fib_ss (n : Nat) : fib (n + 2) = fib n + fib (n + 1) := rfl
theorem fib_add : ∀ n m : Nat, fib (m + n + 1) = fib m * fib n + fib (m + 1) * fib (n + 1)
  | 0, m => by simp [fib]
  | n + 1, m => by
    have h := fib_add n (m + 1)
    have e : m + (n + 1) + 1 = m + 1 + n + 1 := by omega
    rw [e, h, fib_ss m, fib_ss n, Nat.add_mul, Nat.mul_add]
    omega
theorem fib_dbl (m : Nat) : (fib m : Int) * ((fib (m + 1) : Int) + (fib (m + 1) : Int) - (fib m : Int)) = (fib (2 * m) : Int) := by
  cases m with
  | zero => simp [fib]
  | succ k =>
    have h := fib_add k (k + 1)
    have e : k + 1 + k + 1 = 2 * (k + 1) := by omega
    rw [e] at h
    have h2 : (fib (2 * (k + 1)) : Int) = (fib (k + 1) : Int) * fib k + (fib (k + 2) : Int) * fib (k + 1) := by rw [h]; push_cast; rfl
    have h3 : (fib (k + 2) : Int) = fib k + fib (k + 1) := by rw [fib_ss]; push_cast; rfl
    show (fib (k + 1) : Int) * ((fib (k + 2) : Int) + (fib (k + 2) : Int) - (fib (k + 1) : Int)) = _
    rw [h2, h3]
    generalize (fib k : Int) = a
    generalize (fib (k + 1) : Int) = b
    rw [Int.add_mul, Int.mul_sub, Int.mul_add, Int.mul_add, Int.mul_comm a b]
    omega
theorem fib_dbl1 (m : Nat) : (fib m : Int) * (fib m : Int) + (fib (m + 1) : Int) * (fib (m + 1) : Int) = (fib (2 * m + 1) : Int) := by
  have h := fib_add m m
  have e : m + m + 1 = 2 * m + 1 := by omega
  rw [e] at h
  rw [h]; push_cast; rfl
theorem fib_dbl2 (m : Nat) : (fib (2 * m) : Int) + (fib (2 * m + 1) : Int) = (fib (2 * m + 2) : Int) := by
  rw [fib_ss]; push_cast; rfl
theorem fib_lt : ∀ n : Nat, fib n < 2 ^ n ∧ fib (n + 1) < 2 ^ (n + 1)
  | 0 => by decide
  | n + 1 => by
    have h := fib_lt n
    refine ⟨h.2, ?_⟩
    rw [fib_ss, Nat.pow_succ 2 (n + 1), Nat.pow_succ 2 n]
    have := h.1
    have h2 := h.2
    rw [Nat.pow_succ 2 n] at h2
    omega
theorem fib_bits {n k : Nat} (h : n ≤ k) : Builtin.Int.intBits (fib n : Int) ≤ k := intBits_nat (Nat.lt_of_lt_of_le (fib_lt n).1 (Nat.pow_le_pow_right (by decide) h))
theorem fib_pos : ∀ n : Nat, 0 < fib (n + 1)
  | 0 => by decide
  | n + 1 => by
    have := fib_pos n
    rw [fib_ss]
    omega
theorem fib_ge {n : Nat} : fib n ≤ fib (n + 1) := by
  cases n with
  | zero => decide
  | succ k => rw [fib_ss]; omega
theorem dbl_bits {m k : Nat} (h : m + 2 ≤ k) : Builtin.Int.intBits ((fib (m + 1) : Int) + (fib (m + 1) : Int) - (fib m : Int)) ≤ k := by
  have h1 := fib_ge (n := m)
  have e : (fib (m + 1) : Int) + (fib (m + 1) : Int) - (fib m : Int) = ((fib (m + 1) + fib (m + 1) - fib m : Nat) : Int) := by omega
  rw [e]
  refine intBits_nat (Nat.lt_of_lt_of_le ?_ (Nat.pow_le_pow_right (by decide) h))
  have h2 := (fib_lt m).2
  rw [Nat.pow_succ 2 (m + 1)]
  omega
/-- Cassini -/
theorem cassini : ∀ n : Nat, ((fib (n + 1) : Int) - fib n) * fib (n + 1) - (fib n : Int) * fib n = if n % 2 = 0 then 1 else -1
  | 0 => by decide
  | n + 1 => by
    have h := cassini n
    have e : (fib (n + 2) : Int) = fib n + fib (n + 1) := by rw [fib_ss]; push_cast; rfl
    show ((fib (n + 2) : Int) - fib (n + 1)) * fib (n + 2) - (fib (n + 1) : Int) * fib (n + 1) = _
    rw [e]
    have h2 : (if (n + 1) % 2 = 0 then (1 : Int) else -1) = - (if n % 2 = 0 then (1 : Int) else -1) := by
      split <;> split <;> omega
    rw [h2, ← h]
    generalize (fib n : Int) = a
    generalize (fib (n + 1) : Int) = b
    have e1 : a + b - b = a := by omega
    rw [e1, Int.mul_add, Int.sub_mul]
    omega
theorem fib_cop : ∀ n : Nat, Nat.gcd (fib n) (fib (n + 1)) = 1
  | 0 => by decide
  | n + 1 => by
    have h := fib_cop n
    show Nat.gcd (fib (n + 1)) (fib (n + 2)) = 1
    rw [fib_ss, Nat.gcd_add_self_right, Nat.gcd_comm]
    exact h
theorem fib_gcd_add (m n : Nat) : Nat.gcd (fib m) (fib (n + m)) = Nat.gcd (fib m) (fib n) := by
  cases m with
  | zero => simp [fib]
  | succ k =>
    have h := fib_add k n
    have e : n + (k + 1) = n + k + 1 := by omega
    rw [e, h, Nat.gcd_add_mul_right_right]
    have hc : Nat.Coprime (fib (k + 1)) (fib k) := by
      show Nat.gcd _ _ = 1
      rw [Nat.gcd_comm]; exact fib_cop k
    exact hc.symm.gcd_mul_right_cancel_right (fib n)
theorem fib_gcd_mod (m n : Nat) : Nat.gcd (fib m) (fib (n % m)) = Nat.gcd (fib m) (fib n) := by
  have : ∀ k r : Nat, Nat.gcd (fib m) (fib (r + m * k)) = Nat.gcd (fib m) (fib r) := by
    intro k
    induction k with
    | zero => intro r; rfl
    | succ j ih =>
      intro r
      have e : r + m * (j + 1) = r + m * j + m := by rw [Nat.mul_add]; omega
      rw [e, fib_gcd_add, ih]
  have h := this (n / m) (n % m)
  rw [Nat.mod_add_div] at h
  exact h.symm
/-- Lucas -/
theorem fib_gcd (m n : Nat) : Nat.gcd (fib m) (fib n) = fib (Nat.gcd m n) := by
  induction m, n using Nat.gcd.induction with
  | H0 n => simp [fib]
  | H1 m n h ih =>
    rw [Nat.gcd_rec m n, ← ih, Nat.gcd_comm (fib (n % m)), fib_gcd_mod]
theorem fib_dvd (m : Nat) : fib m ∣ fib (2 * m) := by
  have h := fib_gcd m (2 * m)
  have e : Nat.gcd m (2 * m) = m := Nat.gcd_eq_left ⟨2, by omega⟩
  rw [e] at h
  rw [← h]
  exact Nat.gcd_dvd_right _ _
def fibsum : Nat → Int
  | 0 => 0
  | n + 1 => fibsum n + (fib n : Int)
theorem fibsum_eq : ∀ n : Nat, fibsum n = (fib (n + 1) : Int) - 1
  | 0 => by decide
  | n + 1 => by
    show fibsum n + (fib n : Int) = (fib (n + 2) : Int) - 1
    rw [fibsum_eq n, fib_ss]
    push_cast
    omega
theorem fold_fib (n : Nat) : ((List.range n).map fun p => (fib p : Int)).foldl (fun x y => x + y) 0 = (fib (n + 1) : Int) - 1 := by
  rw [← fibsum_eq]
  induction n with
  | zero => rfl
  | succ k ih =>
    rw [List.range_succ, List.map_append, List.foldl_append, ih]
    rfl
theorem rsize_one (n : Nat) : Builtin.Range.rangeSize 0 (n : Int) 1 = (n : Int) := by
  unfold Builtin.Range.rangeSize
  rw [if_pos (by decide)]
  split <;> omega
theorem small_one0 : ∀ n : Nat, n < 401 → Builtin.Range.small 0 (n : Int) 1 = true := by decide +kernel
theorem small_one {n : Nat} (h : n ≤ 400) : Builtin.Range.small 0 (n : Int) 1 = true := small_one0 n (by omega)
/-- one turn of the doubling -/
theorem dbl_turn {P len i : Nat} (hi : i < len) (hP : P < 2 ^ (1 * len)) {m : Nat} (hm : top P 1 len i = m) (hb : P ≤ 400) :
    m ≤ 400 ∧ (((digs 1 P len).getD (len - 1 - i) 0 = 1 ∧ top P 1 len (i + 1) = 2 * m + 1) ∨ ((digs 1 P len).getD (len - 1 - i) 0 ≠ 1 ∧ top P 1 len (i + 1) = 2 * m)) := by
  have h1 : m ≤ P := by rw [← hm]; exact Nat.div_le_self _ _
  refine ⟨by omega, ?_⟩
  rw [top_succ hi, hm, digs_getD (show len - 1 - i < len by omega)]
  have h2 : P / 2 ^ (1 * (len - 1 - i)) % 2 ^ 1 < 2 := Nat.mod_lt _ (by decide)
  generalize P / 2 ^ (1 * (len - 1 - i)) % 2 ^ 1 = b at h2 ⊢
  by_cases hb : b = 1
  · left; subst hb; omega
  · right; refine ⟨by omega, by omega⟩
end
section
local macro_rules | `(tactic| walk_at "no key 2") => `(tactic| fail)
local macro_rules | `(tactic| walk_at "no key 1") => `(tactic| fail)
local macro_rules | `(tactic| walk_at "no key 0") => `(tactic| fail)


local macro_rules | `(tactic| ktr_rel) => `(tactic| first | refine' TailOf.base | (refine' TailOf.cons ?t9; (case t9 => ktr_rel)))
local macro_rules | `(tactic| ktr_rel) => `(tactic| first | ((with_reducible refine' Sel.hit ?s9); (case s9 => ktr_rel)) | (refine' Sel.keep ?ne ?s9; (case ne => first | k_ne | (refine' ne_kind ?x1 ?x2 ?x3 ?x4; (case x1 => k_asm); (case x2 => k_mem); (case x3 => k_mem); (case x4 => with_unfolding_all rfl)) | fail "ne"); (case s9 => ktr_rel)) | (refine' Sel.base ?b9; (case b9 => (refine' off_all ?n1 ?n2 ?n3 ?n4 ?n5 ?n6; (case n1 => assumption); (case n2 => assumption); (case n3 => ktr_rel); (case n4 => k_mem); (case n5 => first | exact rfl | assumption | (refine' tlk_cell ?n7; (case n7 => assumption))); (case n6 => (refine' ne_above ?n8 ?n9; (case n8 => assumption); (case n9 => omega)))))))
local macro_rules | `(tactic| walk_at "storeName") => `(tactic| (k_here; k_dflt (refine' store_cell ?F ?N ?c ?m ?d ?S ?_ ?a ?b; (case a => rfl); (case b => rfl); (case F => k_asm); (case N => k_asm); (case c => rfl); (case m => k_mem); (case d => k_asm); (case S => ktr_rel); k_whole; intro h' o' F' N' d'; (try dsimp only at N'); (try k_sweep))))
local macro_rules | `(tactic| ktr_rel) => `(tactic| first | (refine' Spl.base ?b9; (case b9 => assumption)) | (refine' Spl.keep ?ta ?s9; (case ta => (first | exact rfl | assumption | (refine' tabby_cell ?b8; (case b8 => assumption)) | (refine' tabby_of_tlk ?b8; (case b8 => assumption)) | (refine' tabby_code ?b8 ?b7; (case b8 => assumption); (case b7 => assumption)) | fail "ta")); (case s9 => ktr_rel)) | (refine' Spl.drop ?s9; (case s9 => ktr_rel)))
local macro_rules | `(tactic| ktr_rel) => `(tactic| first | refine' Suf.base | (refine' Suf.cons ?t9; (case t9 => ktr_rel)))
local macro_rules | `(tactic| walk_at "callWith ref") => `(tactic| (k_here; k_dflt (first
  | (refine' callWith_F ?k1 ?_; (case k1 => exact FnAt.of (by k_asm) (by k_mem)); k_whole)
  | (refine' callWith_F0 ?k1 ?_; (case k1 => exact FnAt.of (by k_asm) (by k_mem)); k_whole; try dsimp only [List.nil_append, List.cons_append]))))
local macro_rules | `(tactic| walk_at "eval Name") => `(tactic| (k_here; k_dflt (refine' nameX_F ?N ?c ?m ?d ?_ ?a ?b; (case a => rfl); (case b => rfl); (case N => k_asm); (case c => rfl); (case m => k_mem); (case d => k_asm); k_whole)))
local macro_rules | `(tactic| k_all) => `(tactic| assumption)
local macro_rules | `(tactic| k_mem) => `(tactic| first | ((with_reducible refine' memL ?_); assumption) | ((with_reducible refine' memR ?_); assumption) | ((with_reducible refine' memI ?_); ktr_member) | fail "k_mem")
local macro_rules | `(tactic| walk_at "binaryOp RShift int int") => `(tactic| (k_here; (refine' rshift_eq ?n ?e ?_; (case n => first | decide | assumption | exact Int.natCast_nonneg _); (case e => assumption); k_whole)))
local macro_rules | `(tactic| walk_at "binaryOp Mult int int") => `(tactic| (k_here; (refine' mul_eq ?e ?n ?_; (case e => assumption); (case n => assumption); k_whole)))
local macro_rules | `(tactic| walk_at "binaryOp LShift int int") => `(tactic| (k_here; (refine' lshift_eq ?e ?n ?m ?_; (case e => assumption); (case n => first | decide | assumption | exact Int.natCast_nonneg _); (case m => assumption); k_whole)))
local macro_rules | `(tactic| walk_at "binaryOp BitXor int int") => `(tactic| (k_here; (refine' xor_eq ?e ?_; (case e => assumption); k_whole)))

local macro_rules | `(tactic| walk_at "call builtin:len") => `(tactic| (k_here; (with_reducible show wpAny _ _ (call (Value.builtin "len") [Value.ref _]) _ _ _); k_dflt (refine' len_list' ?kl1 ?kl2 ?kl3 ?kl4 ?_; (case kl1 => k_asm); (case kl2 => k_mem); (case kl3 => assumption); (case kl4 => first | omega | ((try simp only [List.length_replicate]); omega)); k_whole); (try simp only [List.length_replicate])))
local macro_rules | `(tactic| walk_at "truthy ref") => `(tactic| (k_here; (with_reducible show wpAny _ _ (truthy (Value.ref _)) _ _ _); k_dflt (refine' truthy_list ?kl1 ?kl2 ?kl3 ?kl4 ?_; (case kl1 => k_asm); (case kl2 => k_mem); (case kl3 => assumption); (case kl4 => omega); k_whole)))

local macro_rules | `(tactic| ktr_rel) => `(tactic| first | (refine' Pick.base ?pb9; (case pb9 => ktr_rel)) | (refine' Pick.cons ?pm9 ?pr9; (case pm9 => k_mem); (case pr9 => ktr_rel)) | fail "pick")
local macro_rules | `(tactic| walk_at "call builtin:list.append") => `(tactic| (k_here; k_dflt (show wpAny _ _ (call (Value.builtin _) [Value.ref _, _]) _ _ _); k_dflt (refine' append_my ?ap1 ?ap2 ?ap3 ?ap4 ?ap5 ?_; (case ap1 => k_asm); (case ap2 => k_asm); (case ap3 => k_mem); (case ap4 => ktr_rel); (case ap5 => omega); k_whole); intro h' F' N'))
local macro_rules | `(tactic| walk_at "call builtin:list.reverse") => `(tactic| (k_here; k_dflt (show wpAny _ _ (call (Value.builtin _) [Value.ref _]) _ _ _); k_dflt (refine' reverse_my ?ap1 ?ap2 ?ap3 ?ap4 ?ap5 ?_; (case ap1 => k_asm); (case ap2 => k_asm); (case ap3 => k_mem); (case ap4 => ktr_rel); (case ap5 => omega); k_whole); intro h' F' N'))
local macro_rules | `(tactic| walk_at "binaryOp Add int int") => `(tactic| (k_here; (refine' add_eq ?e ?_; (case e => assumption); k_whole)))
local macro_rules | `(tactic| walk_at "compareOp Is") => `(tactic| (k_here; (with_reducible show wpAny _ _ (compareOp CmpOp.Is (Value.int _ _) (Value.ref _)) _ _ _); k_dflt (refine' wpAny_is_other ?io1 ?io2 ?_; (case io1 => with_unfolding_all rfl); (case io2 => (intro x; cases x)); k_whole)))
local macro_rules | `(tactic| walk_at "pyIter ref") => `(tactic| (k_here; refine' Hold.of ?_))
local macro_rules | `(tactic| walk_at "call ref") => `(tactic| (k_here; k_dflt (refine' add_spec ?cc1 ?cc2 ?cc3 ?cc4 ?cc5 ?cc6 ?cc7 ?_; (case cc1 => k_asm); (case cc2 => k_asm); (case cc3 => k_asm); (case cc4 => k_asm); (case cc5 => k_asm); (case cc6 => first | exact rfl | assumption); (case cc7 => ktr_room)); intro h' tk' tkk' F' N'))
local macro_rules | `(tactic| walk_at "call ref") => `(tactic| (k_here; k_dflt (refine' sub_spec ?cc1 ?cc2 ?cc3 ?cc4 ?cc5 ?cc6 ?cc7 ?_; (case cc1 => k_asm); (case cc2 => k_asm); (case cc3 => k_asm); (case cc4 => k_asm); (case cc5 => k_asm); (case cc6 => first | exact rfl | assumption); (case cc7 => ktr_room)); intro h' tk' tkk' F' N'))
local macro_rules | `(tactic| walk_at "call ref") => `(tactic| (k_here; k_dflt (refine' mul_spec ?cc1 ?cc2 ?cc3 ?cc4 ?cc5 ?cc6 ?cc7 ?cc8 ?_; (case cc1 => k_asm); (case cc2 => k_asm); (case cc3 => k_asm); (case cc4 => k_asm); (case cc5 => k_asm); (case cc6 => first | exact rfl | assumption); (case cc7 => ktr_room); (case cc8 => assumption)); intro h' tk' tkk' F' N'))
/-- the state of _law_doubled's loop behind i turns -/
def DblJ (P len : Nat) (d : Addr) (vs : List Value) (k : Nat) (R : List (Addr × Obj)) (i : Nat) (m : Str → Option Value) (nx : List (Addr × Obj)) : Prop :=
  ∃ (t1 t2 : Tok), nx = (d, PySem.W.listOf vs.toArray k) :: R ∧ ∀ p ∈ [(Str.ofString "one", Value.int (fib (top P 1 len i) : Int) t1), (Str.ofString "other", Value.int (fib (top P 1 len i + 1) : Int) t2), (Str.ofString "figures", Value.ref d)], m p.1 = some p.2
theorem DblJ.mk {P len : Nat} {d : Addr} {vs : List Value} {k : Nat} {R : List (Addr × Obj)} {i : Nat} {m : Str → Option Value} {x y : Int} {t1 t2 : Tok} (hx : x = (fib (top P 1 len i) : Int)) (hy : y = (fib (top P 1 len i + 1) : Int))
    (hps : ∀ p ∈ [(Str.ofString "one", Value.int x t1), (Str.ofString "other", Value.int y t2), (Str.ofString "figures", Value.ref d)], m p.1 = some p.2) : DblJ P len d vs k R i m ((d, PySem.W.listOf vs.toArray k) :: R) := by
  subst hx hy
  exact ⟨_, _, rfl, hps⟩
theorem doubled_spec0 {w : World} {dp un : Nat} {gd : Option (List Code)} {cn : Str} {cs : Scope} {a : Addr} {ccd : Value} {cl : List (Str × Addr)} {outer : List Env}
    {A₀ : Around} {base h₀ : Heap} {L : Addr} {m mg mb : Str → Option Value} {loose : List Str} {mean : ExcName → Option Value} {rest tl : List (Addr × Obj)} {s : Shared}
    {n : Int} {P : Nat} {t : Tok} {Q E : Value → Shared → Prop}
    (B : Below A₀ base outer h₀) (F : Fr h₀ L s.heap m) (X : (Mine.hd.heap_39 w.params).In h₀) (N : News h₀ L s.heap (rest ++ tl)) (T : Top topProg loose mean mg mb h₀)
    (hk : cs.kind = .function) (hd : dp + 20 < 1000) (hr : NT rest) (ht : TabsOk Ts tl) (hn : n = P) (hP : P ≤ 400)
    (hret : ∀ q h' t1 t2 tk' tl', Fr h₀ L h' m → News h₀ L h' ((q, { cls := .type "tuple", data := .seq #[.int (fib P : Int) t1, .int (fib (P + 1) : Int) t2] }) :: (rest ++ tl')) → TabsOk Ts tl' → Fresh rest tl tl' → Q (.ref q) { s with heap := h', toks := tk' }) :
    wpAny (model PySem.Challenge.rw_xi0012_02.row.prog w) (ktrTop dp un gd cn cs L a ccd cl outer) (call (.ref 93) [.int n t]) Q E s := by
  revert X; k_fill; intro X
  obtain ⟨len, hlen⟩ : ∃ len, len = (Builtin.Int.intBits n + 1 - 1) / 1 := ⟨_, rfl⟩
  have hPb : Builtin.Int.intBits n ≤ 9 := by
    rw [hn]; exact intBits_nat (Nat.lt_of_le_of_lt hP (by decide))
  have hl2 : len ≤ 9 := by omega
  have hPl : P < 2 ^ (1 * len) := by
    by_cases h0 : n = 0
    · have : P = 0 := by omega
      rw [this]; exact Nat.pow_pos (by decide)
    · exact (len_pos hn h0 (by decide) hlen).2
  refine wpAny_call ?_
  k_dflt ktr_enter
  k_steps
  all_goals try dsimp only
  k_dflt (refine' i2d_spec0 (X₁ := P) (N₁ := 1) (len := len) ?a1 ?a2 ?a3 (Spl.news ?aS ?a4) ?a5 ?a6 ?a7 (Spl.nt ?aS) ?a8 hn rfl (by decide) (by decide) hlen ?a9 ?_; (case a1 => k_asm); (case a2 => k_asm); (case a3 => k_asm); (case a4 => k_asm); (case aS => ktr_rel); (case a5 => k_asm); (case a6 => exact rfl); (case a7 => ktr_room); (case a8 => assumption); (case a9 => omega))
  intro d h9 tk9 vs k tl9 F9 N9 ht9 i9 l9 fr9
  have hz9 : (digs 1 P len).length ≤ 1000000 := by rw [digs_length]; omega
  k_steps
  all_goals try dsimp only
  rename_i r9 F8 N8 k8
  rw [digs_length] at r9
  refine' Hold.go ?_
  k_dflt (refine' loop_range (news := (d, PySem.W.listOf vs.toArray k) :: (rest ++ tl9)) (DblJ P len d vs k (rest ++ tl9)) ?b1 r9 ?b2 ?b3 ?b4 ?b5 ?b6 ?_ ?_; (case b1 => rfl); (case b2 => exact small_one (by omega)); (case b3 => exact rsize_one _); (case b4 => k_asm); (case b5 => (refine' Pick.news ?bp1 ?bp2; (case bp2 => k_asm); (case bp1 => ktr_rel))))
  case b6 =>
    exact DblJ.mk (x := 0) (y := 1) (by rw [top_zero hPl]; rfl) (by rw [top_zero hPl]; rfl) (List.forall_mem_cons.mpr ⟨rfl, List.forall_mem_cons.mpr ⟨rfl, List.forall_mem_cons.mpr ⟨rfl, List.forall_mem_nil _⟩⟩⟩)
  · intro i t9 m₁ news₁ h1 tk1 I itO hi ⟨t1, t2, e1, hps⟩ hI hoff hkI F1 N1
    subst e1
    obtain ⟨m9, hm9⟩ : ∃ m9, top P 1 len i = m9 := ⟨_, rfl⟩
    obtain ⟨hm4, hcase⟩ := dbl_turn hi hPl hm9 hP
    rw [hm9] at hps
    replace F1 := kstB_frX F1 hps
    have q1 : IntMulOk (fib m9 : Int) ((fib (m9 + 1) : Int) + (fib (m9 + 1) : Int) - (fib m9 : Int)) := IntMulOk.of_le (m := 1000) (n := 1000) (fib_bits (by omega)) (dbl_bits (by omega)) (by decide)
    have q2 : IntMulOk (fib m9 : Int) (fib m9 : Int) := IntMulOk.of_le (m := 1000) (n := 1000) (fib_bits (by omega)) (fib_bits (by omega)) (by decide)
    have q3 : IntMulOk (fib (m9 + 1) : Int) (fib (m9 + 1) : Int) := IntMulOk.of_le (m := 1000) (n := 1000) (fib_bits (by omega)) (fib_bits (by omega)) (by decide)
    have w1 := fib_dbl m9
    have w2 := fib_dbl1 m9
    have w3 := fib_dbl2 m9
    obtain ⟨A, hA⟩ : ∃ A, (fib m9 : Int) = A := ⟨_, rfl⟩
    obtain ⟨C, hC⟩ : ∃ C, (fib (m9 + 1) : Int) = C := ⟨_, rfl⟩
    rw [hA, hC] at F1 q1 w1 w2
    rw [hA] at q2
    rw [hC] at q3
    have hdl := digs_length 1 P len
    have w4 : A * (C + C - A) + (A * A + C * C) = (fib (2 * m9 + 1 + 1) : Int) := by rw [w1, w2]; exact w3
    have hix : Int.toNat (((digs 1 P len).length : Int) - 1 - (0 + (i : Int))) = len - 1 - i := by rw [hdl]; omega
    have hT1 : (digs 1 P len).getD (Int.toNat (((digs 1 P len).length : Int) - 1 - (0 + (i : Int)))) 0 = 1 → top P 1 len (i + 1) = 2 * m9 + 1 := fun h => by
      rw [hix] at h
      rcases hcase with ⟨_, e⟩ | ⟨e, _⟩
      · exact e
      · exact absurd h e
    have hT0 : (digs 1 P len).getD (Int.toNat (((digs 1 P len).length : Int) - 1 - (0 + (i : Int)))) 0 ≠ 1 → top P 1 len (i + 1) = 2 * m9 := fun h => by
      rw [hix] at h
      rcases hcase with ⟨e, _⟩ | ⟨_, e⟩
      · exact absurd e h
      · exact e
    clear hcase
    k_steps
    all_goals try dsimp only
    · have e := hT1 (by assumption)
      refine' TurnPost.next ?nxa ?nxb hoff ?nxe
      case nxa => k_asm
      case nxb => (refine' Pick.news ?nxc ?nxd; (case nxd => k_asm); (case nxc => ktr_rel))
      case nxe => exact DblJ.mk (x := A * A + C * C) (y := A * (C + C - A) + (A * A + C * C)) (by rw [e]; exact w2) (by rw [e]; exact w4) (List.forall_mem_cons.mpr ⟨rfl, List.forall_mem_cons.mpr ⟨rfl, List.forall_mem_cons.mpr ⟨rfl, List.forall_mem_nil _⟩⟩⟩)
    · have e := hT0 (by assumption)
      refine' TurnPost.next ?nya ?nyb hoff ?nye
      case nya => k_asm
      case nyb => (refine' Pick.news ?nyc ?nyd; (case nyd => k_asm); (case nyc => ktr_rel))
      case nye => exact DblJ.mk (x := A * (C + C - A)) (y := A * A + C * C) (by rw [e]; exact w1) (by rw [e]; exact w2) (List.forall_mem_cons.mpr ⟨rfl, List.forall_mem_cons.mpr ⟨rfl, List.forall_mem_cons.mpr ⟨rfl, List.forall_mem_nil _⟩⟩⟩)
  · intro h1 tk1 m₁ news₁ ⟨t1, t2, e1, hps⟩ F1 N1
    subst e1
    rw [top_all] at hps
    replace F1 := kstB_fr F1 hps
    k_steps
    all_goals try dsimp only
    refine' hret _ _ _ _ _ _ ?r1F ?r1N ?r1T ?r1f
    case r1F => k_asm
    case r1N => (refine' Pick.news ?r1a ?r1b; (case r1b => k_asm); (case r1a => ktr_rel))
    case r1T => assumption
    case r1f => (refine' Fresh.sub fr9 (Suf.sub ?r1g); (case r1g => ktr_rel))
theorem doubled_spec {w : World} {dp un : Nat} {gd : Option (List Code)} {cn : Str} {cs : Scope} {a : Addr} {ccd : Value} {cl : List (Str × Addr)} {outer : List Env}
    {A₀ : Around} {base h₀ : Heap} {L : Addr} {m mg mb : Str → Option Value} {loose : List Str} {mean : ExcName → Option Value} {rest tl : List (Addr × Obj)} {s : Shared}
    {n : Int} {P : Nat} {t : Tok} {Q E : Value → Shared → Prop}
    (B : Below A₀ base outer h₀) (F : Fr h₀ L s.heap m) (X : (Mine.hd.heap_39 w.params).In h₀) (N : News h₀ L s.heap (rest ++ tl)) (T : Top topProg loose mean mg mb h₀)
    (hk : cs.kind = .function) (hd : dp + 20 < 1000) (hr : NT rest) (ht : TabsOk Ts tl) (hn : n = P) (hP : P ≤ 400)
    (hret : ∀ q h' t1 t2 tk' tl', Fr h₀ L h' m → News h₀ L h' ((q, { cls := .type "tuple", data := .seq #[.int (fib P : Int) t1, .int (fib (P + 1) : Int) t2] }) :: (rest ++ tl')) → TabsOk Ts tl' → Q (.ref q) { s with heap := h', toks := tk' }) :
    wpAny (model PySem.Challenge.rw_xi0012_02.row.prog w) (ktrTop dp un gd cn cs L a ccd cl outer) (call (.ref 93) [.int n t]) Q E s :=
  doubled_spec0 B F X N T hk hd hr ht hn hP fun q h' t1 t2 tk' tl' F' N' ht' _ => hret q h' t1 t2 tk' tl' F' N' ht'
end
section
local macro_rules | `(tactic| walk_at "no key 1") => `(tactic| fail)
local macro_rules | `(tactic| walk_at "no key 0") => `(tactic| fail)


local macro_rules | `(tactic| ktr_rel) => `(tactic| first | refine' TailOf.base | (refine' TailOf.cons ?t9; (case t9 => ktr_rel)))
local macro_rules | `(tactic| ktr_rel) => `(tactic| first | ((with_reducible refine' Sel.hit ?s9); (case s9 => ktr_rel)) | (refine' Sel.keep ?ne ?s9; (case ne => first | k_ne | (refine' ne_kind ?x1 ?x2 ?x3 ?x4; (case x1 => k_asm); (case x2 => k_mem); (case x3 => k_mem); (case x4 => with_unfolding_all rfl)) | fail "ne"); (case s9 => ktr_rel)) | (refine' Sel.base ?b9; (case b9 => (refine' off_all ?n1 ?n2 ?n3 ?n4 ?n5 ?n6; (case n1 => assumption); (case n2 => assumption); (case n3 => ktr_rel); (case n4 => k_mem); (case n5 => first | exact rfl | assumption | (refine' tlk_cell ?n7; (case n7 => assumption))); (case n6 => (refine' ne_above ?n8 ?n9; (case n8 => assumption); (case n9 => omega)))))))
local macro_rules | `(tactic| walk_at "storeName") => `(tactic| (k_here; k_dflt (refine' store_cell ?F ?N ?c ?m ?d ?S ?_ ?a ?b; (case a => rfl); (case b => rfl); (case F => k_asm); (case N => k_asm); (case c => rfl); (case m => k_mem); (case d => k_asm); (case S => ktr_rel); k_whole; intro h' o' F' N' d'; (try dsimp only at N'); (try k_sweep))))
local macro_rules | `(tactic| ktr_rel) => `(tactic| first | (refine' Spl.base ?b9; (case b9 => assumption)) | (refine' Spl.keep ?ta ?s9; (case ta => (first | exact rfl | assumption | (refine' tabby_cell ?b8; (case b8 => assumption)) | (refine' tabby_of_tlk ?b8; (case b8 => assumption)) | (refine' tabby_code ?b8 ?b7; (case b8 => assumption); (case b7 => assumption)) | fail "ta")); (case s9 => ktr_rel)) | (refine' Spl.drop ?s9; (case s9 => ktr_rel)))
local macro_rules | `(tactic| ktr_rel) => `(tactic| first | refine' Suf.base | (refine' Suf.cons ?t9; (case t9 => ktr_rel)))
local macro_rules | `(tactic| walk_at "callWith ref") => `(tactic| (k_here; k_dflt (first
  | (refine' callWith_F ?k1 ?_; (case k1 => exact FnAt.of (by k_asm) (by k_mem)); k_whole)
  | (refine' callWith_F0 ?k1 ?_; (case k1 => exact FnAt.of (by k_asm) (by k_mem)); k_whole; try dsimp only [List.nil_append, List.cons_append]))))
local macro_rules | `(tactic| walk_at "eval Name") => `(tactic| (k_here; k_dflt (refine' nameX_F ?N ?c ?m ?d ?_ ?a ?b; (case a => rfl); (case b => rfl); (case N => k_asm); (case c => rfl); (case m => k_mem); (case d => k_asm); k_whole)))
local macro_rules | `(tactic| k_all) => `(tactic| assumption)
local macro_rules | `(tactic| k_mem) => `(tactic| first | ((with_reducible refine' memL ?_); assumption) | ((with_reducible refine' memR ?_); assumption) | ((with_reducible refine' memI ?_); ktr_member) | fail "k_mem")
local macro_rules | `(tactic| walk_at "binaryOp RShift int int") => `(tactic| (k_here; (refine' rshift_eq ?n ?e ?_; (case n => first | decide | assumption | exact Int.natCast_nonneg _); (case e => assumption); k_whole)))
local macro_rules | `(tactic| walk_at "binaryOp Mult int int") => `(tactic| (k_here; (refine' mul_eq ?e ?n ?_; (case e => assumption); (case n => assumption); k_whole)))
local macro_rules | `(tactic| walk_at "binaryOp LShift int int") => `(tactic| (k_here; (refine' lshift_eq ?e ?n ?m ?_; (case e => assumption); (case n => first | decide | assumption | exact Int.natCast_nonneg _); (case m => assumption); k_whole)))
local macro_rules | `(tactic| walk_at "binaryOp BitXor int int") => `(tactic| (k_here; (refine' xor_eq ?e ?_; (case e => assumption); k_whole)))

local macro_rules | `(tactic| walk_at "call builtin:len") => `(tactic| (k_here; (with_reducible show wpAny _ _ (call (Value.builtin "len") [Value.ref _]) _ _ _); k_dflt (refine' len_list' ?kl1 ?kl2 ?kl3 ?kl4 ?_; (case kl1 => k_asm); (case kl2 => k_mem); (case kl3 => assumption); (case kl4 => first | omega | ((try simp only [List.length_replicate]); omega)); k_whole); (try simp only [List.length_replicate])))
local macro_rules | `(tactic| walk_at "truthy ref") => `(tactic| (k_here; (with_reducible show wpAny _ _ (truthy (Value.ref _)) _ _ _); k_dflt (refine' truthy_list ?kl1 ?kl2 ?kl3 ?kl4 ?_; (case kl1 => k_asm); (case kl2 => k_mem); (case kl3 => assumption); (case kl4 => omega); k_whole)))

local macro_rules | `(tactic| ktr_rel) => `(tactic| first | (refine' Pick.base ?pb9; (case pb9 => ktr_rel)) | (refine' Pick.cons ?pm9 ?pr9; (case pm9 => k_mem); (case pr9 => ktr_rel)) | fail "pick")
local macro_rules | `(tactic| walk_at "call builtin:list.append") => `(tactic| (k_here; k_dflt (show wpAny _ _ (call (Value.builtin _) [Value.ref _, _]) _ _ _); k_dflt (refine' append_my ?ap1 ?ap2 ?ap3 ?ap4 ?ap5 ?_; (case ap1 => k_asm); (case ap2 => k_asm); (case ap3 => k_mem); (case ap4 => ktr_rel); (case ap5 => omega); k_whole); intro h' F' N'))
local macro_rules | `(tactic| walk_at "call builtin:list.reverse") => `(tactic| (k_here; k_dflt (show wpAny _ _ (call (Value.builtin _) [Value.ref _]) _ _ _); k_dflt (refine' reverse_my ?ap1 ?ap2 ?ap3 ?ap4 ?ap5 ?_; (case ap1 => k_asm); (case ap2 => k_asm); (case ap3 => k_mem); (case ap4 => ktr_rel); (case ap5 => omega); k_whole); intro h' F' N'))
local macro_rules | `(tactic| walk_at "binaryOp Add int int") => `(tactic| (k_here; (refine' add_eq ?e ?_; (case e => assumption); k_whole)))
local macro_rules | `(tactic| walk_at "compareOp Is") => `(tactic| (k_here; (with_reducible show wpAny _ _ (compareOp CmpOp.Is (Value.int _ _) (Value.ref _)) _ _ _); k_dflt (refine' wpAny_is_other ?io1 ?io2 ?_; (case io1 => with_unfolding_all rfl); (case io2 => (intro x; cases x)); k_whole)))
abbrev rangeObj (a b c : Int) (t u v : Tok) : Obj := { cls := .type "range", data := .fields #[.int a t, .int b u, .int c v] }
section
variable {prog : Program} {w : World} {A : Around} {E : Value → Shared → Prop} {s : Shared} {h₀ : Heap} {L : Addr} {m : Str → Option Value} {news : List (Addr × Obj)} {Q : Value → Shared → Prop}
theorem range_my {n : Int} {t : Tok} (F : Fr h₀ L s.heap m) (N : News h₀ L s.heap news)
    (h : ∀ D h' tk t₁ u₁ v₁, Fr h₀ L h' m → News h₀ L h' ((D, rangeObj 0 n 1 t₁ u₁ v₁) :: news) → (∀ p ∈ news, p.1 < D) → Q (.ref D) { s with heap := h', toks := tk }) : wpAny (model prog w) A (call (.type "range") [.int n t]) Q E s :=
  call_range_1 (h _ _ _ _ _ _ (F.push _) (News.push F N _ rfl) fun q hq => Heap.lt_size (N q hq).1)
end
theorem is_fresh {prog : Program} {w : World} {A : Around} {E : Value → Shared → Prop} {s : Shared} {K : Frag} {h₀ : Heap} {L q y : Addr} {m : Str → Option Value} {news : List (Addr × Obj)} {oq oy : Obj} {Q : Value → Shared → Prop}
    (F : Fr h₀ L s.heap m) (N : News h₀ L s.heap news) (hm : (q, oq) ∈ news) (X : K.In h₀) (hK : K.lookup y = some oy) (hnt : oy.cls ≠ .type "tuple") (h : Q (.bool false) s) : wpAny (model prog w) A (compareOp .Is (.ref q) (.ref y)) Q E s := by
  have h1 := X y _ hK
  have hne : q ≠ y := fun e => by
    rw [← e, (N _ hm).2.2] at h1
    cases h1
  show wpAny _ A (do return .bool (← isSame (.ref q) (.ref y))) Q E s
  exact wpAny_bind (PySem.SeqAt.wpAny_isSame_ref_other' hne (N _ hm).1 (F.keep _ _ h1) hnt (wpAny_pure h))
/-- what a function of a pair and an int does that reduce is handed -/
structure FnP (prog : Program) (w : World) (K : Frag) (dd : Nat) (led : List (Addr × Obj)) (f : Addr) : Prop where
  fnat : ∀ {h₀ h : Heap} {L : Addr} {m : Str → Option Value} {news : List (Addr × Obj)}, Fr h₀ L h m → K.In h₀ → News h₀ L h news → (∀ p ∈ led, p ∈ news) → FnAt f h
  out : ∀ {dp un : Nat} {gd : Option (List Code)} {cn : Str} {cs : Scope} {a : Addr} {ccd : Value} {cl : List (Str × Addr)} {outer : List Env}
    {A₀ : Around} {base h₀ : Heap} {L : Addr} {m mg mb : Str → Option Value} {loose : List Str} {mean : ExcName → Option Value} {rest tl : List (Addr × Obj)} {s : Shared} {q : Addr} {x y z : Int} {t1 t2 u : Tok} {Q E : Value → Shared → Prop},
    Below A₀ base outer h₀ → Fr h₀ L s.heap m → K.In h₀ → News h₀ L s.heap (rest ++ tl) → Top topProg loose mean mg mb h₀ → cs.kind = .function → dp + dd < 1000 → NT rest → TabsOk Ts tl → (∀ p ∈ led, p ∈ rest) → (q, ({ cls := .type "tuple", data := .seq #[.int x t1, .int y t2] } : Obj)) ∈ rest →
    (∀ q' h' t1' t2' tk' tl', Fr h₀ L h' m → News h₀ L h' ((q', { cls := .type "tuple", data := .seq #[.int y t1', .int (x + y) t2'] }) :: (rest ++ tl')) → TabsOk Ts tl' → (∀ p ∈ rest, p.1 < q') → Q (.ref q') { s with heap := h', toks := tk' }) →
    wpAny (model prog w) (ktrTop dp un gd cn cs L a ccd cl outer) (call (.ref f) [.ref q, .int z u]) Q E s
/-- the state of reduce's loop over pairs behind i turns -/
def RedP (f : Addr) (rest : List (Addr × Obj)) (i : Nat) (m : Str → Option Value) (nx : List (Addr × Obj)) : Prop :=
  ∃ (q : Addr) (t1 t2 : Tok) (tl' : List (Addr × Obj)), nx = (q, { cls := .type "tuple", data := .seq #[.int (fib i : Int) t1, .int (fib (i + 1) : Int) t2] }) :: (rest ++ tl') ∧ TabsOk Ts tl' ∧ ∀ p ∈ [(Str.ofString "value", Value.ref q), (Str.ofString "function", Value.ref f)], m p.1 = some p.2
section
local macro_rules | `(tactic| walk_at "callWith ref") => `(tactic| (k_here; k_dflt (refine' callWith_F ?k1 ?_; (case k1 => assumption); k_whole)))
local macro_rules | `(tactic| walk_at "FnAt") => `(tactic| assumption)
local macro_rules | `(tactic| walk_at "call builtin:iter") => `(tactic| (k_here; (with_reducible show wpAny _ _ (call (Value.builtin "iter") [Value.ref _]) _ _ _); k_dflt (refine' iter_range_my ?it1 ?it2 ?it3 ?it4 ?_; (case it1 => k_asm); (case it2 => k_asm); (case it3 => with_reducible assumption); (case it4 => with_reducible assumption); k_whole); intro I' h' F' N' l1))
local macro_rules | `(tactic| walk_at "exec For Name Name cons nil") => `(tactic| (k_here; (rename Fr _ _ _ _ => lF'); (with_unfolding_all refine' For_invVF lF' ?k1 ?k2 ?_; (case k1 => exact rfl); (case k2 => exact rfl); k_whole)))
local macro_rules | `(tactic| walk_at "compareOp Is ref ref") => `(tactic| (k_here; (with_reducible show wpAny _ _ (compareOp CmpOp.Is (Value.ref _) (Value.ref _)) _ _ _); k_dflt (refine' is_fresh ?if1 ?if2 ?if3 ?if4 ?if5 ?if6 ?_; (case if1 => k_asm); (case if2 => k_asm); (case if3 => k_mem); (case if4 => k_asm); (case if5 => with_unfolding_all rfl); (case if6 => (intro z; exact absurd (Value.type.inj z) (by decide))); k_whole)))
local macro_rules | `(tactic| walk_at "pyIter ref") => `(tactic| (k_here; refine' Hold.of ?_))
theorem reduce_pair {w : World} {dp un : Nat} {gd : Option (List Code)} {cn : Str} {cs : Scope} {a : Addr} {ccd : Value} {cl : List (Str × Addr)} {outer : List Env}
    {A₀ : Around} {base h₀ : Heap} {L : Addr} {m mg mb : Str → Option Value} {loose : List Str} {mean : ExcName → Option Value} {rest tl : List (Addr × Obj)} {s : Shared}
    {dd P : Nat} {led : List (Addr × Obj)} {f D q0 : Addr} {n : Int} {ta tb tc t1 t2 : Tok} {Q E : Value → Shared → Prop}
    (B : Below A₀ base outer h₀) (F : Fr h₀ L s.heap m) (X : (Mine.hd.heap_39 w.params).In h₀) (N : News h₀ L s.heap (rest ++ tl)) (T : Top topProg loose mean mg mb h₀)
    (hk : cs.kind = .function) (hd : dp + dd + 2 < 1000) (hr : NT rest) (ht : TabsOk Ts tl) (hf : FnP PySem.Challenge.rw_xi0012_02.row.prog w (Mine.hd.heap_39 w.params) dd led f) (hled : ∀ p ∈ led, p ∈ rest)
    (hD : (D, rangeObj 0 n 1 ta tb tc) ∈ rest) (hq : (q0, ({ cls := .type "tuple", data := .seq #[.int 0 t1, .int 1 t2] } : Obj)) ∈ rest) (hn : n = P) (hP : P ≤ 400)
    (hret : ∀ q h' t1 t2 tk' tl', Fr h₀ L h' m → News h₀ L h' ((q, { cls := .type "tuple", data := .seq #[.int (fib P : Int) t1, .int (fib (P + 1) : Int) t2] }) :: (rest ++ tl')) → TabsOk Ts tl' → Q (.ref q) { s with heap := h', toks := tk' }) :
    wpAny (model PySem.Challenge.rw_xi0012_02.row.prog w) (ktrTop dp un gd cn cs L a ccd cl outer) (call (.ref 65) [.ref f, .ref D, .ref q0]) Q E s := by
  subst hn
  have hsz : Builtin.Range.rangeSize 0 (P : Int) 1 = (P : Int) := rsize_one P
  revert X; k_fill; intro X
  refine wpAny_call ?_
  k_dflt (refine' code_def ?k1 ?k2 ?k3 ?k4 ?k5 ?kA ?kF ?kK ?k6 ?k7 ?k8 ?k9 ?kB ?_ ?c2 ?c3 ?c4 ?c5; (case kA => exact rfl); (case kF => exact rfl); (case kK => assumption); (case k1 => k_asm); (case k2 => k_asm); (case k3 => k_asm); (case k4 => k_asm); (case k5 => k_asm); (case k6 => k_is); (case k7 => k_is); (case k8 => ktr_room); (case k9 => first | exact BindsTo.of_eq rfl | exact binds_K (by k_in) rfl (by k_is) rfl rfl rfl); (case c5 => decide); (case kB => exact locs rfl); (case c2 => exact rfl); (case c3 => exact rfl); (case c4 => exact rfl); k_whole; intro g' L' h' FG' F' N' B' X' T'; (try dsimp only); (try k_fold))
  have hr9 : IsRange h' D 0 (P : Int) 1 ta tb tc := (N' _ (memL hD)).1
  have hs9 : Builtin.Range.small 0 (P : Int) 1 = true := by exact small_one (by omega)
  k_steps
  all_goals try dsimp only
  rename_i I9 hz1 l1 hz2 hz3 lF N9
  rw [hsz] at N9
  have l2 : ∀ p ∈ (q0, ({ cls := .type "tuple", data := .seq #[.int 0 t1, .int 1 t2] } : Obj)) :: (rest ++ tl), p.1 < I9 := List.forall_mem_cons.mpr ⟨l1 _ (memL hq), l1⟩
  have N8 := newsSub N9 (l' := (I9, (⟨.type "range_iterator", none, .fields #[rawInt 0, rawInt P, rawInt 1], #[]⟩ : Obj)) :: (q0, ({ cls := .type "tuple", data := .seq #[.int 0 t1, .int 1 t2] } : Obj)) :: (rest ++ tl)) (fun p hp => by
    rcases List.mem_cons.mp hp with e | hp
    · rw [e]; exact List.Mem.head _
    · rcases List.mem_cons.mp hp with e | hp
      · rw [e]; exact List.Mem.tail _ (memL hq)
      · exact List.Mem.tail _ hp)
  clear N9
  refine' Hold.go ?_
  k_dflt (refine' loop_rangeit (n := P) (RedP f rest) ?b1 ?b2 ?b3 ?b4 ?b5 ?b6 ?b7 ?_ ?_; (case b1 => rfl); (case b5 => k_asm); (case b6 => exact N8); (case b2 => exact (N8 _ (.head _)).1); (case b3 => exact List.Mem.head _); (case b4 => exact Sel.hit (Sel.base (ne_above l2 (Nat.le_refl _)))))
  case b7 =>
    refine' ⟨q0, t1, t2, tl, rfl, ht, ?bp⟩
    exact List.forall_mem_cons.mpr ⟨rfl, List.forall_mem_cons.mpr ⟨rfl, List.forall_mem_nil _⟩⟩
  · intro i t9 m₁ news₁ h1 tk1 itO hin ⟨q, t3, t4, tl', e1, ht1, hps⟩ hoff hkI F1 N1
    subst e1
    replace F1 := kstB_frX F1 hps
    have fa1 : FnAt f h1 := hf.fnat F1 X' N1 (fun p hp => .tail _ (.tail _ (memL (hled p hp))))
    have hoff' : ∀ p ∈ rest, p.1 ≠ I9 := fun p hp => hoff p (.tail _ (memL hp))
    k_steps
    all_goals try dsimp only
    k_dflt (refine' hf.out (rest := (I9, itO) :: (q, { cls := .type "tuple", data := .seq #[.int (fib i : Int) t3, .int (fib (i + 1) : Int) t4] }) :: rest) (tl := tl') ?c1 ?c2 ?c3 ?c4 ?c5 ?c6 ?c7 (NT.cons (tabby_of_tlk hkI) (NT.cons rfl hr)) ?c8 (fun p hp => .tail _ (.tail _ (hled p hp))) (.tail _ (.head _)) ?_; (case c1 => k_asm); (case c2 => k_asm); (case c3 => k_asm); (case c4 => exact N1); (case c5 => k_asm); (case c6 => exact rfl); (case c7 => ktr_room); (case c8 => assumption))
    intro q2 h2 t5 t6 tkk2 tl2 F2 N2 ht2 l5
    k_steps
    all_goals try dsimp only
    refine' TurnPost.next ?e1 ?e2 ?e3 ?e4
    case e1 => k_asm
    case e4 =>
      refine' ⟨q2, t5, t6, tl2, ?e6, ht2, ?e5⟩
      case e5 => exact List.forall_mem_cons.mpr ⟨rfl, List.forall_mem_cons.mpr ⟨rfl, List.forall_mem_nil _⟩⟩
      case e6 => (rw [fib_ss i, Int.natCast_add])
    case e2 => (refine' Pick.news ?g1 ?g2; (case g2 => k_asm); (case g1 => ktr_rel))
    case e3 =>
      refine' List.forall_mem_cons.mpr ⟨(Nat.ne_of_gt (l5 _ (.head _))), ?e7⟩
      refine' off_all ?m1 ht2 ?m2 ?m3 hkI hoff'
      case m1 => k_asm
      case m2 => ktr_rel
      case m3 => exact .tail _ (.head _)
  · intro h1 tk1 m₁ news₁ ⟨q, t3, t4, tl', e1, ht1, hps⟩ F1 N1
    subst e1
    replace F1 := kstB_fr F1 hps
    k_steps
    all_goals try dsimp only
    refine' hret _ _ _ _ _ _ ?r1F ?r1N ?r1T
    case r1F => k_asm
    case r1N => k_asm
    case r1T => assumption
end
theorem lam_fnP {M : World → Model} {w : World} {A : Around} {E : Value → Shared → Prop} {s : Shared} {h₀ : Heap} {L a c : Addr} {m mg mb : Str → Option Value} {cn : Str} {cs : Scope} {ccd : Value} {cl : List (Str × Addr)} {news rest tl : List (Addr × Obj)}
    {p : Program} {loose : List Str} {mean : ExcName → Option Value} {name qual : Str} {params : Arguments} {scope : Scope} {pos : Pos} {firstLine : Nat} {clos : List (Str × Addr)} {Q : Value → Shared → Prop} {body : Expr} {dd : Nat}
    (T : TS) (hu : TsOk Ts) (hT : T ∈ Ts) (F : Fr h₀ L s.heap m) (N : News h₀ L s.heap news) (hs : Spl news rest tl) (ht : TabsOk Ts tl) (Tp : Top p loose mean mg mb h₀) (C : CodeHd h₀ c T.P) (hcd : ccd = .ref c)
    (hl : T.line = pos.line) (hc : T.col = pos.col) (hq : T.qual = qual) (hcl : closureFor scope (envX cn cs L a ccd cl) = pure clos)
    (hfn : ∀ f c' oc vs t ctv, oc.data = .fields vs → vs[1]? = some (.str qual t) → FnP PySem.Challenge.rw_xi0012_02.row.prog w (Mine.hd.heap_39 w.params) dd [(f, kla_obj name qual params body scope clos ((mg "__name__").getD .none) c' ctv), (c', oc)] f)
    (h : ∀ f lo c' oc h' tk tl', Fr h₀ L h' m → News h₀ L h' ((f, lo) :: (c', oc) :: (rest ++ tl')) → TabsOk Ts tl' → FnP PySem.Challenge.rw_xi0012_02.row.prog w (Mine.hd.heap_39 w.params) dd [(f, lo), (c', oc)] f → tabby lo = false → tabby oc = false → FnAt f h' → (∀ q ∈ rest, q.1 < f) → Q (.ref f) { s with heap := h', toks := tk }) :
    wpAny (M w) A (makeFunction name qual params (.expr body) scope (envX cn cs L a ccd cl) [] [] [] pos firstLine) Q E s := by
  refine lam_any T hT hu F (hs.news N) hs.nt ht Tp C hcd hl hc hq hcl fun f c' oc vs t ctv h' tk tl' F' N' ht' hc' hd hv l1 => ?_
  refine h f _ c' oc h' tk tl' F' (newsSub N' fun p hp => ?_) ht' (hfn f c' oc vs t ctv hd hv) rfl (tabby_code hd hv) (FnAt.of N' (.head _)) l1
  rcases List.mem_cons.mp hp with rfl | hp
  · exact .head _
  · rcases List.mem_cons.mp hp with rfl | hp
    · exact .tail _ (List.mem_append_right _ hc')
    · exact .tail _ hp
theorem TailOf.base0 {tl : List (Addr × Obj)} : TailOf tl tl := TailOf.base (rest := [])
section
local macro_rules | `(tactic| walk_at "eval Lambda") => `(tactic| (k_here; refine' Hold.of ?_))
local macro_rules | `(tactic| walk_at "call type:range") => `(tactic| (k_here; k_dflt (refine' range_my ?rg1 ?rg2 ?_; (case rg1 => k_asm); (case rg2 => k_asm)); intro D' h' tk' t' u' v' F' N' l1; (try k_lt l1)))
theorem stepped_spec {w : World} {dp un : Nat} {gd : Option (List Code)} {cn : Str} {cs : Scope} {a : Addr} {ccd : Value} {cl : List (Str × Addr)} {outer : List Env}
    {A₀ : Around} {base h₀ : Heap} {L : Addr} {m mg mb : Str → Option Value} {loose : List Str} {mean : ExcName → Option Value} {rest tl : List (Addr × Obj)} {s : Shared}
    {n : Int} {P : Nat} {t : Tok} {Q E : Value → Shared → Prop}
    (B : Below A₀ base outer h₀) (F : Fr h₀ L s.heap m) (X : (Mine.hd.heap_39 w.params).In h₀) (N : News h₀ L s.heap (rest ++ tl)) (T : Top topProg loose mean mg mb h₀)
    (hk : cs.kind = .function) (hd : dp + 20 < 1000) (hr : NT rest) (ht : TabsOk Ts tl) (hn : n = P) (hP : P ≤ 400)
    (hret : ∀ q h' t1 t2 tk' tl', Fr h₀ L h' m → News h₀ L h' ((q, { cls := .type "tuple", data := .seq #[.int (fib P : Int) t1, .int (fib (P + 1) : Int) t2] }) :: (rest ++ tl')) → TabsOk Ts tl' → Q (.ref q) { s with heap := h', toks := tk' }) :
    wpAny (model PySem.Challenge.rw_xi0012_02.row.prog w) (ktrTop dp un gd cn cs L a ccd cl outer) (call (.ref 100) [.int n t]) Q E s := by
  revert X; k_fill; intro X
  refine wpAny_call ?_
  k_dflt ktr_enter
  k_steps
  all_goals try dsimp only
  refine' Hold.go ?_
  k_dflt (refine' kla_eval ?d0 ?_; (case d0 => exact rfl))
  k_dflt (refine' lam_fnP (dd := 5) T3 Ts_one (.tail _ (.tail _ (.head _))) ?F ?N ?S ?ht ?T ?C ?cd ?l ?c ?q ?cl ?hfn ?_; (case F => k_asm); (case N => k_asm); (case T => k_asm); (case cd => exact rfl); (case C => exact codeHd_of_K (c := 99) (P := 95) (by assumption) (by kernel_rfl)); (case S => ktr_rel); (case ht => assumption); (case l => rfl); (case c => rfl); (case q => rfl); (case cl => exact rfl))
  case hfn =>
    intro f5 c5 oc5 vs5 t5 ctv5 hd5 hv5
    refine' ⟨fun F X N hm => FnAt.of N (hm _ (.head _)), ?_⟩
    intro dp un gd cn cs a ccd cl outer A₀ base h₀ L m mg mb loose mean rest tl s q x y z t1 t2 u Q E B F X N T hk hd hr ht hled hq hret
    have hm1 := hled _ (.head _)
    have hm2 := hled _ (.tail _ (.head _))
    have hm3 := codeRec_news N (List.mem_append_left _ hm2) hd5 hv5
    revert X; k_fill; intro X
    refine wpAny_call ?_
    k_dflt (refine' kla_code ?k1 ?k2 ?k3 ?k4 ?k5 ?kA ?kF ?kK ?k6 ?k7 ?k8 ?k9 ?kB ?_ ?c2 ?c3 ?c4 ?c5; (case kA => exact rfl); (case kF => exact rfl); (case kK => exact hk); (case k1 => k_asm); (case k2 => k_asm); (case k3 => k_asm); (case k4 => exact N); (case k5 => k_asm); (case k6 => exact List.mem_append_left _ hm1); (case k7 => exact hm3); (case k8 => ktr_room); (case k9 => exact rfl); (case c5 => decide); (case kB => exact locs rfl); (case c2 => exact rfl); (case c3 => exact rfl); (case c4 => exact rfl); k_whole; intro g' L' h' FG' F' N' B' X' T'; (try dsimp only); (try k_fold))
    k_steps
    all_goals try dsimp only
    k_dflt (refine' add_spec ?ad1 ?ad2 ?ad3 ?ad4 ?ad5 ?ad6 ?ad7 ?_; (case ad1 => k_asm); (case ad2 => k_asm); (case ad3 => k_asm); (case ad4 => k_asm); (case ad5 => k_asm); (case ad6 => exact rfl); (case ad7 => ktr_room))
    intro h6 tk6 tkk6 F6 N6
    k_steps
    all_goals try dsimp only
    rename ∀ p ∈ rest ++ tl, _ => l6
    refine' hret _ _ _ _ _ tl ?s1F ?s1N ht ?s1l
    case s1F => k_asm
    case s1N => k_asm
    case s1l => exact fun p hp => l6 p (memL' hp)
  intro f3 lo3 c3 oc3 h3 tk3 tl3 F3 N3 ht3 hfn3 hlo3 hoc3 hat3 l3
  k_steps
  all_goals try dsimp only
  k_dflt (refine' reduce_pair (dd := 5) (P := P) ?ra1 ?ra2 ?ra3 (Spl.news ?ra5 ?ra4) ?ra6 ?ra7 ?ra8 (Spl.nt ?ra5) ?ra9 hfn3 ?raa ?rab ?rac hn hP ?_; (case ra1 => k_asm); (case ra2 => k_asm); (case ra3 => k_asm); (case ra4 => k_asm); (case ra5 => ktr_rel); (case ra6 => k_asm); (case ra7 => exact rfl); (case ra8 => ktr_room); (case ra9 => assumption); (case rab => k_mem); (case rac => k_mem); (case raa => exact List.forall_mem_cons.mpr ⟨by k_mem, List.forall_mem_cons.mpr ⟨by k_mem, List.forall_mem_nil _⟩⟩))
  intro q6 h6 t6 t7 tk6 tl6 F6 N6 ht6
  k_steps
  all_goals try dsimp only
  refine' hret _ _ _ _ _ tl6 ?r1F ?r1N ht6
  case r1F => k_asm
  case r1N => (refine' Pick.news ?r1a ?r1b; (case r1b => k_asm); (case r1a => ktr_rel))
end
end
section


local macro_rules | `(tactic| ktr_rel) => `(tactic| first | refine' TailOf.base | (refine' TailOf.cons ?t9; (case t9 => ktr_rel)))
local macro_rules | `(tactic| ktr_rel) => `(tactic| first | ((with_reducible refine' Sel.hit ?s9); (case s9 => ktr_rel)) | (refine' Sel.keep ?ne ?s9; (case ne => first | k_ne | (refine' ne_kind ?x1 ?x2 ?x3 ?x4; (case x1 => k_asm); (case x2 => k_mem); (case x3 => k_mem); (case x4 => with_unfolding_all rfl)) | fail "ne"); (case s9 => ktr_rel)) | (refine' Sel.base ?b9; (case b9 => (refine' off_all ?n1 ?n2 ?n3 ?n4 ?n5 ?n6; (case n1 => assumption); (case n2 => assumption); (case n3 => ktr_rel); (case n4 => k_mem); (case n5 => first | exact rfl | assumption | (refine' tlk_cell ?n7; (case n7 => assumption))); (case n6 => (refine' ne_above ?n8 ?n9; (case n8 => assumption); (case n9 => omega)))))))
local macro_rules | `(tactic| walk_at "storeName") => `(tactic| (k_here; k_dflt (refine' store_cell ?F ?N ?c ?m ?d ?S ?_ ?a ?b; (case a => rfl); (case b => rfl); (case F => k_asm); (case N => k_asm); (case c => rfl); (case m => k_mem); (case d => k_asm); (case S => ktr_rel); k_whole; intro h' o' F' N' d'; (try dsimp only at N'); (try k_sweep))))
local macro_rules | `(tactic| ktr_rel) => `(tactic| first | (refine' Spl.base ?b9; (case b9 => assumption)) | (refine' Spl.keep ?ta ?s9; (case ta => (first | exact rfl | assumption | (refine' tabby_cell ?b8; (case b8 => assumption)) | (refine' tabby_of_tlk ?b8; (case b8 => assumption)) | (refine' tabby_code ?b8 ?b7; (case b8 => assumption); (case b7 => assumption)) | fail "ta")); (case s9 => ktr_rel)) | (refine' Spl.drop ?s9; (case s9 => ktr_rel)))
local macro_rules | `(tactic| ktr_rel) => `(tactic| first | refine' Suf.base | (refine' Suf.cons ?t9; (case t9 => ktr_rel)))
local macro_rules | `(tactic| walk_at "callWith ref") => `(tactic| (k_here; k_dflt (first
  | (refine' callWith_F ?k1 ?_; (case k1 => exact FnAt.of (by k_asm) (by k_mem)); k_whole)
  | (refine' callWith_F0 ?k1 ?_; (case k1 => exact FnAt.of (by k_asm) (by k_mem)); k_whole; try dsimp only [List.nil_append, List.cons_append]))))
local macro_rules | `(tactic| walk_at "eval Name") => `(tactic| (k_here; k_dflt (refine' nameX_F ?N ?c ?m ?d ?_ ?a ?b; (case a => rfl); (case b => rfl); (case N => k_asm); (case c => rfl); (case m => k_mem); (case d => k_asm); k_whole)))
local macro_rules | `(tactic| k_all) => `(tactic| assumption)
local macro_rules | `(tactic| k_mem) => `(tactic| first | ((with_reducible refine' memL ?_); assumption) | ((with_reducible refine' memR ?_); assumption) | ((with_reducible refine' memI ?_); ktr_member) | fail "k_mem")
local macro_rules | `(tactic| walk_at "binaryOp RShift int int") => `(tactic| (k_here; (refine' rshift_eq ?n ?e ?_; (case n => first | decide | assumption | exact Int.natCast_nonneg _); (case e => assumption); k_whole)))
local macro_rules | `(tactic| walk_at "binaryOp Mult int int") => `(tactic| (k_here; (refine' mul_eq ?e ?n ?_; (case e => assumption); (case n => assumption); k_whole)))
local macro_rules | `(tactic| walk_at "binaryOp LShift int int") => `(tactic| (k_here; (refine' lshift_eq ?e ?n ?m ?_; (case e => assumption); (case n => first | decide | assumption | exact Int.natCast_nonneg _); (case m => assumption); k_whole)))
local macro_rules | `(tactic| walk_at "binaryOp BitXor int int") => `(tactic| (k_here; (refine' xor_eq ?e ?_; (case e => assumption); k_whole)))

local macro_rules | `(tactic| walk_at "call builtin:len") => `(tactic| (k_here; (with_reducible show wpAny _ _ (call (Value.builtin "len") [Value.ref _]) _ _ _); k_dflt (refine' len_list' ?kl1 ?kl2 ?kl3 ?kl4 ?_; (case kl1 => k_asm); (case kl2 => k_mem); (case kl3 => assumption); (case kl4 => first | omega | ((try simp only [List.length_replicate]); omega)); k_whole); (try simp only [List.length_replicate])))
local macro_rules | `(tactic| walk_at "truthy ref") => `(tactic| (k_here; (with_reducible show wpAny _ _ (truthy (Value.ref _)) _ _ _); k_dflt (refine' truthy_list ?kl1 ?kl2 ?kl3 ?kl4 ?_; (case kl1 => k_asm); (case kl2 => k_mem); (case kl3 => assumption); (case kl4 => omega); k_whole)))

local macro_rules | `(tactic| ktr_rel) => `(tactic| first | (refine' Pick.base ?pb9; (case pb9 => ktr_rel)) | (refine' Pick.cons ?pm9 ?pr9; (case pm9 => k_mem); (case pr9 => ktr_rel)) | fail "pick")
local macro_rules | `(tactic| walk_at "call builtin:list.append") => `(tactic| (k_here; k_dflt (show wpAny _ _ (call (Value.builtin _) [Value.ref _, _]) _ _ _); k_dflt (refine' append_my ?ap1 ?ap2 ?ap3 ?ap4 ?ap5 ?_; (case ap1 => k_asm); (case ap2 => k_asm); (case ap3 => k_mem); (case ap4 => ktr_rel); (case ap5 => omega); k_whole); intro h' F' N'))
local macro_rules | `(tactic| walk_at "call builtin:list.reverse") => `(tactic| (k_here; k_dflt (show wpAny _ _ (call (Value.builtin _) [Value.ref _]) _ _ _); k_dflt (refine' reverse_my ?ap1 ?ap2 ?ap3 ?ap4 ?ap5 ?_; (case ap1 => k_asm); (case ap2 => k_asm); (case ap3 => k_mem); (case ap4 => ktr_rel); (case ap5 => omega); k_whole); intro h' F' N'))
local macro_rules | `(tactic| walk_at "binaryOp Add int int") => `(tactic| (k_here; (refine' add_eq ?e ?_; (case e => assumption); k_whole)))
local macro_rules | `(tactic| walk_at "compareOp Is") => `(tactic| (k_here; (with_reducible show wpAny _ _ (compareOp CmpOp.Is (Value.int _ _) (Value.ref _)) _ _ _); k_dflt (refine' wpAny_is_other ?io1 ?io2 ?_; (case io1 => with_unfolding_all rfl); (case io2 => (intro x; cases x)); k_whole)))
/-- the state of _law_common's loop -/
def ComJ (G : Nat) (rest : List (Addr × Obj)) (n : Nat) (m : Str → Option Value) (nx : List (Addr × Obj)) : Prop :=
  ∃ (X₁ Y₁ : Nat) (t1 t2 : Tok) (tl' : List (Addr × Obj)), n = Y₁ ∧ nx = rest ++ tl' ∧ TabsOk Ts tl' ∧ Nat.gcd X₁ Y₁ = G ∧ Builtin.Int.intBits (X₁ : Int) ≤ 256 ∧ Builtin.Int.intBits (Y₁ : Int) ≤ 256 ∧
    ∀ p ∈ [(Str.ofString "one", Value.int (X₁ : Int) t1), (Str.ofString "other", Value.int (Y₁ : Int) t2)], m p.1 = some p.2
theorem com_bits {X₁ Y₁ : Nat} (h1 : Builtin.Int.intBits (X₁ : Int) ≤ 256) (h2 : 0 < Y₁) : (Builtin.Int.intBits (X₁ : Int) + Builtin.Int.intBits (Y₁ : Int) - 1) / Builtin.Int.intBits (Y₁ : Int) ≤ 256 := by
  have h3 := (bits_pos h2).1
  refine Nat.div_le_of_le_mul ?_
  omega
theorem mod_bits {X₁ Y₁ k : Nat} (h : Builtin.Int.intBits (X₁ : Int) ≤ k) : Builtin.Int.intBits ((X₁ % Y₁ : Nat) : Int) ≤ k :=
  intBits_le_of_natAbs (by have := Nat.mod_le X₁ Y₁; omega) h
section
local macro_rules | `(tactic| walk_at "exec While Compare cons nil") => `(tactic| (k_here; refine' Hold.of ?_))
theorem common_spec {w : World} {dp un : Nat} {gd : Option (List Code)} {cn : Str} {cs : Scope} {a : Addr} {ccd : Value} {cl : List (Str × Addr)} {outer : List Env}
    {A₀ : Around} {base h₀ : Heap} {L : Addr} {m mg mb : Str → Option Value} {loose : List Str} {mean : ExcName → Option Value} {rest tl : List (Addr × Obj)} {s : Shared}
    {x y : Int} {X₁ Y₁ : Nat} {t u : Tok} {Q E : Value → Shared → Prop}
    (B : Below A₀ base outer h₀) (F : Fr h₀ L s.heap m) (X : (Mine.hd.heap_39 w.params).In h₀) (N : News h₀ L s.heap (rest ++ tl)) (T : Top topProg loose mean mg mb h₀)
    (hk : cs.kind = .function) (hd : dp + 40 < 1000) (hr : NT rest) (ht : TabsOk Ts tl) (hx : x = X₁) (hy : y = Y₁) (hbx : Builtin.Int.intBits (X₁ : Int) ≤ 256) (hby : Builtin.Int.intBits (Y₁ : Int) ≤ 256)
    (hret : ∀ tk h' tk' tl', Fr h₀ L h' m → News h₀ L h' (rest ++ tl') → TabsOk Ts tl' → Q (.int (Nat.gcd X₁ Y₁ : Nat) tk) { s with heap := h', toks := tk' }) :
    wpAny (model PySem.Challenge.rw_xi0012_02.row.prog w) (ktrTop dp un gd cn cs L a ccd cl outer) (call (.ref 107) [.int x t, .int y u]) Q E s := by
  revert X; k_fill; intro X
  subst hx hy
  refine wpAny_call ?_
  k_dflt ktr_enter
  k_steps
  all_goals try dsimp only
  refine' Hold.go ?_
  k_dflt (refine' While_inv (n₀ := Y₁) (ComJ (Nat.gcd X₁ Y₁) rest) ?b1 ?b2 ?b3 ?_; (case b1 => k_asm); (case b2 => k_asm))
  case b3 =>
    refine' ⟨X₁, Y₁, t, u, tl, rfl, rfl, ht, rfl, hbx, hby, ?bp⟩
    exact List.forall_mem_cons.mpr ⟨rfl, List.forall_mem_cons.mpr ⟨rfl, List.forall_mem_nil _⟩⟩
  intro n m₁ news₁ h1 tk1 F1 N1 ⟨X₂, Y₂, t1, t2, tl', e0, e1, ht1, hg, hbx2, hby2, hps⟩
  subst e0 e1
  replace F1 := kstB_fr F1 hps
  k_steps
  all_goals try dsimp only
  · have hn0 : (n : Int) ≠ 0 := by assumption
    have hnp : 0 < n := by omega
    k_dflt (refine' idm_pp (X₁ := X₂) (Y₁ := n) (rest := rest) (tl := tl') ?c1 ?c2 ?c3 ?c4 ?c5 ?c6 ?c7 hr ht1 rfl rfl hnp ?c8 (com_bits hbx2 hnp) ?_; (case c1 => k_asm); (case c2 => k_asm); (case c3 => k_asm); (case c4 => k_asm); (case c5 => k_asm); (case c6 => exact rfl); (case c7 => ktr_room); (case c8 => omega))
    intro q2 h2 t5 t6 tk2 tl2 F2 N2 ht2
    k_steps
    all_goals try dsimp only
    have hgg : Nat.gcd n (X₂ % n) = Nat.gcd X₁ Y₁ := by rw [Nat.gcd_comm, ← Nat.gcd_rec, Nat.gcd_comm, hg]
    refine' WhileStep.intro (n' := X₂ % n) ?e1 ?e2 (Nat.mod_lt _ hnp) ?e3
    case e1 => k_asm
    case e3 =>
      refine' ⟨n, X₂ % n, t2, t6, tl2, rfl, rfl, ht2, hgg, hby2, mod_bits hbx2, ?bq9⟩
      exact List.forall_mem_cons.mpr ⟨rfl, List.forall_mem_cons.mpr ⟨rfl, List.forall_mem_nil _⟩⟩
    case e2 => (refine' Pick.news ?g1 ?g2; (case g2 => k_asm); (case g1 => ktr_rel))
  · have hn0 : (n : Int) = 0 := by assumption
    have hnp : n = 0 := by omega
    subst hnp
    rw [Nat.gcd_zero_right] at hg
    rw [← hg] at hret
    refine' hret _ _ _ tl' ?r1F ?r1N ht1
    case r1F => k_asm
    case r1N => k_asm
end
end
section
local macro_rules | `(tactic| walk_at "no key 3") => `(tactic| fail)
local macro_rules | `(tactic| walk_at "no key 2") => `(tactic| fail)
local macro_rules | `(tactic| walk_at "no key 1") => `(tactic| fail)
local macro_rules | `(tactic| walk_at "no key 0") => `(tactic| fail)


local macro_rules | `(tactic| ktr_rel) => `(tactic| first | refine' TailOf.base | (refine' TailOf.cons ?t9; (case t9 => ktr_rel)))
local macro_rules | `(tactic| ktr_rel) => `(tactic| first | ((with_reducible refine' Sel.hit ?s9); (case s9 => ktr_rel)) | (refine' Sel.keep ?ne ?s9; (case ne => first | k_ne | (refine' ne_kind ?x1 ?x2 ?x3 ?x4; (case x1 => k_asm); (case x2 => k_mem); (case x3 => k_mem); (case x4 => with_unfolding_all rfl)) | fail "ne"); (case s9 => ktr_rel)) | (refine' Sel.base ?b9; (case b9 => (refine' off_all ?n1 ?n2 ?n3 ?n4 ?n5 ?n6; (case n1 => assumption); (case n2 => assumption); (case n3 => ktr_rel); (case n4 => k_mem); (case n5 => first | exact rfl | assumption | (refine' tlk_cell ?n7; (case n7 => assumption))); (case n6 => (refine' ne_above ?n8 ?n9; (case n8 => assumption); (case n9 => omega)))))))
local macro_rules | `(tactic| walk_at "storeName") => `(tactic| (k_here; k_dflt (refine' store_cell ?F ?N ?c ?m ?d ?S ?_ ?a ?b; (case a => rfl); (case b => rfl); (case F => k_asm); (case N => k_asm); (case c => rfl); (case m => k_mem); (case d => k_asm); (case S => ktr_rel); k_whole; intro h' o' F' N' d'; (try dsimp only at N'); (try k_sweep))))
local macro_rules | `(tactic| ktr_rel) => `(tactic| first | (refine' Spl.base ?b9; (case b9 => assumption)) | (refine' Spl.keep ?ta ?s9; (case ta => (first | exact rfl | assumption | (refine' tabby_cell ?b8; (case b8 => assumption)) | (refine' tabby_of_tlk ?b8; (case b8 => assumption)) | (refine' tabby_code ?b8 ?b7; (case b8 => assumption); (case b7 => assumption)) | fail "ta")); (case s9 => ktr_rel)) | (refine' Spl.drop ?s9; (case s9 => ktr_rel)))
local macro_rules | `(tactic| ktr_rel) => `(tactic| first | refine' Suf.base | (refine' Suf.cons ?t9; (case t9 => ktr_rel)))
local macro_rules | `(tactic| walk_at "callWith ref") => `(tactic| (k_here; k_dflt (first
  | (refine' callWith_F ?k1 ?_; (case k1 => exact FnAt.of (by k_asm) (by k_mem)); k_whole)
  | (refine' callWith_F0 ?k1 ?_; (case k1 => exact FnAt.of (by k_asm) (by k_mem)); k_whole; try dsimp only [List.nil_append, List.cons_append]))))
local macro_rules | `(tactic| walk_at "eval Name") => `(tactic| (k_here; k_dflt (refine' nameX_F ?N ?c ?m ?d ?_ ?a ?b; (case a => rfl); (case b => rfl); (case N => k_asm); (case c => rfl); (case m => k_mem); (case d => k_asm); k_whole)))
local macro_rules | `(tactic| k_all) => `(tactic| assumption)
local macro_rules | `(tactic| k_mem) => `(tactic| first | ((with_reducible refine' memL ?_); assumption) | ((with_reducible refine' memR ?_); assumption) | ((with_reducible refine' memI ?_); ktr_member) | fail "k_mem")
local macro_rules | `(tactic| walk_at "binaryOp RShift int int") => `(tactic| (k_here; (refine' rshift_eq ?n ?e ?_; (case n => first | decide | assumption | exact Int.natCast_nonneg _); (case e => assumption); k_whole)))
local macro_rules | `(tactic| walk_at "binaryOp Mult int int") => `(tactic| (k_here; (refine' mul_eq ?e ?n ?_; (case e => assumption); (case n => assumption); k_whole)))
local macro_rules | `(tactic| walk_at "binaryOp LShift int int") => `(tactic| (k_here; (refine' lshift_eq ?e ?n ?m ?_; (case e => assumption); (case n => first | decide | assumption | exact Int.natCast_nonneg _); (case m => assumption); k_whole)))
local macro_rules | `(tactic| walk_at "binaryOp BitXor int int") => `(tactic| (k_here; (refine' xor_eq ?e ?_; (case e => assumption); k_whole)))

local macro_rules | `(tactic| walk_at "call builtin:len") => `(tactic| (k_here; (with_reducible show wpAny _ _ (call (Value.builtin "len") [Value.ref _]) _ _ _); k_dflt (refine' len_list' ?kl1 ?kl2 ?kl3 ?kl4 ?_; (case kl1 => k_asm); (case kl2 => k_mem); (case kl3 => assumption); (case kl4 => first | omega | ((try simp only [List.length_replicate]); omega)); k_whole); (try simp only [List.length_replicate])))
local macro_rules | `(tactic| walk_at "truthy ref") => `(tactic| (k_here; (with_reducible show wpAny _ _ (truthy (Value.ref _)) _ _ _); k_dflt (refine' truthy_list ?kl1 ?kl2 ?kl3 ?kl4 ?_; (case kl1 => k_asm); (case kl2 => k_mem); (case kl3 => assumption); (case kl4 => omega); k_whole)))

local macro_rules | `(tactic| ktr_rel) => `(tactic| first | (refine' Pick.base ?pb9; (case pb9 => ktr_rel)) | (refine' Pick.cons ?pm9 ?pr9; (case pm9 => k_mem); (case pr9 => ktr_rel)) | fail "pick")
local macro_rules | `(tactic| walk_at "call builtin:list.append") => `(tactic| (k_here; k_dflt (show wpAny _ _ (call (Value.builtin _) [Value.ref _, _]) _ _ _); k_dflt (refine' append_my ?ap1 ?ap2 ?ap3 ?ap4 ?ap5 ?_; (case ap1 => k_asm); (case ap2 => k_asm); (case ap3 => k_mem); (case ap4 => ktr_rel); (case ap5 => omega); k_whole); intro h' F' N'))
local macro_rules | `(tactic| walk_at "call builtin:list.reverse") => `(tactic| (k_here; k_dflt (show wpAny _ _ (call (Value.builtin _) [Value.ref _]) _ _ _); k_dflt (refine' reverse_my ?ap1 ?ap2 ?ap3 ?ap4 ?ap5 ?_; (case ap1 => k_asm); (case ap2 => k_asm); (case ap3 => k_mem); (case ap4 => ktr_rel); (case ap5 => omega); k_whole); intro h' F' N'))
local macro_rules | `(tactic| walk_at "binaryOp Add int int") => `(tactic| (k_here; (refine' add_eq ?e ?_; (case e => assumption); k_whole)))
local macro_rules | `(tactic| walk_at "compareOp Is") => `(tactic| (k_here; (with_reducible show wpAny _ _ (compareOp CmpOp.Is (Value.int _ _) (Value.ref _)) _ _ _); k_dflt (refine' wpAny_is_other ?io1 ?io2 ?_; (case io1 => with_unfolding_all rfl); (case io2 => (intro x; cases x)); k_whole)))
/-! a comprehension over a range whose element calls what may fill the tables of codes -/
section
variable {prog : Program} {w : World} {A : Around} {E : Value → Shared → Prop} {s : Shared} {h₀ : Heap} {L : Addr} {m : Str → Option Value} {env : Env}
def CTurn (h₀ : Heap) (L : Addr) (m : Str → Option Value) (s₁ : Shared) (three rest tl' : List (Addr × Obj)) (v : Int) (y : Value) (s₂ : Shared) : Prop :=
  ∃ h' tk' tl'' t', y = .int v t' ∧ s₂ = { s₁ with heap := h', toks := tk' } ∧ Fr h₀ L h' m ∧ News h₀ L h' (three ++ (rest ++ tl'')) ∧ TabsOk Ts tl'' ∧ Fresh (three ++ rest) tl' tl''
theorem CTurn.intro {s₁ : Shared} {three rest tl' tl'' : List (Addr × Obj)} {v : Int} {t' : Tok} {h' : Heap} {tk' : Nat} (F : Fr h₀ L h' m) (N : News h₀ L h' (three ++ (rest ++ tl''))) (ht : TabsOk Ts tl'') (hf : Fresh (three ++ rest) tl' tl'') :
    CTurn h₀ L m s₁ three rest tl' v (.int v t') { s₁ with heap := h', toks := tk' } := ⟨h', tk', tl'', t', rfl, rfl, F, N, ht, hf⟩
theorem tabby_ns {o : Obj} {m : Str → Option Value} (h : LCg.NsObj o m) : tabby o = false := by
  obtain ⟨es, ep, hd, _⟩ := h
  unfold tabby
  rw [hd]
theorem comp_ind {elt : Expr} {x : Str} {scope : Scope} {cl : List (Str × Addr)} {Fin : List Value → List (Addr × Obj) → Prop} {f : Nat → Int} {rest tl : List (Addr × Obj)} {n : Nat} (ht : TabsOk Ts tl) (hA : ∀ a ∈ tabAdr, ∃ T ∈ Ts, T.P = a)
    (turn : ∀ (i : Nat) t tl' I oI C oC D m₂ h tk ys (E' : Value → Shared → Prop), i < n → TabsOk Ts tl' → LCg.NsObj oC m₂ → m₂ x = some (.int (0 + (i : Int)) t) → Fr h₀ L h m → News h₀ L h ((I, oI) :: (C, oC) :: (D, LCg.lst ys) :: (rest ++ tl')) →
      I ∉ tabAdr → tabby oC = false → ((@Ne Nat I C) ∧ (@Ne Nat I D) ∧ (@Ne Nat C D)) →
      wpAny (model prog w) A (eval elt (compEnvC scope cl C env)) (CTurn h₀ L m { s with heap := h, toks := tk } [(I, oI), (C, oC), (D, LCg.lst ys)] rest tl' (f i)) E' { s with heap := h, toks := tk })
    (fin : ∀ ys tl', TabsOk Ts tl' → IntsAre ys ((List.range n).map f) → Fin ys (rest ++ tl')) :
    LCg.CompRest prog w A h₀ L m env elt x scope cl s (fun _ => True) (fun i v => ∃ t, v = .int (0 + (i : Int)) t) Fin n 0 [] (rest ++ tl) := by
  have H : ∀ k i ys tl', i + k = n → TabsOk Ts tl' → IntsAre ys ((List.range i).map f) → LCg.CompRest prog w A h₀ L m env elt x scope cl s (fun _ => True) (fun i v => ∃ t, v = .int (0 + (i : Int)) t) Fin k i ys (rest ++ tl') := by
    intro k
    induction k with
    | zero =>
      intro i ys tl' hk ht' hi
      have : i = n := by omega
      subst this
      exact fin ys tl' ht' hi
    | succ k ih =>
      intro i ys tl' hk ht' hi
      refine LCg.CompRest.succ fun v I oI C oC D m₂ h tk E' hv hC hx F N off ne => ?_
      obtain ⟨t, rfl⟩ := hv
      have hI : I ∉ tabAdr := fun hm => by
        obtain ⟨T, hT, e⟩ := hA I hm
        obtain ⟨ps, hp, _⟩ := ht'.2 T hT
        exact (off.mem _ (List.mem_append_right _ hp)).1 e
      refine wpAny_mono (turn i t tl' I oI C oC D m₂ h tk ys E' (by omega) ht' hC hx F N hI (tabby_ns hC) ne) (fun y s₂ hy => ?_) fun _ _ e => e
      obtain ⟨h', tk', tl'', t', rfl, rfl, F', N', ht'', hf⟩ := hy
      refine LCg.CompEnd.intro F' N' (rest ++ tl'') (fun p hp => hp) (LCg.Off3.of fun p hp => ?_) trivial (ih (i + 1) _ tl'' (by omega) ht'' ?_)
      · have old := off.mem
        rcases List.mem_append.mp hp with hp | hp
        · exact old p (List.mem_append_left _ hp)
        · rcases hf p hp with h1 | h1 | h1
          · exact old p (List.mem_append_right _ h1)
          · obtain ⟨T, hT, e⟩ := hA _ h1
            obtain ⟨ps, hq, _⟩ := ht'.2 T hT
            have := old _ (List.mem_append_right _ hq)
            rw [← e]
            exact this
          · exact ⟨Nat.ne_of_gt (h1 _ (.head _)), Nat.ne_of_gt (h1 _ (.tail _ (.head _))), Nat.ne_of_gt (h1 _ (.tail _ (.tail _ (.head _))))⟩
      · rw [List.range_succ, List.map_append]
        exact IntsAre.append hi (.cons _ _ .nil)
  exact H n 0 [] tl (by omega) ht .nil
theorem tabAdr_ts : ∀ a ∈ tabAdr, ∃ T ∈ Ts, T.P = a := by
  intro a ha
  simp only [tabAdr, List.mem_cons, List.not_mem_nil, or_false] at ha
  rcases ha with rfl | rfl | rfl
  · exact ⟨T1, .head _, rfl⟩
  · exact ⟨T2, .tail _ (.head _), rfl⟩
  · exact ⟨T3, .tail _ (.tail _ (.head _)), rfl⟩
end
end
section


local macro_rules | `(tactic| ktr_rel) => `(tactic| first | refine' TailOf.base | (refine' TailOf.cons ?t9; (case t9 => ktr_rel)))
local macro_rules | `(tactic| ktr_rel) => `(tactic| first | ((with_reducible refine' Sel.hit ?s9); (case s9 => ktr_rel)) | (refine' Sel.keep ?ne ?s9; (case ne => first | k_ne | (refine' ne_kind ?x1 ?x2 ?x3 ?x4; (case x1 => k_asm); (case x2 => k_mem); (case x3 => k_mem); (case x4 => with_unfolding_all rfl)) | fail "ne"); (case s9 => ktr_rel)) | (refine' Sel.base ?b9; (case b9 => (refine' off_all ?n1 ?n2 ?n3 ?n4 ?n5 ?n6; (case n1 => assumption); (case n2 => assumption); (case n3 => ktr_rel); (case n4 => k_mem); (case n5 => first | exact rfl | assumption | (refine' tlk_cell ?n7; (case n7 => assumption))); (case n6 => (refine' ne_above ?n8 ?n9; (case n8 => assumption); (case n9 => omega)))))))
local macro_rules | `(tactic| walk_at "storeName") => `(tactic| (k_here; k_dflt (refine' store_cell ?F ?N ?c ?m ?d ?S ?_ ?a ?b; (case a => rfl); (case b => rfl); (case F => k_asm); (case N => k_asm); (case c => rfl); (case m => k_mem); (case d => k_asm); (case S => ktr_rel); k_whole; intro h' o' F' N' d'; (try dsimp only at N'); (try k_sweep))))
local macro_rules | `(tactic| ktr_rel) => `(tactic| first | (refine' Spl.base ?b9; (case b9 => assumption)) | (refine' Spl.keep ?ta ?s9; (case ta => (first | exact rfl | assumption | (refine' tabby_cell ?b8; (case b8 => assumption)) | (refine' tabby_of_tlk ?b8; (case b8 => assumption)) | (refine' tabby_code ?b8 ?b7; (case b8 => assumption); (case b7 => assumption)) | fail "ta")); (case s9 => ktr_rel)) | (refine' Spl.drop ?s9; (case s9 => ktr_rel)))
local macro_rules | `(tactic| ktr_rel) => `(tactic| first | refine' Suf.base | (refine' Suf.cons ?t9; (case t9 => ktr_rel)))
local macro_rules | `(tactic| walk_at "callWith ref") => `(tactic| (k_here; k_dflt (first
  | (refine' callWith_F ?k1 ?_; (case k1 => exact FnAt.of (by k_asm) (by k_mem)); k_whole)
  | (refine' callWith_F0 ?k1 ?_; (case k1 => exact FnAt.of (by k_asm) (by k_mem)); k_whole; try dsimp only [List.nil_append, List.cons_append]))))
local macro_rules | `(tactic| walk_at "eval Name") => `(tactic| (k_here; k_dflt (refine' nameX_F ?N ?c ?m ?d ?_ ?a ?b; (case a => rfl); (case b => rfl); (case N => k_asm); (case c => rfl); (case m => k_mem); (case d => k_asm); k_whole)))
local macro_rules | `(tactic| k_all) => `(tactic| assumption)
local macro_rules | `(tactic| k_mem) => `(tactic| first | ((with_reducible refine' memL ?_); assumption) | ((with_reducible refine' memR ?_); assumption) | ((with_reducible refine' memI ?_); ktr_member) | fail "k_mem")
local macro_rules | `(tactic| walk_at "binaryOp RShift int int") => `(tactic| (k_here; (refine' rshift_eq ?n ?e ?_; (case n => first | decide | assumption | exact Int.natCast_nonneg _); (case e => assumption); k_whole)))
local macro_rules | `(tactic| walk_at "binaryOp Mult int int") => `(tactic| (k_here; (refine' mul_eq ?e ?n ?_; (case e => assumption); (case n => assumption); k_whole)))
local macro_rules | `(tactic| walk_at "binaryOp LShift int int") => `(tactic| (k_here; (refine' lshift_eq ?e ?n ?m ?_; (case e => assumption); (case n => first | decide | assumption | exact Int.natCast_nonneg _); (case m => assumption); k_whole)))
local macro_rules | `(tactic| walk_at "binaryOp BitXor int int") => `(tactic| (k_here; (refine' xor_eq ?e ?_; (case e => assumption); k_whole)))

local macro_rules | `(tactic| walk_at "call builtin:len") => `(tactic| (k_here; (with_reducible show wpAny _ _ (call (Value.builtin "len") [Value.ref _]) _ _ _); k_dflt (refine' len_list' ?kl1 ?kl2 ?kl3 ?kl4 ?_; (case kl1 => k_asm); (case kl2 => k_mem); (case kl3 => assumption); (case kl4 => first | omega | ((try simp only [List.length_replicate]); omega)); k_whole); (try simp only [List.length_replicate])))
local macro_rules | `(tactic| walk_at "truthy ref") => `(tactic| (k_here; (with_reducible show wpAny _ _ (truthy (Value.ref _)) _ _ _); k_dflt (refine' truthy_list ?kl1 ?kl2 ?kl3 ?kl4 ?_; (case kl1 => k_asm); (case kl2 => k_mem); (case kl3 => assumption); (case kl4 => omega); k_whole)))

local macro_rules | `(tactic| ktr_rel) => `(tactic| first | (refine' Pick.base ?pb9; (case pb9 => ktr_rel)) | (refine' Pick.cons ?pm9 ?pr9; (case pm9 => k_mem); (case pr9 => ktr_rel)) | fail "pick")
local macro_rules | `(tactic| walk_at "call builtin:list.append") => `(tactic| (k_here; k_dflt (show wpAny _ _ (call (Value.builtin _) [Value.ref _, _]) _ _ _); k_dflt (refine' append_my ?ap1 ?ap2 ?ap3 ?ap4 ?ap5 ?_; (case ap1 => k_asm); (case ap2 => k_asm); (case ap3 => k_mem); (case ap4 => ktr_rel); (case ap5 => omega); k_whole); intro h' F' N'))
local macro_rules | `(tactic| walk_at "call builtin:list.reverse") => `(tactic| (k_here; k_dflt (show wpAny _ _ (call (Value.builtin _) [Value.ref _]) _ _ _); k_dflt (refine' reverse_my ?ap1 ?ap2 ?ap3 ?ap4 ?ap5 ?_; (case ap1 => k_asm); (case ap2 => k_asm); (case ap3 => k_mem); (case ap4 => ktr_rel); (case ap5 => omega); k_whole); intro h' F' N'))
local macro_rules | `(tactic| walk_at "binaryOp Add int int") => `(tactic| (k_here; (refine' add_eq ?e ?_; (case e => assumption); k_whole)))
local macro_rules | `(tactic| walk_at "compareOp Is") => `(tactic| (k_here; (with_reducible show wpAny _ _ (compareOp CmpOp.Is (Value.int _ _) (Value.ref _)) _ _ _); k_dflt (refine' wpAny_is_other ?io1 ?io2 ?_; (case io1 => with_unfolding_all rfl); (case io2 => (intro x; cases x)); k_whole)))
local macro_rules | `(tactic| walk_at "CompSrc") => `(tactic| (k_here; refine' Hold.of ?_))
def lawParts : List Stmt × Scope := match (PySem.Challenge.pw_xi0012_02.main.body.drop 19 : List Stmt) with
  | Stmt.FunctionDef _ _ b _ _ _ sc _ _ _ :: _ => (b, sc)
  | _ => ([], { kind := .module, names := [], isGenerator := false, isCoroutine := false, more := [] })
def lawBody : List Stmt := lawParts.1
def lawScope : Scope := lawParts.2
def turnBody : List Stmt := match lawBody with
  | _ :: Stmt.For _ _ b _ _ :: _ => b
  | _ => []
def lastBody : List Stmt := turnBody.drop 7
theorem last_spec {w : World} {dp un : Nat} {gd : Option (List Code)} {cn : Str} {cs : Scope} {a : Addr} {ccd : Value} {outer : List Env}
    {A₀ : Around} {base h₀ : Heap} {L : Addr} {m mg mb : Str → Option Value} {loose : List Str} {mean : ExcName → Option Value} {rest tl : List (Addr × Obj)} {s : Shared}
    {p i : Nat} {t1 t2 : Tok} {Q : Flow → Shared → Prop} {E : Value → Shared → Prop}
    (B : Below A₀ base outer h₀) (F : Fr h₀ L s.heap m) (X : (Mine.hd.heap_39 w.params).In h₀) (N : News h₀ L s.heap (rest ++ tl)) (T : Top topProg loose mean mg mb h₀) (hcs : lawScope = cs) (hdp : dp < 400) (hun : un + 64 < cLine) (hr : NT rest) (ht : TabsOk Ts tl)
    (hps : ∀ q ∈ [(Str.ofString "one", Value.int (p : Int) t1), (Str.ofString "k", Value.int (i : Int) t2)], m q.1 = some q.2) (hp : p ≤ 199)
    (hret : ∀ h' tk' tl' m', Fr h₀ L h' m' → News h₀ L h' (rest ++ tl') → TabsOk Ts tl' → m' (Str.ofString "places") = m (Str.ofString "places") → Q .next { s with heap := h', toks := tk' }) :
    wpAny (model PySem.Challenge.rw_xi0012_02.row.prog w) (ktrTop dp un gd cn cs L a ccd [] outer) (execs lastBody (envX cn cs L a ccd [])) Q E s := by
  have hcs' := hcs
  change Scope.mk _ _ _ _ _ = cs at hcs'
  subst hcs'
  clear hcs
  change wpAny _ _ (execs (_ :: []) _) _ _ _
  replace F := kstB_fr F hps
  have e30 : Int.fmod (p : Int) 30 = ((p % 30 : Nat) : Int) := by rw [Int.fmod_eq_emod_of_nonneg _ (by decide)]; norm_cast
  have e31 : ((p % 30 : Nat) : Int) + 1 = ((p % 30 + 1 : Nat) : Int) := by norm_cast
  have e32 : ((p % 30 : Nat) : Int) + 2 = ((p % 30 + 2 : Nat) : Int) := by norm_cast
  have h30 : p % 30 < 30 := Nat.mod_lt _ (by decide)
  obtain ⟨M, hM⟩ : ∃ M, p % 30 = M := ⟨_, rfl⟩
  rw [hM] at e30 e31 e32 h30
  revert X; k_fill; intro X
  k_steps
  all_goals try dsimp only
  · rename_i r9 F9 N9 k9
    rw [e30, e31] at r9
    refine' Hold.go ?_
    k_dflt (refine' LCg.CompSrc.range rfl ?b1 ?b2 r9 (small_one (by omega)) (rsize_one _) ?b3 ?_; (case b1 => k_asm); (case b2 => k_asm); (case b3 => (rw [PySem.sizeLine_eq]; omega)))
    intro g9
    k_dflt (refine' comp_ind (f := fun q => (fib q : Int)) (rest := rest) (tl := tl) ht tabAdr_ts ?turn ?fin)
    case turn =>
      intro q t9 tl9 I oI C oC D m9 h1 tk1 ys9 E9 hq ht9 hC hx F1 N1 hI hoC hne
      k_steps
      all_goals try dsimp only
      k_dflt (refine' doubled_spec0 (P := q) (rest := (I, oI) :: (C, oC) :: (D, LCg.lst ys9) :: rest) (tl := tl9) ?d1 ?d2 ?d3 ?d4 ?d5 ?d6 ?d7 (NT.consA hI (NT.cons hoC (NT.cons rfl hr))) ht9 ?d8 ?d9 ?_; (case d1 => k_asm); (case d2 => k_asm); (case d3 => k_asm); (case d4 => exact N1); (case d5 => k_asm); (case d6 => exact rfl); (case d7 => omega); (case d8 => omega); (case d9 => omega))
      intro q6 h6 t6 t7 tk6 tl6 F6 N6 ht6 fr6
      k_steps
      all_goals try dsimp only
      refine' CTurn.intro ?cF ?cN ht6 fr6
      case cF => k_asm
      case cN => exact newsSub N6 fun p hp => .tail _ hp
    case fin =>
      intro ys9 tl9 ht9 hi9
      k_steps
      all_goals try dsimp only
      rename_i D9 h9 tk9 F8 N8 o8
      replace N8 : News _ _ _ ((D9, PySem.W.listOf ys9.toArray ys9.length) :: _) := N8
      have hl9 : ((List.range (M + 1)).map (fun q => (fib q : Int))).length ≤ 1000 := by rw [List.length_map, List.length_range]; omega
      k_dflt (refine' reduce_list (z := 0) ?ra1 ?ra2 ?ra3 (Spl.news ?ra5 ?ra4) ?ra6 ?ra7 ?ra8 (Spl.nt ?ra5) ?ra9 fn2_add ?raa ?rab ?rac ?rad ?rae ?_; (case ra1 => k_asm); (case ra2 => k_asm); (case ra3 => k_asm); (case ra4 => k_asm); (case ra5 => ktr_rel); (case ra6 => k_asm); (case ra7 => exact rfl); (case ra8 => omega); (case ra9 => assumption); (case rab => k_mem); (case rac => assumption); (case rad => assumption); (case raa => exact List.forall_mem_nil _); (case rae => exact fun _ _ => trivial))
      rw [fold_fib]
      intro tk5 h5 tkk5 tl5 F5 N5 ht5
      k_steps
      all_goals try dsimp only
      k_dflt (refine' doubled_spec (P := M + 2) ?rb1 ?rb2 ?rb3 (Spl.news ?rb5 ?rb4) ?rb6 ?rb7 ?rb8 (Spl.nt ?rb5) ?rb9 ?rba ?rbb ?_; (case rb1 => k_asm); (case rb2 => k_asm); (case rb3 => k_asm); (case rb4 => k_asm); (case rb5 => ktr_rel); (case rb6 => k_asm); (case rb7 => exact rfl); (case rb8 => omega); (case rb9 => assumption); (case rba => (rw [e30, e32])); (case rbb => omega))
      intro q7 h7 t6 t7 tk7 tl7 F7 N7 ht7
      k_steps
      all_goals try dsimp only
      · exact absurd rfl (by assumption)
      · refine' hret _ _ tl7 _ ?r2F ?r2N ht7 ?r2p
        case r2F => k_asm
        case r2p => rfl
        case r2N => (refine' Pick.news ?r2a ?r2b; (case r2b => k_asm); (case r2a => ktr_rel))
  · refine' hret _ _ tl _ ?r1F ?r1N ht ?r1p
    case r1F => k_asm
    case r1p => rfl
    case r1N => k_asm
end
section
local macro_rules | `(tactic| walk_at "no key 2") => `(tactic| fail)
local macro_rules | `(tactic| walk_at "no key 1") => `(tactic| fail)
local macro_rules | `(tactic| walk_at "no key 0") => `(tactic| fail)


local macro_rules | `(tactic| ktr_rel) => `(tactic| first | refine' TailOf.base | (refine' TailOf.cons ?t9; (case t9 => ktr_rel)))
local macro_rules | `(tactic| ktr_rel) => `(tactic| first | ((with_reducible refine' Sel.hit ?s9); (case s9 => ktr_rel)) | (refine' Sel.keep ?ne ?s9; (case ne => first | k_ne | (refine' ne_kind ?x1 ?x2 ?x3 ?x4; (case x1 => k_asm); (case x2 => k_mem); (case x3 => k_mem); (case x4 => with_unfolding_all rfl)) | fail "ne"); (case s9 => ktr_rel)) | (refine' Sel.base ?b9; (case b9 => (refine' off_all ?n1 ?n2 ?n3 ?n4 ?n5 ?n6; (case n1 => assumption); (case n2 => assumption); (case n3 => ktr_rel); (case n4 => k_mem); (case n5 => first | exact rfl | assumption | (refine' tlk_cell ?n7; (case n7 => assumption))); (case n6 => (refine' ne_above ?n8 ?n9; (case n8 => assumption); (case n9 => omega)))))))
local macro_rules | `(tactic| walk_at "storeName") => `(tactic| (k_here; k_dflt (refine' store_cell ?F ?N ?c ?m ?d ?S ?_ ?a ?b; (case a => rfl); (case b => rfl); (case F => k_asm); (case N => k_asm); (case c => rfl); (case m => k_mem); (case d => k_asm); (case S => ktr_rel); k_whole; intro h' o' F' N' d'; (try dsimp only at N'); (try k_sweep))))
local macro_rules | `(tactic| ktr_rel) => `(tactic| first | (refine' Spl.base ?b9; (case b9 => assumption)) | (refine' Spl.keep ?ta ?s9; (case ta => (first | exact rfl | assumption | (refine' tabby_cell ?b8; (case b8 => assumption)) | (refine' tabby_of_tlk ?b8; (case b8 => assumption)) | (refine' tabby_code ?b8 ?b7; (case b8 => assumption); (case b7 => assumption)) | fail "ta")); (case s9 => ktr_rel)) | (refine' Spl.drop ?s9; (case s9 => ktr_rel)))
local macro_rules | `(tactic| ktr_rel) => `(tactic| first | refine' Suf.base | (refine' Suf.cons ?t9; (case t9 => ktr_rel)))
local macro_rules | `(tactic| walk_at "callWith ref") => `(tactic| (k_here; k_dflt (first
  | (refine' callWith_F ?k1 ?_; (case k1 => exact FnAt.of (by k_asm) (by k_mem)); k_whole)
  | (refine' callWith_F0 ?k1 ?_; (case k1 => exact FnAt.of (by k_asm) (by k_mem)); k_whole; try dsimp only [List.nil_append, List.cons_append]))))
local macro_rules | `(tactic| walk_at "eval Name") => `(tactic| (k_here; k_dflt (refine' nameX_F ?N ?c ?m ?d ?_ ?a ?b; (case a => rfl); (case b => rfl); (case N => k_asm); (case c => rfl); (case m => k_mem); (case d => k_asm); k_whole)))
local macro_rules | `(tactic| k_all) => `(tactic| assumption)
local macro_rules | `(tactic| k_mem) => `(tactic| first | ((with_reducible refine' memL ?_); assumption) | ((with_reducible refine' memR ?_); assumption) | ((with_reducible refine' memI ?_); ktr_member) | fail "k_mem")
local macro_rules | `(tactic| walk_at "binaryOp RShift int int") => `(tactic| (k_here; (refine' rshift_eq ?n ?e ?_; (case n => first | decide | assumption | exact Int.natCast_nonneg _); (case e => assumption); k_whole)))
local macro_rules | `(tactic| walk_at "binaryOp Mult int int") => `(tactic| (k_here; (refine' mul_eq ?e ?n ?_; (case e => assumption); (case n => assumption); k_whole)))
local macro_rules | `(tactic| walk_at "binaryOp LShift int int") => `(tactic| (k_here; (refine' lshift_eq ?e ?n ?m ?_; (case e => assumption); (case n => first | decide | assumption | exact Int.natCast_nonneg _); (case m => assumption); k_whole)))
local macro_rules | `(tactic| walk_at "binaryOp BitXor int int") => `(tactic| (k_here; (refine' xor_eq ?e ?_; (case e => assumption); k_whole)))

local macro_rules | `(tactic| walk_at "call builtin:len") => `(tactic| (k_here; (with_reducible show wpAny _ _ (call (Value.builtin "len") [Value.ref _]) _ _ _); k_dflt (refine' len_list' ?kl1 ?kl2 ?kl3 ?kl4 ?_; (case kl1 => k_asm); (case kl2 => k_mem); (case kl3 => assumption); (case kl4 => first | omega | ((try simp only [List.length_replicate]); omega)); k_whole); (try simp only [List.length_replicate])))
local macro_rules | `(tactic| walk_at "truthy ref") => `(tactic| (k_here; (with_reducible show wpAny _ _ (truthy (Value.ref _)) _ _ _); k_dflt (refine' truthy_list ?kl1 ?kl2 ?kl3 ?kl4 ?_; (case kl1 => k_asm); (case kl2 => k_mem); (case kl3 => assumption); (case kl4 => omega); k_whole)))

local macro_rules | `(tactic| ktr_rel) => `(tactic| first | (refine' Pick.base ?pb9; (case pb9 => ktr_rel)) | (refine' Pick.cons ?pm9 ?pr9; (case pm9 => k_mem); (case pr9 => ktr_rel)) | fail "pick")
local macro_rules | `(tactic| walk_at "call builtin:list.append") => `(tactic| (k_here; k_dflt (show wpAny _ _ (call (Value.builtin _) [Value.ref _, _]) _ _ _); k_dflt (refine' append_my ?ap1 ?ap2 ?ap3 ?ap4 ?ap5 ?_; (case ap1 => k_asm); (case ap2 => k_asm); (case ap3 => k_mem); (case ap4 => ktr_rel); (case ap5 => omega); k_whole); intro h' F' N'))
local macro_rules | `(tactic| walk_at "call builtin:list.reverse") => `(tactic| (k_here; k_dflt (show wpAny _ _ (call (Value.builtin _) [Value.ref _]) _ _ _); k_dflt (refine' reverse_my ?ap1 ?ap2 ?ap3 ?ap4 ?ap5 ?_; (case ap1 => k_asm); (case ap2 => k_asm); (case ap3 => k_mem); (case ap4 => ktr_rel); (case ap5 => omega); k_whole); intro h' F' N'))
local macro_rules | `(tactic| walk_at "binaryOp Add int int") => `(tactic| (k_here; (refine' add_eq ?e ?_; (case e => assumption); k_whole)))
local macro_rules | `(tactic| walk_at "compareOp Is") => `(tactic| (k_here; (with_reducible show wpAny _ _ (compareOp CmpOp.Is (Value.int _ _) (Value.ref _)) _ _ _); k_dflt (refine' wpAny_is_other ?io1 ?io2 ?_; (case io1 => with_unfolding_all rfl); (case io2 => (intro x; cases x)); k_whole)))
theorem gcd_le {p q k : Nat} (hp : p ≤ k) (hq : q ≤ k) : Nat.gcd p q ≤ k := by
  rcases Nat.eq_zero_or_pos p with e | e
  · subst e; rw [Nat.gcd_zero_left]; exact hq
  · exact Nat.le_trans (Nat.gcd_le_left q e) hp
theorem small_bits {p : Nat} (hp : p ≤ 199) : Builtin.Int.intBits (p : Int) ≤ 256 := intBits_nat (Nat.lt_of_le_of_lt hp (by decide))
theorem two_bits : ∀ n : Nat, 3 ≤ n → 2 ≤ fib n
  | 0, h => by omega
  | 1, h => by omega
  | 2, h => by omega
  | n + 3, _ => by
    have h1 := fib_pos (n + 1)
    have h2 := fib_pos n
    have e : fib (n + 3) = fib (n + 1) + fib (n + 2) := rfl
    have h3 : 0 < fib (n + 2) := h1
    omega
theorem dbl_len {p : Nat} (hp : p ≤ 199) (h0 : 0 < fib p) : (Builtin.Int.intBits (fib (2 * p) : Int) + Builtin.Int.intBits (fib p : Int) - 1) / Builtin.Int.intBits (fib p : Int) ≤ 256 := by
  have h1 := (bits_pos h0).1
  have h2 := fib_bits (n := 2 * p) (Nat.le_refl _)
  refine Nat.div_le_of_le_mul ?_
  by_cases hs : p ≤ 128
  · omega
  · have h3 : 2 ≤ Builtin.Int.intBits (fib p : Int) := by
      have h4 := two_bits p (by omega)
      have h5 := (bits_pos h0).2
      rcases Nat.lt_or_ge (Builtin.Int.intBits (fib p : Int)) 2 with h | h
      · have e : Builtin.Int.intBits (fib p : Int) = 1 := by omega
        rw [e] at h5
        omega
      · exact h
    omega
def midBody : List Stmt := turnBody.drop 5
local macro_rules | `(tactic| walk_at "execs cons") => `(tactic| (k_here; (with_reducible show wpAny _ _ (execs (Stmt.If (Expr.BoolOp _ (Expr.Compare (Expr.Name (Str.ofString "k") _) _ _ _ :: _) _) _ _ _ :: _) _) _ _ _); k_dflt (refine' last_spec ?ta1 ?ta2 ?ta3 (Spl.news ?ta5 ?ta4) ?ta6 ?ta7 ?ta8 ?ta9 (Spl.nt ?ta5) ?taa ?tab ?tac ?_; (case ta1 => k_asm); (case ta2 => k_asm); (case ta3 => k_asm); (case ta4 => k_asm); (case ta5 => ktr_rel); (case ta6 => k_asm); (case ta7 => exact rfl); (case ta8 => omega); (case ta9 => assumption); (case taa => assumption); (case tab => exact List.forall_mem_cons.mpr ⟨rfl, List.forall_mem_cons.mpr ⟨rfl, List.forall_mem_nil _⟩⟩); (case tac => assumption)); intro h' tk' tl' m' F' N' ht' pl'))
theorem mid_spec {w : World} {dp un : Nat} {gd : Option (List Code)} {cn : Str} {cs : Scope} {a : Addr} {ccd : Value} {outer : List Env}
    {A₀ : Around} {base h₀ : Heap} {L : Addr} {m mg mb : Str → Option Value} {loose : List Str} {mean : ExcName → Option Value} {rest tl : List (Addr × Obj)} {s : Shared}
    {p q i : Nat} {t1 t2 t3 t4 : Tok} {Q : Flow → Shared → Prop} {E : Value → Shared → Prop}
    (B : Below A₀ base outer h₀) (F : Fr h₀ L s.heap m) (X : (Mine.hd.heap_39 w.params).In h₀) (N : News h₀ L s.heap (rest ++ tl)) (T : Top topProg loose mean mg mb h₀) (hcs : lawScope = cs) (hdp : dp < 400) (hun : un + 64 < cLine) (hr : NT rest) (ht : TabsOk Ts tl)
    (hps : ∀ y ∈ [(Str.ofString "one", Value.int (p : Int) t1), (Str.ofString "other", Value.int (q : Int) t2), (Str.ofString "term", Value.int (fib p : Int) t3), (Str.ofString "k", Value.int (i : Int) t4)], m y.1 = some y.2) (hp : p ≤ 199) (hq : q ≤ 199)
    (hret : ∀ h' tk' tl' m', Fr h₀ L h' m' → News h₀ L h' (rest ++ tl') → TabsOk Ts tl' → m' (Str.ofString "places") = m (Str.ofString "places") → Q .next { s with heap := h', toks := tk' }) :
    wpAny (model PySem.Challenge.rw_xi0012_02.row.prog w) (ktrTop dp un gd cn cs L a ccd [] outer) (execs midBody (envX cn cs L a ccd [])) Q E s := by
  have hcs' := hcs
  change Scope.mk _ _ _ _ _ = cs at hcs'
  subst hcs'
  clear hcs
  change wpAny _ _ (execs (_ :: _ :: _ :: []) _) _ _ _
  replace F := kstB_fr F hps
  have hgc : Nat.gcd p q ≤ 400 := Nat.le_trans (gcd_le hp hq) (by decide)
  have hbp : Builtin.Int.intBits (fib p : Int) ≤ 256 := fib_bits (by omega)
  have hbq : Builtin.Int.intBits (fib q : Int) ≤ 256 := fib_bits (by omega)
  have hcp := small_bits hp
  have hcq := small_bits hq
  have e2 : (2 : Int) * (p : Int) = ((2 * p : Nat) : Int) := by norm_cast
  have e3 : IntMulOk (2 : Int) (p : Int) := IntMulOk.of_le (m := 2) (n := 256) (by decide) hcp (by decide)
  revert X; k_fill; intro X
  k_steps
  all_goals try dsimp only
  k_dflt (refine' doubled_spec (P := q) ?ra1 ?ra2 ?ra3 (Spl.news ?ra5 ?ra4) ?ra6 ?ra7 ?ra8 (Spl.nt ?ra5) ?ra9 rfl ?raa ?_; (case ra1 => k_asm); (case ra2 => k_asm); (case ra3 => k_asm); (case ra4 => k_asm); (case ra5 => ktr_rel); (case ra6 => k_asm); (case ra7 => exact rfl); (case ra8 => omega); (case ra9 => assumption); (case raa => omega))
  intro q1 h1 u1 v1 tk1 tl1 F1 N1 ht1
  k_steps
  all_goals try dsimp only
  k_dflt (refine' common_spec (X₁ := fib p) (Y₁ := fib q) ?rb1 ?rb2 ?rb3 (Spl.news ?rb5 ?rb4) ?rb6 ?rb7 ?rb8 (Spl.nt ?rb5) ?rb9 rfl rfl hbp hbq ?_; (case rb1 => k_asm); (case rb2 => k_asm); (case rb3 => k_asm); (case rb4 => k_asm); (case rb5 => ktr_rel); (case rb6 => k_asm); (case rb7 => exact rfl); (case rb8 => omega); (case rb9 => assumption))
  rw [fib_gcd]
  intro u2 h2 tk2 tl2 F2 N2 ht2
  k_steps
  all_goals try dsimp only
  k_dflt (refine' common_spec (X₁ := p) (Y₁ := q) ?rc1 ?rc2 ?rc3 (Spl.news ?rc5 ?rc4) ?rc6 ?rc7 ?rc8 (Spl.nt ?rc5) ?rc9 rfl rfl hcp hcq ?_; (case rc1 => k_asm); (case rc2 => k_asm); (case rc3 => k_asm); (case rc4 => k_asm); (case rc5 => ktr_rel); (case rc6 => k_asm); (case rc7 => exact rfl); (case rc8 => omega); (case rc9 => assumption))
  intro u3 h3 tk3 tl3 F3 N3 ht3
  k_steps
  all_goals try dsimp only
  k_dflt (refine' doubled_spec (P := Nat.gcd p q) ?rd1 ?rd2 ?rd3 (Spl.news ?rd5 ?rd4) ?rd6 ?rd7 ?rd8 (Spl.nt ?rd5) ?rd9 rfl hgc ?_; (case rd1 => k_asm); (case rd2 => k_asm); (case rd3 => k_asm); (case rd4 => k_asm); (case rd5 => ktr_rel); (case rd6 => k_asm); (case rd7 => exact rfl); (case rd8 => omega); (case rd9 => assumption))
  intro q4 h4 u4 v4 tk4 tl4 F4 N4 ht4
  k_steps
  all_goals try dsimp only
  · exact absurd rfl (by assumption)
  · have hf0 : 0 < fib p := by omega
    k_dflt (refine' doubled_spec (P := 2 * p) ?re1 ?re2 ?re3 (Spl.news ?re5 ?re4) ?re6 ?re7 ?re8 (Spl.nt ?re5) ?re9 rfl ?rea ?_; (case re1 => k_asm); (case re2 => k_asm); (case re3 => k_asm); (case re4 => k_asm); (case re5 => ktr_rel); (case re6 => k_asm); (case re7 => exact rfl); (case re8 => omega); (case re9 => assumption); (case rea => omega))
    intro q5 h5 u5 v5 tk5 tl5 F5 N5 ht5
    k_steps
    all_goals try dsimp only
    k_dflt (refine' idm_pp (X₁ := fib (2 * p)) (Y₁ := fib p) ?rf1 ?rf2 ?rf3 (Spl.news ?rf5 ?rf4) ?rf6 ?rf7 ?rf8 (Spl.nt ?rf5) ?rf9 rfl rfl hf0 ?rfa (dbl_len hp hf0) ?_; (case rf1 => k_asm); (case rf2 => k_asm); (case rf3 => k_asm); (case rf4 => k_asm); (case rf5 => ktr_rel); (case rf6 => k_asm); (case rf7 => exact rfl); (case rf8 => omega); (case rf9 => assumption); (case rfa => omega))
    rw [Nat.mod_eq_zero_of_dvd (fib_dvd p)]
    intro q6 h6 u6 v6 tk6 tl6 F6 N6 ht6
    k_steps
    all_goals try dsimp only
    refine' hret _ _ _ _ ?nya ?nyb ?nye ?nyp
    case nye => assumption
    case nya => k_asm
    case nyp => (refine' Eq.trans ?nyq ?nyr; (case nyq => assumption); (case nyr => rfl))
    case nyb => (refine' Pick.news ?nyc ?nyd; (case nyd => k_asm); (case nyc => ktr_rel))
  · refine' hret _ _ _ _ ?nza ?nzb ?nze ?nzp
    case nze => assumption
    case nza => k_asm
    case nzp => (refine' Eq.trans ?nzq ?nzr; (case nzq => assumption); (case nzr => rfl))
    case nzb => (refine' Pick.news ?nzc ?nzd; (case nzd => k_asm); (case nzc => ktr_rel))
end
section
local macro_rules | `(tactic| walk_at "no key 2") => `(tactic| fail)
local macro_rules | `(tactic| walk_at "no key 1") => `(tactic| fail)
local macro_rules | `(tactic| walk_at "no key 0") => `(tactic| fail)


local macro_rules | `(tactic| ktr_rel) => `(tactic| first | refine' TailOf.base | (refine' TailOf.cons ?t9; (case t9 => ktr_rel)))
local macro_rules | `(tactic| ktr_rel) => `(tactic| first | ((with_reducible refine' Sel.hit ?s9); (case s9 => ktr_rel)) | (refine' Sel.keep ?ne ?s9; (case ne => first | k_ne | (refine' ne_kind ?x1 ?x2 ?x3 ?x4; (case x1 => k_asm); (case x2 => k_mem); (case x3 => k_mem); (case x4 => with_unfolding_all rfl)) | fail "ne"); (case s9 => ktr_rel)) | (refine' Sel.base ?b9; (case b9 => (refine' off_all ?n1 ?n2 ?n3 ?n4 ?n5 ?n6; (case n1 => assumption); (case n2 => assumption); (case n3 => ktr_rel); (case n4 => k_mem); (case n5 => first | exact rfl | assumption | (refine' tlk_cell ?n7; (case n7 => assumption))); (case n6 => (refine' ne_above ?n8 ?n9; (case n8 => assumption); (case n9 => omega)))))))
local macro_rules | `(tactic| walk_at "storeName") => `(tactic| (k_here; k_dflt (refine' store_cell ?F ?N ?c ?m ?d ?S ?_ ?a ?b; (case a => rfl); (case b => rfl); (case F => k_asm); (case N => k_asm); (case c => rfl); (case m => k_mem); (case d => k_asm); (case S => ktr_rel); k_whole; intro h' o' F' N' d'; (try dsimp only at N'); (try k_sweep))))
local macro_rules | `(tactic| ktr_rel) => `(tactic| first | (refine' Spl.base ?b9; (case b9 => assumption)) | (refine' Spl.keep ?ta ?s9; (case ta => (first | exact rfl | assumption | (refine' tabby_cell ?b8; (case b8 => assumption)) | (refine' tabby_of_tlk ?b8; (case b8 => assumption)) | (refine' tabby_code ?b8 ?b7; (case b8 => assumption); (case b7 => assumption)) | fail "ta")); (case s9 => ktr_rel)) | (refine' Spl.drop ?s9; (case s9 => ktr_rel)))
local macro_rules | `(tactic| ktr_rel) => `(tactic| first | refine' Suf.base | (refine' Suf.cons ?t9; (case t9 => ktr_rel)))
local macro_rules | `(tactic| walk_at "callWith ref") => `(tactic| (k_here; k_dflt (first
  | (refine' callWith_F ?k1 ?_; (case k1 => exact FnAt.of (by k_asm) (by k_mem)); k_whole)
  | (refine' callWith_F0 ?k1 ?_; (case k1 => exact FnAt.of (by k_asm) (by k_mem)); k_whole; try dsimp only [List.nil_append, List.cons_append]))))
local macro_rules | `(tactic| walk_at "eval Name") => `(tactic| (k_here; k_dflt (refine' nameX_F ?N ?c ?m ?d ?_ ?a ?b; (case a => rfl); (case b => rfl); (case N => k_asm); (case c => rfl); (case m => k_mem); (case d => k_asm); k_whole)))
local macro_rules | `(tactic| k_all) => `(tactic| assumption)
local macro_rules | `(tactic| k_mem) => `(tactic| first | ((with_reducible refine' memL ?_); assumption) | ((with_reducible refine' memR ?_); assumption) | ((with_reducible refine' memI ?_); ktr_member) | fail "k_mem")
local macro_rules | `(tactic| walk_at "binaryOp RShift int int") => `(tactic| (k_here; (refine' rshift_eq ?n ?e ?_; (case n => first | decide | assumption | exact Int.natCast_nonneg _); (case e => assumption); k_whole)))
local macro_rules | `(tactic| walk_at "binaryOp Mult int int") => `(tactic| (k_here; (refine' mul_eq ?e ?n ?_; (case e => assumption); (case n => assumption); k_whole)))
local macro_rules | `(tactic| walk_at "binaryOp LShift int int") => `(tactic| (k_here; (refine' lshift_eq ?e ?n ?m ?_; (case e => assumption); (case n => first | decide | assumption | exact Int.natCast_nonneg _); (case m => assumption); k_whole)))
local macro_rules | `(tactic| walk_at "binaryOp BitXor int int") => `(tactic| (k_here; (refine' xor_eq ?e ?_; (case e => assumption); k_whole)))

local macro_rules | `(tactic| walk_at "call builtin:len") => `(tactic| (k_here; (with_reducible show wpAny _ _ (call (Value.builtin "len") [Value.ref _]) _ _ _); k_dflt (refine' len_list' ?kl1 ?kl2 ?kl3 ?kl4 ?_; (case kl1 => k_asm); (case kl2 => k_mem); (case kl3 => assumption); (case kl4 => first | omega | ((try simp only [List.length_replicate]); omega)); k_whole); (try simp only [List.length_replicate])))
local macro_rules | `(tactic| walk_at "truthy ref") => `(tactic| (k_here; (with_reducible show wpAny _ _ (truthy (Value.ref _)) _ _ _); k_dflt (refine' truthy_list ?kl1 ?kl2 ?kl3 ?kl4 ?_; (case kl1 => k_asm); (case kl2 => k_mem); (case kl3 => assumption); (case kl4 => omega); k_whole)))

local macro_rules | `(tactic| ktr_rel) => `(tactic| first | (refine' Pick.base ?pb9; (case pb9 => ktr_rel)) | (refine' Pick.cons ?pm9 ?pr9; (case pm9 => k_mem); (case pr9 => ktr_rel)) | fail "pick")
local macro_rules | `(tactic| walk_at "call builtin:list.append") => `(tactic| (k_here; k_dflt (show wpAny _ _ (call (Value.builtin _) [Value.ref _, _]) _ _ _); k_dflt (refine' append_my ?ap1 ?ap2 ?ap3 ?ap4 ?ap5 ?_; (case ap1 => k_asm); (case ap2 => k_asm); (case ap3 => k_mem); (case ap4 => ktr_rel); (case ap5 => omega); k_whole); intro h' F' N'))
local macro_rules | `(tactic| walk_at "call builtin:list.reverse") => `(tactic| (k_here; k_dflt (show wpAny _ _ (call (Value.builtin _) [Value.ref _]) _ _ _); k_dflt (refine' reverse_my ?ap1 ?ap2 ?ap3 ?ap4 ?ap5 ?_; (case ap1 => k_asm); (case ap2 => k_asm); (case ap3 => k_mem); (case ap4 => ktr_rel); (case ap5 => omega); k_whole); intro h' F' N'))
local macro_rules | `(tactic| walk_at "binaryOp Add int int") => `(tactic| (k_here; (refine' add_eq ?e ?_; (case e => assumption); k_whole)))
local macro_rules | `(tactic| walk_at "compareOp Is") => `(tactic| (k_here; (with_reducible show wpAny _ _ (compareOp CmpOp.Is (Value.int _ _) (Value.ref _)) _ _ _); k_dflt (refine' wpAny_is_other ?io1 ?io2 ?_; (case io1 => with_unfolding_all rfl); (case io2 => (intro x; cases x)); k_whole)))
/-- an item of a list, told by what all items are -/
theorem item_any {prog : Program} {w : World} {A : Around} {E : Value → Shared → Prop} {s : Shared} {value slice : PySem.Expr} {h₀ : Heap} {L l : Addr} {news : List (Addr × Obj)} {vs : List Value} {ns : List Int} {k : Nat} {j : Int} {u : Tok} {Q : Value → Shared → Prop}
    (N : News h₀ L s.heap news) (hm : (l, PySem.W.listOf vs.toArray k) ∈ news) (hi : IntsAre vs ns) (hall : ∀ v ∈ ns, ∃ P : Nat, v = (P : Int) ∧ P ≤ 199) (h0 : -(ns.length : Int) ≤ j) (h1 : j < (ns.length : Int)) (hz : ns.length ≤ 1000000) (h : ∀ (P : Nat) t, P ≤ 199 → Q (.int (P : Int) t) s)
    (hs : subscripted slice false (.ref l) (.int j u) = operate [.ref l, .int j u] (getItem (.ref l) (.int j u)) := by with_unfolding_all rfl) :
    wpAny (model prog w) A (subscriptTail value slice (.ref l) (.int j u)) Q E s := by
  have hl : s.heap.IsList l vs.toArray := ⟨_, (N _ hm).1, rfl, k, rfl⟩
  have hlen := hi.length
  rcases Int.lt_or_le j 0 with hj | hj
  · have hx : (j + (ns.length : Int)).toNat < ns.length := by omega
    obtain ⟨t, ht⟩ := hi.get (j + (ns.length : Int)).toNat (ns[(j + (ns.length : Int)).toNat]'hx) (List.getElem?_eq_getElem hx)
    obtain ⟨P, e, hP⟩ := hall _ (List.getElem_mem hx)
    rw [e] at ht
    exact tail_any hl.typeIs slot_list_getitem.lookup (wpAny_getItem_list_neg hl hj (by rw [List.size_toArray]; omega) (by omega) (by rw [List.size_toArray, hlen]; simpa using ht) (h P t hP)) hs
  · have hx : j.toNat < ns.length := by omega
    obtain ⟨t, ht⟩ := hi.get j.toNat (ns[j.toNat]'hx) (List.getElem?_eq_getElem hx)
    obtain ⟨P, e, hP⟩ := hall _ (List.getElem_mem hx)
    rw [e] at ht
    exact tail_any hl.typeIs slot_list_getitem.lookup (wpAny_getItem_list hl hj (by omega) (by simpa using ht) (h P t hP)) hs
theorem units_ok {dp un : Nat} {gd : Option (List Code)} {cn : Str} {cs : Scope} {L a : Addr} {ccd : Value} {cl : List (Str × Addr)} {outer : List Env} (h : un + 64 < cLine) : (ktrTop dp un gd cn cs L a ccd cl outer).units + 64 < cLine := h
theorem par_even {p : Nat} (h : Int.fmod (p : Int) 2 = 0) : ((fib (p + 1) : Int) - fib p) * fib (p + 1) - (fib p : Int) * fib p = 1 := by
  rw [Int.fmod_eq_emod_of_nonneg _ (by decide)] at h
  rw [cassini, if_pos (by omega)]
theorem par_odd {p : Nat} (h : Int.fmod (p : Int) 2 ≠ 0) : ((fib (p + 1) : Int) - fib p) * fib (p + 1) - (fib p : Int) * fib p = 0 - 1 := by
  rw [Int.fmod_eq_emod_of_nonneg _ (by decide)] at h
  rw [cassini, if_neg (by omega)]
  rfl
section
local macro_rules | `(tactic| ke_room) => `(tactic| exact units_ok (by assumption))
local macro_rules | `(tactic| walk_at "call ref") => `(tactic| (k_here; k_dflt (refine' sub_spec ?cc1 ?cc2 ?cc3 ?cc4 ?cc5 ?cc6 ?cc7 ?_; (case cc1 => k_asm); (case cc2 => k_asm); (case cc3 => k_asm); (case cc4 => k_asm); (case cc5 => k_asm); (case cc6 => first | exact rfl | assumption); (case cc7 => omega)); intro h' tk' tkk' F' N'))
local macro_rules | `(tactic| walk_at "call ref") => `(tactic| (k_here; k_dflt (refine' mul_spec ?cc1 ?cc2 ?cc3 ?cc4 ?cc5 ?cc6 ?cc7 ?cc8 ?_; (case cc1 => k_asm); (case cc2 => k_asm); (case cc3 => k_asm); (case cc4 => k_asm); (case cc5 => k_asm); (case cc6 => first | exact rfl | assumption); (case cc7 => omega); (case cc8 => assumption)); intro h' tk' tkk' F' N'))
local macro_rules | `(tactic| walk_at "subscriptTail") => `(tactic| (k_here; k_dflt (refine' item_any ?im1 ?im2 ?im3 ?im4 ?im5 ?im6 ?im7 ?_; (case im1 => k_asm); (case im2 => k_mem); (case im3 => assumption); (case im4 => assumption); (case im5 => omega); (case im6 => omega); (case im7 => omega)); intro P' t' hP'))
local macro_rules | `(tactic| walk_at "execs cons") => `(tactic| (k_here; (with_reducible show wpAny _ _ (execs (Stmt.If (Expr.Compare (Expr.Call (Expr.Name (Str.ofString "_law_common") _) _ _ _) _ _ _) _ _ _ :: _) _) _ _ _); k_dflt (refine' mid_spec ?ta1 ?ta2 ?ta3 (Spl.news ?ta5 ?ta4) ?ta6 ?ta7 ?ta8 ?ta9 (Spl.nt ?ta5) ?taa ?tab ?tac ?tad ?_; (case ta1 => k_asm); (case ta2 => k_asm); (case ta3 => k_asm); (case ta4 => k_asm); (case ta5 => ktr_rel); (case ta6 => k_asm); (case ta7 => exact rfl); (case ta8 => omega); (case ta9 => assumption); (case taa => assumption); (case tab => exact List.forall_mem_cons.mpr ⟨rfl, List.forall_mem_cons.mpr ⟨rfl, List.forall_mem_cons.mpr ⟨rfl, List.forall_mem_cons.mpr ⟨rfl, List.forall_mem_nil _⟩⟩⟩⟩); (case tac => assumption); (case tad => assumption)); intro h' tk' tl' m' F' N' ht' pl'))
theorem turn_spec {w : World} {dp un : Nat} {gd : Option (List Code)} {cn : Str} {cs : Scope} {a : Addr} {ccd : Value} {outer : List Env}
    {A₀ : Around} {base h₀ : Heap} {L D : Addr} {m mg mb : Str → Option Value} {loose : List Str} {mean : ExcName → Option Value} {rest tl : List (Addr × Obj)} {s : Shared}
    {ys : List Value} {R : List Int} {i k : Nat} {t0 : Tok} {Q : Flow → Shared → Prop} {E : Value → Shared → Prop}
    (B : Below A₀ base outer h₀) (F : Fr h₀ L s.heap m) (X : (Mine.hd.heap_39 w.params).In h₀) (N : News h₀ L s.heap (rest ++ tl)) (T : Top topProg loose mean mg mb h₀) (hcs : lawScope = cs) (hdp : dp < 400) (hun : un + 64 < cLine) (hr : NT rest) (ht : TabsOk Ts tl)
    (hD : (D, PySem.W.listOf ys.toArray k) ∈ rest) (iR : IntsAre ys R) (lR : R.length ≤ 12) (bR : ∀ v ∈ R, ∃ P : Nat, v = (P : Int) ∧ P ≤ 199) (hin : i < R.length)
    (hps : ∀ y ∈ [(Str.ofString "k", Value.int (i : Int) t0), (Str.ofString "places", Value.ref D)], m y.1 = some y.2)
    (hret : ∀ h' tk' tl' m', Fr h₀ L h' m' → News h₀ L h' (rest ++ tl') → TabsOk Ts tl' → m' (Str.ofString "places") = some (Value.ref D) → Q .next { s with heap := h', toks := tk' }) :
    wpAny (model PySem.Challenge.rw_xi0012_02.row.prog w) (ktrTop dp un gd cn cs L a ccd [] outer) (execs turnBody (envX cn cs L a ccd [])) Q E s := by
  have hcs' := hcs
  change Scope.mk _ _ _ _ _ = cs at hcs'
  subst hcs'
  clear hcs
  change wpAny _ _ (execs (_ :: _ :: _ :: _ :: _ :: _ :: _ :: _ :: []) _) _ _ _
  replace F := kstB_fr F hps
  revert X; k_fill; intro X
  k_steps
  all_goals try dsimp only
  rename_i p t5 hp q t6 hq D5 hz1 l5 hz2 hz3 hz4 F5 N5
  have g1 : IntMulOk ((fib (p + 1) : Int) - (fib p : Int)) (fib (p + 1) : Int) := by
    have e : (fib (p + 1) : Int) - (fib p : Int) = ((fib (p + 1) - fib p : Nat) : Int) := by have := fib_ge (n := p); omega
    refine IntMulOk.of_le (m := 1000) (n := 1000) ?_ (fib_bits (by omega)) (by decide)
    rw [e]
    exact intBits_nat (Nat.lt_of_le_of_lt (Nat.sub_le _ _) (Nat.lt_of_lt_of_le (fib_lt (p + 1)).1 (Nat.pow_le_pow_right (by decide) (by omega))))
  have g2 : IntMulOk (fib p : Int) (fib p : Int) := IntMulOk.of_le (m := 1000) (n := 1000) (fib_bits (by omega)) (fib_bits (by omega)) (by decide)
  k_dflt (refine' doubled_spec (P := p) ?ra1 ?ra2 ?ra3 (Spl.news ?ra5 ?ra4) ?ra6 ?ra7 ?ra8 (Spl.nt ?ra5) ?ra9 rfl ?raa ?_; (case ra1 => k_asm); (case ra2 => k_asm); (case ra3 => k_asm); (case ra4 => k_asm); (case ra5 => ktr_rel); (case ra6 => k_asm); (case ra7 => exact rfl); (case ra8 => omega); (case ra9 => assumption); (case raa => omega))
  intro q1 h1 u1 v1 tk1 tl1 F1 N1 ht1
  k_steps
  all_goals try dsimp only
  k_dflt (refine' stepped_spec (P := p) ?rb1 ?rb2 ?rb3 (Spl.news ?rb5 ?rb4) ?rb6 ?rb7 ?rb8 (Spl.nt ?rb5) ?rb9 rfl ?rba ?_; (case rb1 => k_asm); (case rb2 => k_asm); (case rb3 => k_asm); (case rb4 => k_asm); (case rb5 => ktr_rel); (case rb6 => k_asm); (case rb7 => exact rfl); (case rb8 => omega); (case rb9 => assumption); (case rba => omega))
  intro q2 h2 u2 v2 tk2 tl2 F2 N2 ht2
  k_steps
  all_goals try dsimp only
  · exact absurd (par_even (by assumption)) (by assumption)
  · refine' hret _ _ _ _ ?nxa ?nxb ?nxe ?nxp
    case nxe => assumption
    case nxa => k_asm
    case nxp => (refine' Eq.trans ?nxq ?nxr; (case nxq => assumption); (case nxr => rfl))
    case nxb => (refine' Pick.news ?nxc ?nxd; (case nxd => k_asm); (case nxc => ktr_rel))
  · exact absurd (par_odd (by assumption)) (by assumption)
  · refine' hret _ _ _ _ ?nya ?nyb ?nye ?nyp
    case nye => assumption
    case nya => k_asm
    case nyp => (refine' Eq.trans ?nyq ?nyr; (case nyq => assumption); (case nyr => rfl))
    case nyb => (refine' Pick.news ?nyc ?nyd; (case nyd => k_asm); (case nyc => ktr_rel))
end
end
section


local macro_rules | `(tactic| ktr_rel) => `(tactic| first | refine' TailOf.base | (refine' TailOf.cons ?t9; (case t9 => ktr_rel)))
local macro_rules | `(tactic| ktr_rel) => `(tactic| first | ((with_reducible refine' Sel.hit ?s9); (case s9 => ktr_rel)) | (refine' Sel.keep ?ne ?s9; (case ne => first | k_ne | (refine' ne_kind ?x1 ?x2 ?x3 ?x4; (case x1 => k_asm); (case x2 => k_mem); (case x3 => k_mem); (case x4 => with_unfolding_all rfl)) | fail "ne"); (case s9 => ktr_rel)) | (refine' Sel.base ?b9; (case b9 => (refine' off_all ?n1 ?n2 ?n3 ?n4 ?n5 ?n6; (case n1 => assumption); (case n2 => assumption); (case n3 => ktr_rel); (case n4 => k_mem); (case n5 => first | exact rfl | assumption | (refine' tlk_cell ?n7; (case n7 => assumption))); (case n6 => (refine' ne_above ?n8 ?n9; (case n8 => assumption); (case n9 => omega)))))))
local macro_rules | `(tactic| walk_at "storeName") => `(tactic| (k_here; k_dflt (refine' store_cell ?F ?N ?c ?m ?d ?S ?_ ?a ?b; (case a => rfl); (case b => rfl); (case F => k_asm); (case N => k_asm); (case c => rfl); (case m => k_mem); (case d => k_asm); (case S => ktr_rel); k_whole; intro h' o' F' N' d'; (try dsimp only at N'); (try k_sweep))))
local macro_rules | `(tactic| ktr_rel) => `(tactic| first | (refine' Spl.base ?b9; (case b9 => assumption)) | (refine' Spl.keep ?ta ?s9; (case ta => (first | exact rfl | assumption | (refine' tabby_cell ?b8; (case b8 => assumption)) | (refine' tabby_of_tlk ?b8; (case b8 => assumption)) | (refine' tabby_code ?b8 ?b7; (case b8 => assumption); (case b7 => assumption)) | fail "ta")); (case s9 => ktr_rel)) | (refine' Spl.drop ?s9; (case s9 => ktr_rel)))
local macro_rules | `(tactic| ktr_rel) => `(tactic| first | refine' Suf.base | (refine' Suf.cons ?t9; (case t9 => ktr_rel)))
local macro_rules | `(tactic| walk_at "callWith ref") => `(tactic| (k_here; k_dflt (first
  | (refine' callWith_F ?k1 ?_; (case k1 => exact FnAt.of (by k_asm) (by k_mem)); k_whole)
  | (refine' callWith_F0 ?k1 ?_; (case k1 => exact FnAt.of (by k_asm) (by k_mem)); k_whole; try dsimp only [List.nil_append, List.cons_append]))))
local macro_rules | `(tactic| walk_at "eval Name") => `(tactic| (k_here; k_dflt (refine' nameX_F ?N ?c ?m ?d ?_ ?a ?b; (case a => rfl); (case b => rfl); (case N => k_asm); (case c => rfl); (case m => k_mem); (case d => k_asm); k_whole)))
local macro_rules | `(tactic| k_all) => `(tactic| assumption)
local macro_rules | `(tactic| k_mem) => `(tactic| first | ((with_reducible refine' memL ?_); assumption) | ((with_reducible refine' memR ?_); assumption) | ((with_reducible refine' memI ?_); ktr_member) | fail "k_mem")
local macro_rules | `(tactic| walk_at "binaryOp RShift int int") => `(tactic| (k_here; (refine' rshift_eq ?n ?e ?_; (case n => first | decide | assumption | exact Int.natCast_nonneg _); (case e => assumption); k_whole)))
local macro_rules | `(tactic| walk_at "binaryOp Mult int int") => `(tactic| (k_here; (refine' mul_eq ?e ?n ?_; (case e => assumption); (case n => assumption); k_whole)))
local macro_rules | `(tactic| walk_at "binaryOp LShift int int") => `(tactic| (k_here; (refine' lshift_eq ?e ?n ?m ?_; (case e => assumption); (case n => first | decide | assumption | exact Int.natCast_nonneg _); (case m => assumption); k_whole)))
local macro_rules | `(tactic| walk_at "binaryOp BitXor int int") => `(tactic| (k_here; (refine' xor_eq ?e ?_; (case e => assumption); k_whole)))

local macro_rules | `(tactic| walk_at "call builtin:len") => `(tactic| (k_here; (with_reducible show wpAny _ _ (call (Value.builtin "len") [Value.ref _]) _ _ _); k_dflt (refine' len_list' ?kl1 ?kl2 ?kl3 ?kl4 ?_; (case kl1 => k_asm); (case kl2 => k_mem); (case kl3 => assumption); (case kl4 => first | omega | ((try simp only [List.length_replicate]); omega)); k_whole); (try simp only [List.length_replicate])))
local macro_rules | `(tactic| walk_at "truthy ref") => `(tactic| (k_here; (with_reducible show wpAny _ _ (truthy (Value.ref _)) _ _ _); k_dflt (refine' truthy_list ?kl1 ?kl2 ?kl3 ?kl4 ?_; (case kl1 => k_asm); (case kl2 => k_mem); (case kl3 => assumption); (case kl4 => omega); k_whole)))

local macro_rules | `(tactic| ktr_rel) => `(tactic| first | (refine' Pick.base ?pb9; (case pb9 => ktr_rel)) | (refine' Pick.cons ?pm9 ?pr9; (case pm9 => k_mem); (case pr9 => ktr_rel)) | fail "pick")
local macro_rules | `(tactic| walk_at "call builtin:list.append") => `(tactic| (k_here; k_dflt (show wpAny _ _ (call (Value.builtin _) [Value.ref _, _]) _ _ _); k_dflt (refine' append_my ?ap1 ?ap2 ?ap3 ?ap4 ?ap5 ?_; (case ap1 => k_asm); (case ap2 => k_asm); (case ap3 => k_mem); (case ap4 => ktr_rel); (case ap5 => omega); k_whole); intro h' F' N'))
local macro_rules | `(tactic| walk_at "call builtin:list.reverse") => `(tactic| (k_here; k_dflt (show wpAny _ _ (call (Value.builtin _) [Value.ref _]) _ _ _); k_dflt (refine' reverse_my ?ap1 ?ap2 ?ap3 ?ap4 ?ap5 ?_; (case ap1 => k_asm); (case ap2 => k_asm); (case ap3 => k_mem); (case ap4 => ktr_rel); (case ap5 => omega); k_whole); intro h' F' N'))
local macro_rules | `(tactic| walk_at "binaryOp Add int int") => `(tactic| (k_here; (refine' add_eq ?e ?_; (case e => assumption); k_whole)))
local macro_rules | `(tactic| walk_at "compareOp Is") => `(tactic| (k_here; (with_reducible show wpAny _ _ (compareOp CmpOp.Is (Value.int _ _) (Value.ref _)) _ _ _); k_dflt (refine' wpAny_is_other ?io1 ?io2 ?_; (case io1 => with_unfolding_all rfl); (case io2 => (intro x; cases x)); k_whole)))
local macro_rules | `(tactic| walk_at "pyIter ref") => `(tactic| (k_here; refine' Hold.of ?_))
local macro_rules | `(tactic| ktr_rel) => `(tactic| (with_reducible exact TailOf.base0))
theorem law_up (cn : Str) (cs : Scope) (L a : Addr) (ccd : Value) : ∃ dp un gd, dp < 400 ∧ un + 64 < cLine ∧ callerA.deeper (envOf cn cs L a ccd) = ktrTop dp un gd cn cs L a ccd [] [] :=
  ⟨callerA.depth + 1, _, _, by decide, by decide +kernel, rfl⟩
theorem tabs0 : TabsOk Ts [(95, tabObj #[]), (37, tabObj #[]), (30, tabObj #[])] := by
  refine ⟨fun p hp => ?_, fun T hT => ?_⟩
  · simp only [List.mem_cons, List.not_mem_nil, or_false] at hp
    rcases hp with rfl | rfl | rfl <;> rfl
  · simp only [Ts, List.mem_cons, List.not_mem_nil, or_false] at hT
    rcases hT with rfl | rfl | rfl
    · exact ⟨#[], .tail _ (.tail _ (.head _)), .inl rfl⟩
    · exact ⟨#[], .tail _ (.head _), .inl rfl⟩
    · exact ⟨#[], .head _, .inl rfl⟩
theorem grown_my {h₀ h : Heap} {L : Addr} {news tl : List (Addr × Obj)} (N : News h₀ L h news) (ht : TabsOk Ts tl) (hs : TailOf tl news) : GrownAll [(99, 95), (41, 37), (34, 30)] h := by
  have H : ∀ T ∈ Ts, GrownAt T.P h := fun T hT => by
    obtain ⟨ps, hp, _⟩ := ht.2 T hT
    exact GrownAt.of N (hs.sub _ hp)
  exact ⟨H T3 (.tail _ (.tail _ (.head _))), H T2 (.tail _ (.head _)), H T1 (.head _), trivial⟩
theorem row_facts {ys : List Value} {ns : List Int} (h : IntsAre ys (List.map (fun k' : Int => Int.fmod k' 200) (ns.take 12))) :
    ∃ R, List.map (fun k' : Int => Int.fmod k' 200) (ns.take 12) = R ∧ IntsAre ys R ∧ R.length ≤ 12 ∧ ∀ v ∈ R, ∃ P : Nat, v = (P : Int) ∧ P ≤ 199 := by
  refine ⟨_, rfl, h, by rw [List.length_map, List.length_take]; omega, fun v hv => ?_⟩
  obtain ⟨k, _, rfl⟩ := List.mem_map.mp hv
  have h1 := Int.fmod_nonneg_of_pos k (show (0 : Int) < 200 by decide)
  have h2 := Int.fmod_lt_of_pos k (show (0 : Int) < 200 by decide)
  exact ⟨(Int.fmod k 200).toNat, by omega, by omega⟩
/-- the state of the law's loop -/
def LawJ (D : Addr) (ys : List Value) (_ : Nat) (m : Str → Option Value) (nx : List (Addr × Obj)) : Prop :=
  ∃ tl', nx = (D, PySem.W.listOf ys.toArray ys.length) :: tl' ∧ TabsOk Ts tl' ∧ ∀ y ∈ [(Str.ofString "places", Value.ref D)], m y.1 = some y.2
local macro_rules | `(tactic| walk_at "GrownAll") => `(tactic| (refine' grown_my ?gr1 ?gr2 ?gr3; (case gr1 => k_asm); (case gr2 => assumption); (case gr3 => ktr_rel)))
theorem law_holds : PySem.Challenge.rw_xi0012_02.Holds := Mine.hd (by
  k_go0
  (all_goals try k_fold)
  (rename CodeHd _ _ _ => c1; clear c1)
  (rename CodeHd _ _ _ => c1; clear c1)
  (rename CodeHd _ _ _ => c1; clear c1)
  obtain ⟨dp, un, gd, hdp, hun, eA⟩ := law_up _ _ _ _ _
  rw [eA]
  clear eA
  k_steps
  all_goals try dsimp only
  rename_i g9 hI8 hL8 D9 hz1 tz1 F9 N9 o1 hz3 tz3 t9 u9 v9 r9 F8 N8 k8
  obtain ⟨R, hR, iR, lR, bR⟩ := row_facts hI8
  rw [hR] at r9
  clear hI8 hL8 hR N9 F9
  have N7 := newsSub N8 (l' := (D9, PySem.W.listOf ys.toArray ys.length) :: [(95, tabObj #[]), (37, tabObj #[]), (30, tabObj #[])]) (fun p hp => by
    rcases List.mem_cons.mp hp with e | hp
    · (rw [e]; exact List.Mem.head _)
    · exact .tail _ (.tail _ hp))
  refine' Hold.go ?_
  refine loop_range (LawJ D9 ys) rfl r9 (small_one (by omega)) (rsize_one _) F8 N7 ⟨_, rfl, tabs0, List.forall_mem_cons.mpr ⟨rfl, List.forall_mem_nil _⟩⟩ ?turn ?done
  case turn =>
    intro i t0 m₁ news₁ h1 tk1 I itO hin ⟨tl1, e1, ht1, hps⟩ hI1 hoff hkI F1 N1
    subst e1
    rw [Int.zero_add] at F1
    have hpl := hps _ (.head _)
    k_dflt (refine' turn_spec (rest := [(I, itO), (D9, PySem.W.listOf ys.toArray ys.length)]) (tl := tl1) (R := R) (i := i) (t0 := t0) ?tu1 ?tu2 ?tu3 ?tu4 ?tu5 ?tu6 hdp hun (NT.cons (tabby_of_tlk hkI) (NT.cons rfl NT.nil)) ht1 (.tail _ (.head _)) iR lR bR hin ?tua ?_; (case tu1 => k_asm); (case tu2 => exact F1); (case tu3 => k_asm); (case tu4 => exact N1); (case tu5 => k_asm); (case tu6 => exact rfl); (case tua => exact List.forall_mem_cons.mpr ⟨rfl, List.forall_mem_cons.mpr ⟨hpl, List.forall_mem_nil _⟩⟩))
    intro h2 tk2 tl2 m2 F2 N2 ht2 pl2
    refine' TurnPost.next ?nta1 ?nta2 ?nta3 ?nta4
    case nta4 => exact ⟨tl2, rfl, ht2, List.forall_mem_cons.mpr ⟨pl2, List.forall_mem_nil _⟩⟩
    case nta1 => exact F2
    case nta2 => exact N2
    case nta3 =>
      refine' off_all (rest := [_]) ?ntam1 ht2 ?ntam2 ?ntam3 hkI (List.forall_mem_cons.mpr ⟨hoff _ (.head _), List.forall_mem_nil _⟩)
      case ntam1 => exact N2
      case ntam2 => ktr_rel
      case ntam3 => exact .head _
  case done =>
    intro h1 tk1 m1 nx1 ⟨tl1, e1, ht1, hps⟩ F1 N1
    subst e1
    k_steps)
end
end Mine
theorem PySem.Challenge.cw_xi0012_02_holds : PySem.Challenge.rw_xi0012_02.Holds :=
  Mine.law_holds
