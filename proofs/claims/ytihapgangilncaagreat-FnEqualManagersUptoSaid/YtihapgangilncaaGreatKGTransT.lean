/- Numbers by their value: whole numbers up to 2^53 and floating-point numbers compare as integers do (plain). The comparison of trees without NaN and without whole numbers beyond 2^53 is transitive (plain). -/
import Derived.Test.YtihapgangilncaaGreatKGCmpO
namespace Go.Proofs.YtihapgangilncaaGreat
open Ieee
set_option linter.unusedSimpArgs false

def dRk : Datum → Int
  | .infinity s => if s then -1 else 1
  | _ => 0
def dKey : Datum → Int
  | .number s m i => signed s m (i + 1074).toNat
  | _ => 0
def cmpD (d e : Datum) : Int := match d.order e with | some .lt => -1 | some .gt => 1 | _ => 0
theorem cmpF_D (a b : Nat) : cmpF a b = cmpD (double.read a) (double.read b) := rfl

theorem signed_add (s : Bool) (m a b : Nat) : signed s m (a + b) = signed s m a * 2 ^ b := by
  cases s <;> simp [signed, Nat.shiftLeft_eq, Nat.pow_add, Int.mul_assoc, Int.neg_mul]
theorem pow_pos' (b : Nat) : (0 : Int) < 2 ^ b := Int.pow_pos (by decide)
theorem cmpI_mul {a b c : Int} (hc : 0 < c) : cmpI (a * c) (b * c) = cmpI a b := by
  unfold cmpI
  by_cases h1 : a < b
  · rw [if_pos h1, if_pos (Int.mul_lt_mul_of_pos_right h1 hc)]
  · by_cases h2 : b < a
    · have h3 := Int.mul_lt_mul_of_pos_right h2 hc
      rw [if_neg h1, if_pos h2, if_neg (by omega), if_pos h3]
    · have : a = b := by omega
      subst this
      simp
theorem cmp_int (a b : Int) : (match some (compare a b) with | some .lt => (-1 : Int) | some .gt => 1 | _ => 0) = cmpI a b := by
  unfold cmpI
  simp only [compare, compareOfLessAndEq]
  by_cases h1 : a < b
  · simp [h1]
  · by_cases h2 : a = b
    · simp [h2]
    · have : b < a := by omega
      simp [h1, h2, this]

theorem read_place (x : Nat) : ∀ {s : Bool} {m : Nat} {i : Int}, double.read x = .number s m i → -1074 ≤ i := by
  intro s m i h
  have e : double.leastPlace = -1074 := by decide
  unfold Format.read at h
  simp only [e] at h
  split at h
  · cases h; omega
  · split at h
    · cases h; omega
    · split at h <;> cases h

theorem cmpD_key {d e : Datum} (hd : d.isNaN = false) (he : e.isNaN = false) (pd : ∀ {s m i}, d = .number s m i → -1074 ≤ i) (pe : ∀ {s m i}, e = .number s m i → -1074 ≤ i) :
    cmpD d e = if cmpI (dRk d) (dRk e) ≠ 0 then cmpI (dRk d) (dRk e) else cmpI (dKey d) (dKey e) := by
  cases d with
  | nan s f => cases hd
  | infinity s =>
    cases e with
    | nan t g => cases he
    | infinity t => cases s <;> cases t <;> rfl
    | number t n j => cases s <;> simp [cmpD, Datum.order, dRk, cmpI]
  | number s m i =>
    cases e with
    | nan t g => cases he
    | infinity t => cases t <;> simp [cmpD, Datum.order, dRk, cmpI]
    | number t n j =>
      have hi := pd rfl
      have hj := pe rfl
      have hb : -1074 ≤ min i j := by omega
      have e1 : (i + 1074).toNat = (i - min i j).toNat + (min i j + 1074).toNat := by omega
      have e2 : (j + 1074).toNat = (j - min i j).toNat + (min i j + 1074).toNat := by omega
      have e0 : cmpI (dRk (.number s m i)) (dRk (.number t n j)) = 0 := cmpI_self _
      rw [e0, if_neg (by simp)]
      simp only [dKey, e1, e2, signed_add]
      rw [cmpI_mul (pow_pos' _)]
      exact cmp_int _ _
theorem cmpF_key {a b : Nat} (ha : NoNan a) (hb : NoNan b) : cmpF a b = if cmpI (dRk (double.read a)) (dRk (double.read b)) ≠ 0 then cmpI (dRk (double.read a)) (dRk (double.read b)) else cmpI (dKey (double.read a)) (dKey (double.read b)) := by
  rw [cmpF_D]
  exact cmpD_key ha hb (fun h => read_place a h) (fun h => read_place b h)

theorem mid_read {B q k : Nat} (neg : Bool) (hB : 0 < B) (h1 : B ≤ q) (h2 : q < 2 * B) (hk : k ≤ 52) :
    (if (if neg = true then 2048 * B + min ((k + 1022) * B + q) (2047 * B) else min ((k + 1022) * B + q) (2047 * B)) % (2048 * B) < B then
        Datum.number ((if neg = true then 2048 * B + min ((k + 1022) * B + q) (2047 * B) else min ((k + 1022) * B + q) (2047 * B)) / (2048 * B) % 2 == 1) ((if neg = true then 2048 * B + min ((k + 1022) * B + q) (2047 * B) else min ((k + 1022) * B + q) (2047 * B)) % (2048 * B)) (-1074)
      else if (if neg = true then 2048 * B + min ((k + 1022) * B + q) (2047 * B) else min ((k + 1022) * B + q) (2047 * B)) % (2048 * B) < 2047 * B then
        Datum.number ((if neg = true then 2048 * B + min ((k + 1022) * B + q) (2047 * B) else min ((k + 1022) * B + q) (2047 * B)) / (2048 * B) % 2 == 1) (B + (if neg = true then 2048 * B + min ((k + 1022) * B + q) (2047 * B) else min ((k + 1022) * B + q) (2047 * B)) % (2048 * B) % B)
          (-1074 + (((if neg = true then 2048 * B + min ((k + 1022) * B + q) (2047 * B) else min ((k + 1022) * B + q) (2047 * B)) % (2048 * B) / B - 1 : Nat) : Int))
      else if (if neg = true then 2048 * B + min ((k + 1022) * B + q) (2047 * B) else min ((k + 1022) * B + q) (2047 * B)) % (2048 * B) = 2047 * B then
        Datum.infinity ((if neg = true then 2048 * B + min ((k + 1022) * B + q) (2047 * B) else min ((k + 1022) * B + q) (2047 * B)) / (2048 * B) % 2 == 1)
      else Datum.nan ((if neg = true then 2048 * B + min ((k + 1022) * B + q) (2047 * B) else min ((k + 1022) * B + q) (2047 * B)) / (2048 * B) % 2 == 1) ((if neg = true then 2048 * B + min ((k + 1022) * B + q) (2047 * B) else min ((k + 1022) * B + q) (2047 * B)) % (2048 * B) - 2047 * B)) =
      Datum.number neg q ((k : Int) - 52) := by
  obtain ⟨t, rfl⟩ : ∃ t, q = B + t := ⟨q - B, by omega⟩
  have ht : t < B := by omega
  have er : (k + 1022) * B + (B + t) = (k + 1023) * B + t := by rw [show k + 1023 = k + 1022 + 1 from rfl, Nat.add_mul (k + 1022) 1 B]; omega
  have hle : (k + 1023) * B ≤ 1075 * B := Nat.mul_le_mul_right B (by omega)
  have hge : 1 * B ≤ (k + 1023) * B := Nat.mul_le_mul_right B (by omega)
  have hmin : min ((k + 1022) * B + (B + t)) (2047 * B) = (k + 1023) * B + t := by rw [er]; exact Nat.min_eq_left (by omega)
  rw [hmin]
  obtain ⟨r, hr⟩ : ∃ r, (k + 1023) * B + t = r := ⟨_, rfl⟩
  have hdiv : r / B = k + 1023 := by
    rw [← hr, Nat.mul_comm, Nat.mul_add_div hB, Nat.div_eq_of_lt ht, Nat.add_zero]
  have hmod : r % B = t := by rw [← hr, Nat.mul_comm, Nat.mul_add_mod, Nat.mod_eq_of_lt ht]
  rw [hr]
  have hrlt : r < 2047 * B := by omega
  have hrge : ¬ r < B := by omega
  have hS : 0 < 2048 * B := by omega
  cases neg
  · simp only [Bool.false_eq_true, if_false]
    rw [Nat.mod_eq_of_lt (show r < 2048 * B by omega), Nat.div_eq_of_lt (show r < 2048 * B by omega), if_neg hrge, if_pos hrlt, hmod, hdiv]
    simp; omega
  · simp only [if_true]
    rw [Nat.add_mod_left, Nat.mod_eq_of_lt (show r < 2048 * B by omega), Nat.add_div_left _ hS, Nat.div_eq_of_lt (show r < 2048 * B by omega), if_neg hrge, if_pos hrlt, hmod, hdiv]
    simp; omega
theorem cut_zero (neg : Bool) (n : Nat) : Toward.even.cut neg n 0 = n := by
  simp [Toward.cut, Nat.mod_one]
theorem nearest_small (neg : Bool) {mag k : Nat} (h1 : 2 ^ k ≤ mag) (h2 : mag < 2 ^ (k + 1)) (hk : k ≤ 52) : double.read (double.nearest neg mag 0) = .number neg (mag * 2 ^ (52 - k)) ((k : Int) - 52) := by
  have hm0 : mag ≠ 0 := by have := Nat.two_pow_pos k; omega
  have hlog : mag.log2 = k := by
    have a1 := (Nat.le_log2 hm0).2 h1
    have a2 := (Nat.log2_lt hm0).2 h2
    omega
  have eL : double.leastPlace = -1074 := by decide
  have eB : double.binade = 4503599627370496 := by decide
  have eI : double.infRung = 2047 * 4503599627370496 := by decide
  have eS : double.signWeight = 2048 * 4503599627370496 := by decide
  have eF : (double.fractionBits : Int) = 52 := by decide
  have hlast : max ((0 : Int) + (mag.log2 : Int) - (double.fractionBits : Int)) double.leastPlace = (k : Int) - 52 := by rw [hlog, eL, eF]; omega
  have hq1 : 4503599627370496 ≤ mag * 2 ^ (52 - k) := by
    have := Nat.mul_le_mul_right (2 ^ (52 - k)) h1
    rw [← Nat.pow_add, show k + (52 - k) = 52 by omega] at this
    exact this
  have hq2 : mag * 2 ^ (52 - k) < 9007199254740992 := by
    have := Nat.mul_lt_mul_of_pos_right h2 (Nat.two_pow_pos (52 - k))
    rw [← Nat.pow_add, show k + 1 + (52 - k) = 53 by omega] at this
    exact this
  have hkept : Toward.even.cut neg (mag <<< ((0 : Int) - ((k : Int) - 52)).toNat) (((k : Int) - 52) - 0).toNat = mag * 2 ^ (52 - k) := by
    rw [show (((k : Int) - 52) - 0).toNat = 0 by omega, show ((0 : Int) - ((k : Int) - 52)).toNat = 52 - k by omega, cut_zero, Nat.shiftLeft_eq]
  unfold Format.nearest
  rw [if_neg hm0]
  simp only [hlast]
  simp only [hkept, eL, eB, eI]
  generalize mag * 2 ^ (52 - k) = q at *
  rw [show ((k : Int) - 52 - -1074).toNat = k + 1022 by omega]
  have hB : 0 < 4503599627370496 := by decide
  have hq2' : q < 2 * 4503599627370496 := hq2
  clear hlast hkept hlog hm0 h1 h2 hq2 eF
  unfold Format.read Format.word
  simp only [eS, eB, eI, eL]
  clear eS eB eI eL
  generalize 4503599627370496 = B at *
  exact mid_read neg hB hq1 hq2' hk
end Go.Proofs.YtihapgangilncaaGreat
namespace Go.Proofs.YtihapgangilncaaGreat
open Ieee
set_option linter.unusedSimpArgs false

theorem signed_eq (s : Bool) (m a : Nat) : signed s m a = (if s then -(m : Int) else m) * 2 ^ a := by
  cases s <;> simp [signed, Nat.shiftLeft_eq, Int.neg_mul]
theorem dKey_num (s : Bool) (m : Nat) (i : Int) : dKey (.number s m i) = signed s m (i + 1074).toNat := rfl
theorem toF_read0 : double.read (toF 0) = .number false 0 (-1074) := by kernel_rfl
theorem toF_readP : double.read (toF 9007199254740992) = .number false 4503599627370496 1 := by kernel_rfl
theorem toF_readN : double.read (toF (-9007199254740992)) = .number true 4503599627370496 1 := by kernel_rfl
theorem toF_key {n : Int} {E : Nat} (hE : E = 1074) (h1 : -9007199254740992 ≤ n) (h2 : n ≤ 9007199254740992) : dRk (double.read (toF n)) = 0 ∧ dKey (double.read (toF n)) = n * 2 ^ E := by
  by_cases h0 : n = 0
  · subst h0
    rw [toF_read0, dKey_num, signed_eq]
    refine ⟨rfl, ?_⟩
    rw [Int.zero_mul]
    exact Int.zero_mul _
  · have hm0 : n.natAbs ≠ 0 := by omega
    have a1 := Nat.log2_self_le hm0
    have a2 := Nat.lt_log2_self (n := n.natAbs)
    by_cases hk : n.natAbs.log2 ≤ 52
    · have e : toF n = double.nearest (n < 0) n.natAbs 0 := rfl
      rw [e, nearest_small (decide (n < 0)) a1 a2 hk]
      refine ⟨rfl, ?_⟩
      generalize n.natAbs.log2 = k at hk
      have e1 : ((k : Int) - 52 + 1074).toNat = k + 1022 := by omega
      have e3 : E = (52 - k) + (k + 1022) := by
        rw [hE]
        omega
      have e2 : (2 : Int) ^ E = 2 ^ (52 - k) * 2 ^ (k + 1022) := (congrArg (fun x : Nat => (2 : Int) ^ x) e3).trans (Int.pow_add _ _ _)
      rw [dKey_num, e1, signed_eq, e2, ← Int.mul_assoc]
      congr 1
      rw [Int.natCast_mul, Int.natCast_pow]
      by_cases hn : n < 0
      · simp only [hn, decide_true, if_true]
        rw [← Int.neg_mul]
        congr 1
        omega
      · simp only [hn, decide_false, Bool.false_eq_true, if_false]
        congr 1
        omega
    · have hk53 : n.natAbs = 9007199254740992 := by
        have : 2 ^ 53 ≤ 2 ^ n.natAbs.log2 := Nat.pow_le_pow_right (by decide) (by omega)
        have e53 : (2 : Nat) ^ 53 = 9007199254740992 := by decide
        omega
      have e1 : ((1 : Int) + 1074).toNat = E + 1 := by omega
      rcases Int.natAbs_eq n with hn | hn <;> rw [hk53] at hn
      · have hn' : n = 9007199254740992 := by omega
        rw [hn', toF_readP, dKey_num, e1, signed_eq, Int.pow_succ, Int.mul_comm (2 ^ E) 2, ← Int.mul_assoc]
        exact ⟨rfl, rfl⟩
      · have hn' : n = -9007199254740992 := by omega
        rw [hn', toF_readN, dKey_num, e1, signed_eq, Int.pow_succ, Int.mul_comm (2 ^ E) 2, ← Int.mul_assoc]
        exact ⟨rfl, rfl⟩

/-- what three comparisons, of a with b, of b with c and of a with c, must be -/
def tr (x y z : Int) : Prop := (x ≤ 0 → y ≤ 0 → z ≤ 0) ∧ (x < 0 → y ≤ 0 → z < 0) ∧ (x ≤ 0 → y < 0 → z < 0)
theorem tr_zero : tr 0 0 0 := ⟨fun _ _ => by omega, fun h => by omega, fun _ h => by omega⟩
theorem tr_lex {x1 x2 y1 y2 z1 z2 : Int} (h1 : tr x1 y1 z1) (h2 : x1 = 0 → y1 = 0 → z1 = 0 → tr x2 y2 z2) :
    tr (if x1 ≠ 0 then x1 else x2) (if y1 ≠ 0 then y1 else y2) (if z1 ≠ 0 then z1 else z2) := by
  obtain ⟨a1, a2, a3⟩ := h1
  by_cases hx : x1 = 0 <;> by_cases hy : y1 = 0 <;> by_cases hz : z1 = 0 <;> simp only [hx, hy, hz, ne_eq, not_true_eq_false, not_false_eq_true, if_true, if_false]
  · exact h2 hx hy hz
  all_goals (subst_vars; refine ⟨fun _ _ => ?_, fun _ _ => ?_, fun _ _ => ?_⟩ <;> omega)
theorem tr_I (a b c : Int) : tr (cmpI a b) (cmpI b c) (cmpI a c) := by
  unfold cmpI
  refine ⟨?_, ?_, ?_⟩ <;> (repeat' split) <;> omega
theorem tr_B : ∀ x y z : List UInt8, tr (cmpB x y) (cmpB y z) (cmpB x z)
  | [], [], [] => by simp only [cmpB]; exact tr_zero
  | [], [], _ :: _ => by simp only [cmpB]; exact ⟨fun _ _ => by omega, fun h => by omega, fun _ _ => by omega⟩
  | [], _ :: _, [] => by simp only [cmpB]; exact ⟨fun _ _ => by omega, fun _ h => by omega, fun _ h => by omega⟩
  | [], _ :: _, _ :: _ => by simp only [cmpB]; exact ⟨fun _ _ => by omega, fun _ _ => by omega, fun _ _ => by omega⟩
  | _ :: _, [], [] => by simp only [cmpB]; exact ⟨fun h => by omega, fun h => by omega, fun h => by omega⟩
  | _ :: _, [], _ :: _ => by simp only [cmpB]; exact ⟨fun h => by omega, fun h => by omega, fun h => by omega⟩
  | _ :: _, _ :: _, [] => by simp only [cmpB]; exact ⟨fun _ h => by omega, fun _ h => by omega, fun _ h => by omega⟩
  | a :: x, b :: y, c :: z => by
    have e : ∀ (a b : UInt8) (x y : List UInt8), cmpB (a :: x) (b :: y) = if cmpI a.toNat b.toNat ≠ 0 then cmpI a.toNat b.toNat else cmpB x y := fun a b x y => by
      simp only [cmpB]
      by_cases h : a = b
      · subst h; simp [cmpI_self]
      · have : cmpI a.toNat b.toNat ≠ 0 := fun h0 => h (by
          have := cmpI_zero.1 h0
          exact UInt8.toNat_inj.1 (by omega))
        rw [if_neg h, if_pos this]
    rw [e, e, e]
    exact tr_lex (tr_I _ _ _) (fun _ _ _ => tr_B x y z)
theorem tr_S (a b c : ByteArray) : tr (cmpS a b) (cmpS b c) (cmpS a c) := tr_B _ _ _
theorem tr_E {r : T → T → Int} : ∀ {P Q S : EntsOfT T}, (∀ p ∈ P, ∀ q ∈ Q, ∀ s ∈ S, tr (r p.2 q.2) (r q.2 s.2) (r p.2 s.2)) → tr (cmpE r P Q) (cmpE r Q S) (cmpE r P S)
  | [], [], [], _ => by simp only [cmpE]; exact tr_zero
  | [], [], _ :: _, _ => by simp only [cmpE]; exact ⟨fun _ _ => by omega, fun h => by omega, fun _ _ => by omega⟩
  | [], _ :: _, [], _ => by simp only [cmpE]; exact ⟨fun _ _ => by omega, fun _ h => by omega, fun _ h => by omega⟩
  | [], _ :: _, _ :: _, _ => by simp only [cmpE]; exact ⟨fun _ _ => by omega, fun _ _ => by omega, fun _ _ => by omega⟩
  | _ :: _, [], [], _ => by simp only [cmpE]; exact ⟨fun h => by omega, fun h => by omega, fun h => by omega⟩
  | _ :: _, [], _ :: _, _ => by simp only [cmpE]; exact ⟨fun h => by omega, fun h => by omega, fun h => by omega⟩
  | _ :: _, _ :: _, [], _ => by simp only [cmpE]; exact ⟨fun _ h => by omega, fun _ h => by omega, fun _ h => by omega⟩
  | p :: P, q :: Q, s :: S, h => by
    simp only [cmpE]
    refine tr_lex (tr_S _ _ _) (fun _ _ _ => tr_lex (h p (by simp) q (by simp) s (by simp)) (fun _ _ _ => ?_))
    exact tr_E fun p hp q hq s hs => h p (by simp [hp]) q (by simp [hq]) s (by simp [hs])
theorem tr_Ts : ∀ {P Q S : List T}, (∀ p ∈ P, ∀ q ∈ Q, ∀ s ∈ S, tr (cmpT p q) (cmpT q s) (cmpT p s)) → tr (cmpTs P Q) (cmpTs Q S) (cmpTs P S)
  | [], [], [], _ => by simp only [cmpTs]; exact tr_zero
  | [], [], _ :: _, _ => by simp only [cmpTs]; exact ⟨fun _ _ => by omega, fun h => by omega, fun _ _ => by omega⟩
  | [], _ :: _, [], _ => by simp only [cmpTs]; exact ⟨fun _ _ => by omega, fun _ h => by omega, fun _ h => by omega⟩
  | [], _ :: _, _ :: _, _ => by simp only [cmpTs]; exact ⟨fun _ _ => by omega, fun _ _ => by omega, fun _ _ => by omega⟩
  | _ :: _, [], [], _ => by simp only [cmpTs]; exact ⟨fun h => by omega, fun h => by omega, fun h => by omega⟩
  | _ :: _, [], _ :: _, _ => by simp only [cmpTs]; exact ⟨fun h => by omega, fun h => by omega, fun h => by omega⟩
  | _ :: _, _ :: _, [], _ => by simp only [cmpTs]; exact ⟨fun _ h => by omega, fun _ h => by omega, fun _ h => by omega⟩
  | p :: P, q :: Q, s :: S, h => by
    simp only [cmpTs]
    refine tr_lex (h p (by simp) q (by simp) s (by simp)) (fun _ _ _ => ?_)
    exact tr_Ts fun p hp q hq s hs => h p (by simp [hp]) q (by simp [hq]) s (by simp [hs])

/-- trees without NaN and without whole numbers beyond 2^53 -/
inductive GoodT : T → Prop
  | null : GoodT .null
  | bool (b : Bool) : GoodT (.bool b)
  | int {n : Int} (h1 : -9007199254740992 ≤ n) (h2 : n ≤ 9007199254740992) : GoodT (.int n)
  | float {f : Nat} (h : NoNan f) : GoodT (.float f)
  | str (s : ByteArray) : GoodT (.str s)
  | list {l : List T} (h : ∀ i (h : i < l.length), GoodT l[i]) : GoodT (.list l)
  | map {ks : List ByteArray} {l : List T} (h : ∀ i (h : i < l.length), GoodT l[i]) : GoodT (.map ks l)

/-- a number's place: of which infinity, if of one, and how many units -/
def nRk : T → Int
  | .float f => dRk (double.read f)
  | _ => 0
def nKey (E : Nat) : T → Int
  | .float f => dKey (double.read f)
  | .int n => n * 2 ^ E
  | _ => 0
theorem num_key {E : Nat} (hE : E = 1074) {a b : T} (ha : GoodT a) (hb : GoodT b) (ra : a.rk = 0) (rb : b.rk = 0) : cmpT a b = if cmpI (nRk a) (nRk b) ≠ 0 then cmpI (nRk a) (nRk b) else cmpI (nKey E a) (nKey E b) := by
  cases ha with
  | int h1 h2 =>
    cases hb with
    | int h3 h4 =>
      rw [cmpT_int]
      simp only [nRk, nKey, cmpI_self, ne_eq, not_true_eq_false, if_false]
      rw [cmpI_mul (pow_pos' _)]
    | float h3 =>
      have hk := toF_key hE h1 h2
      rw [cmpT_if, cmpF_key (noNan_toF _) h3, hk.1, hk.2]
      rfl
    | _ => simp [T.rk] at rb
  | float h1 =>
    cases hb with
    | int h3 h4 =>
      have hk := toF_key hE h3 h4
      rw [cmpT_fi, cmpF_key h1 (noNan_toF _), hk.1, hk.2]
      rfl
    | float h3 =>
      rw [cmpT_ff, cmpF_key h1 h3]
      rfl
    | _ => simp [T.rk] at rb
  | _ => simp [T.rk] at ra

theorem cmpT_split (a b : T) : cmpT a b = if cmpI a.rk b.rk ≠ 0 then cmpI a.rk b.rk else cmpT a b := by
  by_cases h : a.rk = b.rk
  · rw [h, cmpI_self]; simp
  · rw [if_pos (fun h0 => h (cmpI_zero.1 h0)), cmpT_rk h]

theorem tr_split {a b c : T} (h : a.rk = b.rk → b.rk = c.rk → tr (cmpT a b) (cmpT b c) (cmpT a c)) : tr (cmpT a b) (cmpT b c) (cmpT a c) := by
  have := tr_lex (tr_I a.rk b.rk c.rk) (x2 := cmpT a b) (y2 := cmpT b c) (z2 := cmpT a c) (fun h1 h2 _ => h (cmpI_zero.1 h1) (cmpI_zero.1 h2))
  rwa [← cmpT_split, ← cmpT_split, ← cmpT_split] at this
theorem tr_num {a b c : T} (ha : GoodT a) (hb : GoodT b) (hc : GoodT c) (ra : a.rk = 0) (rb : b.rk = 0) (rc : c.rk = 0) : tr (cmpT a b) (cmpT b c) (cmpT a c) := by
  obtain ⟨E, hE⟩ : ∃ E, E = 1074 := ⟨_, rfl⟩
  rw [num_key hE ha hb ra rb, num_key hE hb hc rb rc, num_key hE ha hc ra rc]
  exact tr_lex (tr_I _ _ _) (fun _ _ _ => tr_I _ _ _)
theorem good_ents {ks : List ByteArray} {l : List T} (h : ∀ i (h : i < l.length), GoodT l[i]) : ∀ p ∈ insAll [] (ks.zip l), GoodT p.2 ∧ p.2 ∈ l := fun p hp => by
  have hm := (List.of_mem_zip (insAll_sub hp)).2
  obtain ⟨i, hi, e⟩ := List.getElem_of_mem hm
  exact ⟨e ▸ h i hi, hm⟩

theorem tr_T : ∀ {a b c : T}, GoodT a → GoodT b → GoodT c → tr (cmpT a b) (cmpT b c) (cmpT a c) := by
  intro a
  induction a using T.ind with
  | null =>
    intro b c _ hb hc
    refine tr_split fun h1 h2 => ?_
    cases hb <;> simp [T.rk] at h1
    cases hc <;> simp [T.rk] at h2
    rw [cmpT_null]; exact tr_zero
  | bool x =>
    intro b c _ hb hc
    refine tr_split fun h1 h2 => ?_
    cases hb <;> simp [T.rk] at h1
    cases hc <;> simp [T.rk] at h2
    rename_i y z
    simp only [cmpT_bool]
    cases x <;> cases y <;> cases z <;> simp [tr]
  | int n =>
    intro b c ha hb hc
    refine tr_split fun h1 h2 => ?_
    have ra : T.rk (.int n) = 0 := rfl
    exact tr_num ha hb hc ra (h1.symm.trans ra) (h2.symm.trans (h1.symm.trans ra))
  | float n =>
    intro b c ha hb hc
    refine tr_split fun h1 h2 => ?_
    have ra : T.rk (.float n) = 0 := rfl
    exact tr_num ha hb hc ra (h1.symm.trans ra) (h2.symm.trans (h1.symm.trans ra))
  | str x =>
    intro b c _ hb hc
    refine tr_split fun h1 h2 => ?_
    cases hb <;> simp [T.rk] at h1
    cases hc <;> simp [T.rk] at h2
    simp only [cmpT_str]
    exact tr_S _ _ _
  | list l ih =>
    intro b c ha hb hc
    refine tr_split fun h1 h2 => ?_
    cases hb <;> simp [T.rk] at h1
    cases hc <;> simp [T.rk] at h2
    rename_i m hm n hn
    cases ha with
    | list hl =>
      simp only [cmpT_list]
      refine tr_Ts fun p hp q hq s hs => ?_
      obtain ⟨i, hi, rfl⟩ := List.getElem_of_mem hp
      obtain ⟨j, hj, rfl⟩ := List.getElem_of_mem hq
      obtain ⟨k, hk, rfl⟩ := List.getElem_of_mem hs
      exact ih i hi (hl i hi) (hm j hj) (hn k hk)
  | map ks l ih =>
    intro b c ha hb hc
    refine tr_split fun h1 h2 => ?_
    cases hb <;> simp [T.rk] at h1
    cases hc <;> simp [T.rk] at h2
    rename_i js m hm is n hn
    cases ha with
    | map hl =>
      simp only [cmpT_map]
      refine tr_E fun p hp q hq s hs => ?_
      obtain ⟨g1, k1⟩ := good_ents hl p hp
      obtain ⟨g2, -⟩ := good_ents hm q hq
      obtain ⟨g3, -⟩ := good_ents hn s hs
      obtain ⟨i, hi, e⟩ := List.getElem_of_mem k1
      have := ih i hi (b := q.2) (c := s.2)
      rw [e] at this
      exact this g1 g2 g3
end Go.Proofs.YtihapgangilncaaGreat
