import PyProof.Rows.All
import Wide.All
import OpenK.AllK
import Wide.FinOn
import Lean
import PySem.Challenge.RW_sn0122_01
set_option Elab.async false
set_option maxRecDepth 100000
namespace Mine

section
open PySem PySem.W PyProof.Rows
set_option maxHeartbeats 8000000
open_top hd for PySem.Challenge.rw_sn0122_01
end

section
open PySem PySem.W PyProof.Rows
open PySem.Float64

theorem log2_shift (n a : Nat) (h : n ≠ 0) : (n * 2 ^ a).log2 = n.log2 + a := by
  have hp : 0 < 2 ^ a := Nat.two_pow_pos a
  have h1 : n * 2 ^ a ≠ 0 := Nat.mul_ne_zero h (by omega)
  rw [Nat.log2_eq_iff h1]
  have h2 := Nat.log2_self_le h
  have h3 := @Nat.lt_log2_self n
  constructor
  · rw [Nat.pow_add]; exact Nat.mul_le_mul_right _ h2
  · rw [show n.log2 + a + 1 = (n.log2 + 1) + a from by omega, Nat.pow_add]; exact Nat.mul_lt_mul_of_pos_right h3 hp

theorem halfEven_whole (q d : Nat) (hd : 0 < d) : halfEven (q * d) d = q := by
  unfold halfEven
  simp only [Nat.mul_div_cancel _ hd, Nat.mul_mod_left]
  have : ¬ (0 = d) := by omega
  simp [this]

theorem halfEven_scale (c n d : Nat) (hc : 0 < c) : halfEven (c * n) (c * d) = halfEven n d := by
  unfold halfEven
  simp only [Nat.mul_div_mul_left _ _ hc, Nat.mul_mod_mul_left]
  have e1 : decide (2 * (c * (n % d)) > c * d) = decide (2 * (n % d) > d) := by
    apply decide_eq_decide.mpr
    rw [show 2 * (c * (n % d)) = c * (2 * (n % d)) from by ac_rfl]
    exact Nat.mul_lt_mul_left hc
  have e2 : (2 * (c * (n % d)) == c * d) = (2 * (n % d) == d) := by
    rw [show 2 * (c * (n % d)) = c * (2 * (n % d)) from by ac_rfl, Bool.eq_iff_iff]
    simp only [beq_iff_eq]
    exact Nat.mul_right_inj (by omega)
  rw [e1, e2]

theorem halfEven_ratio (n d n' d' : Nat) (hd : 0 < d) (hd' : 0 < d') (h : n * d' = n' * d) : halfEven n d = halfEven n' d' := by
  rw [← halfEven_scale d' n d hd', ← halfEven_scale d n' d' hd, Nat.mul_comm d' n, h, Nat.mul_comm n' d, Nat.mul_comm d' d]

/-- a whole number below 2^53, times a power of two, is rounded to itself -/
theorem roundMag_pow (n a b : Nat) (h0 : n ≠ 0) (hn : n < 2 ^ 53) (ha : a ≤ 900) (hb : b ≤ 900) :
    roundMag (n * 2 ^ a) (2 ^ b) = (n.log2 + a + 1022 - b) * 2 ^ 52 + n * 2 ^ (52 - n.log2) := by
  have hL : n.log2 < 53 := (Nat.log2_lt h0).mpr hn
  have hl1 := Nat.log2_self_le h0
  have hl2 := @Nat.lt_log2_self n
  have hna : n * 2 ^ a ≠ 0 := Nat.mul_ne_zero h0 (Nat.ne_of_gt (Nat.two_pow_pos a))
  have hl : (((n * 2 ^ a).log2 : Nat) : Int) - (((2 ^ b).log2 : Nat) : Int) = (n.log2 : Int) + a - b := by
    rw [log2_shift n a h0, Nat.log2_two_pow]; omega
  have hm1 : n * 2 ^ (52 - n.log2) < 2 ^ 53 := by
    have : n * 2 ^ (52 - n.log2) < 2 ^ (n.log2 + 1) * 2 ^ (52 - n.log2) := Nat.mul_lt_mul_of_pos_right hl2 (Nat.two_pow_pos _)
    rw [← Nat.pow_add, show n.log2 + 1 + (52 - n.log2) = 53 from by omega] at this
    exact this
  unfold roundMag
  simp only [beq_iff_eq, hna, if_false, hl]
  -- the first shift: n * 2^a against 2^b at their own place
  have hge : (shift (n * 2 ^ a) (2 ^ b) (-((n.log2 : Int) + a - b))).1 ≥ (shift (n * 2 ^ a) (2 ^ b) (-((n.log2 : Int) + a - b))).2 := by
    unfold shift
    split
    · rename_i h
      have e : (n * 2 ^ a) * 2 ^ (-((n.log2 : Int) + a - b)).toNat = n * 2 ^ (a + (-((n.log2 : Int) + a - b)).toNat) := by rw [Nat.pow_add]; ac_rfl
      have e2 : a + (-((n.log2 : Int) + a - b)).toNat + n.log2 = b := by omega
      show _ ≥ 2 ^ b
      have e3 : 2 ^ b = 2 ^ n.log2 * 2 ^ (a + (-((n.log2 : Int) + a - b)).toNat) := by rw [← Nat.pow_add]; congr 1; omega
      simp only [e]
      rw [e3]
      exact Nat.mul_le_mul_right _ hl1
    · rename_i h
      show n * 2 ^ a ≥ 2 ^ b * 2 ^ (- -((n.log2 : Int) + a - b)).toNat
      rw [← Nat.pow_add, show b + (- -((n.log2 : Int) + a - b)).toNat = n.log2 + a from by omega, Nat.pow_add]
      exact Nat.mul_le_mul_right _ hl1
  simp only [hge, if_true]
  have hmax : max ((n.log2 : Int) + a - b - 52) (-1074) = (n.log2 : Int) + a - b - 52 := by omega
  rw [hmax]
  have hq : halfEven (shift (n * 2 ^ a) (2 ^ b) (-((n.log2 : Int) + a - b - 52))).1 (shift (n * 2 ^ a) (2 ^ b) (-((n.log2 : Int) + a - b - 52))).2 = n * 2 ^ (52 - n.log2) := by
    unfold shift
    split
    · rename_i h
      show halfEven (n * 2 ^ a * 2 ^ (-((n.log2 : Int) + a - b - 52)).toNat) (2 ^ b) = _
      have e : n * 2 ^ a * 2 ^ (-((n.log2 : Int) + a - b - 52)).toNat = n * 2 ^ (52 - n.log2) * 2 ^ b := by
        rw [Nat.mul_assoc, ← Nat.pow_add, Nat.mul_assoc, ← Nat.pow_add, show a + (-((n.log2 : Int) + a - b - 52)).toNat = 52 - n.log2 + b from by omega]
      rw [e, halfEven_whole _ _ (Nat.two_pow_pos b)]
    · rename_i h
      show halfEven (n * 2 ^ a) (2 ^ b * 2 ^ (- -((n.log2 : Int) + a - b - 52)).toNat) = _
      have e : n * 2 ^ a = n * 2 ^ (52 - n.log2) * (2 ^ b * 2 ^ (- -((n.log2 : Int) + a - b - 52)).toNat) := by
        rw [← Nat.pow_add, Nat.mul_assoc, ← Nat.pow_add, show 52 - n.log2 + (b + (- -((n.log2 : Int) + a - b - 52)).toNat) = a from by omega]
      rw [e, halfEven_whole _ _ (Nat.mul_pos (Nat.two_pow_pos _) (Nat.two_pow_pos _))]
  rw [hq, show ((n.log2 : Int) + a - b - 52 + 1074).toNat = n.log2 + a + 1022 - b from by omega]
  refine Nat.min_eq_right ?_
  rw [show infMag = 2047 * 2 ^ 52 from rfl]
  generalize n * 2 ^ (52 - n.log2) = M at *
  have hx : n.log2 + a + 1022 - b ≤ 1974 := by omega
  generalize n.log2 + a + 1022 - b = X at *
  omega

/-- the double z / 2^(10 j) -/
def fl (z : Int) (j : Nat) : UInt64 := ofFrac (decide (z < 0)) z.natAbs (2 ^ (10 * j))

theorem exp_cast (L a b : Nat) (hb : b ≤ 900) : ((L + a + 1022 - b + 1 : Nat) : Int) - 1075 = (L : Int) + a - 52 - b := by omega

theorem decode_exact (s : Bool) (n a b : Nat) (h0 : n ≠ 0) (hn : n < 2 ^ 53) (ha : a ≤ 900) (hb : b ≤ 900) :
    decode (ofFrac s (n * 2 ^ a) (2 ^ b)) = .fin s (n * 2 ^ (52 - n.log2)) ((n.log2 : Int) + a - 52 - b) := by
  have hL : n.log2 < 53 := (Nat.log2_lt h0).mpr hn
  have hl1 := Nat.log2_self_le h0
  have hl2 := @Nat.lt_log2_self n
  have hm1 : n * 2 ^ (52 - n.log2) < 2 ^ 53 := by
    have : n * 2 ^ (52 - n.log2) < 2 ^ (n.log2 + 1) * 2 ^ (52 - n.log2) := Nat.mul_lt_mul_of_pos_right hl2 (Nat.two_pow_pos _)
    rw [← Nat.pow_add, show n.log2 + 1 + (52 - n.log2) = 53 from by omega] at this
    exact this
  have hm0 : 2 ^ 52 ≤ n * 2 ^ (52 - n.log2) := by
    have : 2 ^ n.log2 * 2 ^ (52 - n.log2) ≤ n * 2 ^ (52 - n.log2) := Nat.mul_le_mul_right _ hl1
    rw [← Nat.pow_add, show n.log2 + (52 - n.log2) = 52 from by omega] at this
    exact this
  unfold ofFrac
  rw [roundMag_pow n a b h0 hn ha hb]
  generalize hM : n * 2 ^ (52 - n.log2) = M at *
  have hk1 : n.log2 + a + 1022 - b < 2046 := by omega
  have hk0 : 0 < n.log2 + a + 1022 - b := by omega
  have hlt : (n.log2 + a + 1022 - b) * 2 ^ 52 + M < 2 ^ 63 := by omega
  have hN := pack_toNat s hlt
  generalize hT : (n.log2 + a + 1022 - b) * 2 ^ 52 + M = T at *
  have e1 : (pack s T).toNat / 2 ^ 63 = if s then 1 else 0 := by rw [hN]; cases s <;> simp <;> omega
  have e2 : (pack s T).toNat / 2 ^ 52 % 2048 = n.log2 + a + 1022 - b + 1 := by rw [hN]; cases s <;> simp <;> omega
  have e3 : (pack s T).toNat % 2 ^ 52 = M - 2 ^ 52 := by rw [hN]; cases s <;> simp <;> omega
  have e4 : ((pack s T).toNat / 2 ^ 63 == 1) = s := by rw [e1]; cases s <;> rfl
  unfold decode
  simp only [e4, e2, e3]
  have n1 : (n.log2 + a + 1022 - b + 1 == 2047) = false := by simp; omega
  have n2 : (n.log2 + a + 1022 - b + 1 == 0) = false := by simp
  rw [n1, n2]
  simp only [Bool.false_eq_true, if_false]
  have g1 : 2 ^ 52 + (M - 2 ^ 52) = M := Nat.add_sub_cancel' hm0
  rw [g1, exp_cast n.log2 a b hb]

theorem decode_fl (z : Int) (j : Nat) (h0 : z ≠ 0) (hz : z.natAbs < 2 ^ 53) (hj : j ≤ 90) :
    decode (fl z j) = .fin (decide (z < 0)) (z.natAbs * 2 ^ (52 - z.natAbs.log2)) ((z.natAbs.log2 : Int) - 52 - (10 * j : Nat)) := by
  have := decode_exact (decide (z < 0)) z.natAbs 0 (10 * j) (by omega) hz (by omega) (by omega)
  simp only [Nat.pow_zero, Nat.mul_one] at this
  unfold fl
  rw [this]
  simp

theorem decode_1024 : decode (ofInt 1024) = .fin false (2 ^ 52) (-42) := by
  have h : ofInt 1024 = ofFrac false (1 * 2 ^ 10) (2 ^ 0) := by decide +kernel
  rw [h, decode_exact false 1 10 0 (by decide) (by decide) (by decide) (by decide)]
  have e : Nat.log2 1 = 0 := by decide +kernel
  rw [e]
  rfl

theorem div_fl (z : Int) (j : Nat) (h0 : z ≠ 0) (hz : z.natAbs < 2 ^ 53) (hj : j ≤ 10) : Float64.div (fl z j) (ofInt 1024) = fl z (j + 1) := by
  have hL : z.natAbs.log2 < 53 := (Nat.log2_lt (by omega)).mpr hz
  unfold Float64.div
  rw [decode_fl z j h0 hz (by omega), decode_1024]
  simp only
  rw [if_neg (by decide)]
  unfold fl
  have e : (decide (z < 0) != false) = decide (z < 0) := by simp
  rw [e]
  unfold ofFrac
  congr 1
  have r : roundMag z.natAbs (2 ^ (10 * (j + 1))) = (z.natAbs.log2 + 1022 - 10 * (j + 1)) * 2 ^ 52 + z.natAbs * 2 ^ (52 - z.natAbs.log2) := by
    have := roundMag_pow z.natAbs 0 (10 * (j + 1)) (by omega) hz (by omega) (by omega)
    simpa using this
  rw [r]
  unfold shift
  split
  · rename_i h
    rw [show z.natAbs * 2 ^ (52 - z.natAbs.log2) * 2 ^ ((z.natAbs.log2 : Int) - 52 - (10 * j : Nat) - -42).toNat = z.natAbs * 2 ^ ((52 - z.natAbs.log2) + ((z.natAbs.log2 : Int) - 52 - (10 * j : Nat) - -42).toNat) from by rw [Nat.pow_add]; ac_rfl]
    rw [roundMag_pow z.natAbs _ 52 (by omega) hz (by omega) (by omega)]
    congr 2
    omega
  · rename_i h
    rw [show 2 ^ 52 * 2 ^ (-((z.natAbs.log2 : Int) - 52 - (10 * j : Nat) - -42)).toNat = 2 ^ (52 + (-((z.natAbs.log2 : Int) - 52 - (10 * j : Nat) - -42)).toNat) from by rw [Nat.pow_add]]
    rw [roundMag_pow z.natAbs _ _ (by omega) hz (by omega) (by omega)]
    congr 2
    omega

theorem quot_fl (z : Int) : Float64.ofFrac (decide (z < 0) != decide ((1024 : Int) < 0)) z.natAbs (1024 : Int).natAbs = fl z 1 := by
  have e : (decide (z < 0) != decide ((1024 : Int) < 0)) = decide (z < 0) := by
    rw [show decide ((1024 : Int) < 0) = false from by decide]; simp
  rw [e]; rfl

theorem ofInt_fl (z : Int) : ofInt z = fl z 0 := by unfold fl ofInt; simp

theorem isInf_fl (z : Int) (j : Nat) (h0 : z ≠ 0) (hz : z.natAbs < 2 ^ 53) (hj : j ≤ 10) : isInf (fl z j) = false := by
  unfold isInf
  rw [decode_fl z j h0 hz (by omega)]
theorem isNaN_fl (z : Int) (j : Nat) (h0 : z ≠ 0) (hz : z.natAbs < 2 ^ 53) (hj : j ≤ 10) : Float64.isNaN (fl z j) = false := by
  unfold Float64.isNaN
  rw [decode_fl z j h0 hz (by omega)]

theorem abs_fl (z : Int) (j : Nat) (h0 : z ≠ 0) (hz : z.natAbs < 2 ^ 53) (hj : j ≤ 10) : Float64.abs (fl z j) = fl (z.natAbs : Int) j := by
  have hL : z.natAbs.log2 < 53 := (Nat.log2_lt (by omega)).mpr hz
  have hl2 := @Nat.lt_log2_self z.natAbs
  unfold Float64.abs
  rw [isNaN_fl z j h0 hz hj]
  simp only [Bool.false_eq_true, if_false]
  have e : decide ((z.natAbs : Int) < 0) = false := decide_eq_false (by omega)
  unfold fl
  rw [e]
  unfold ofFrac
  simp only [Int.natAbs_natCast]
  congr 1
  have r : roundMag z.natAbs (2 ^ (10 * j)) = (z.natAbs.log2 + 1022 - 10 * j) * 2 ^ 52 + z.natAbs * 2 ^ (52 - z.natAbs.log2) := by
    have := roundMag_pow z.natAbs 0 (10 * j) (by omega) hz (by omega) (by omega)
    simpa using this
  have hm1 : z.natAbs * 2 ^ (52 - z.natAbs.log2) < 2 ^ 53 := by
    have : z.natAbs * 2 ^ (52 - z.natAbs.log2) < 2 ^ (z.natAbs.log2 + 1) * 2 ^ (52 - z.natAbs.log2) := Nat.mul_lt_mul_of_pos_right hl2 (Nat.two_pow_pos _)
    rw [← Nat.pow_add, show z.natAbs.log2 + 1 + (52 - z.natAbs.log2) = 53 from by omega] at this
    exact this
  have hlt : roundMag z.natAbs (2 ^ (10 * j)) < 2 ^ 63 := by
    rw [r]; generalize z.natAbs * 2 ^ (52 - z.natAbs.log2) = M at *; omega
  rw [pack_toNat _ hlt]
  generalize roundMag z.natAbs (2 ^ (10 * j)) = R at *
  cases decide (z < 0) <;> simp <;> omega

theorem sgn_false (m : Nat) : sgn false m = m := rfl

theorem cmp_scale (a b c : Int) (hc : 0 < c) : compare (a * c) (b * c) = compare a b := by
  rcases Int.lt_trichotomy a b with h | h | h
  · rw [Int.compare_eq_lt.mpr h, Int.compare_eq_lt.mpr (Int.mul_lt_mul_of_pos_right h hc)]
  · subst h; simp
  · rw [Int.compare_eq_gt.mpr h, Int.compare_eq_gt.mpr (Int.mul_lt_mul_of_pos_right h hc)]

theorem cmpInt_fl (n : Nat) (j : Nat) (i : Int) (h0 : n ≠ 0) (hn : n < 2 ^ 53) (hj : j ≤ 10) :
    cmpInt (fl (n : Int) j) i = some (compare (n : Int) (i * ((2 ^ (10 * j) : Nat) : Int))) := by
  have hL : n.log2 < 53 := (Nat.log2_lt (by omega)).mpr hn
  unfold cmpInt
  rw [decode_fl (n : Int) j (by omega) (by simpa using hn) (by omega)]
  have e : decide ((n : Int) < 0) = false := decide_eq_false (by omega)
  simp only [e, Int.natAbs_natCast, sgn_false]
  congr 1
  split
  · rename_i h
    rw [← cmp_scale (n : Int) _ ((2 ^ (52 - n.log2) * 2 ^ ((n.log2 : Int) - 52 - (10 * j : Nat)).toNat : Nat) : Int) (by exact_mod_cast Nat.mul_pos (Nat.two_pow_pos _) (Nat.two_pow_pos _))]
    have hj0 : j = 0 := by omega
    have hlog : n.log2 = 52 := by omega
    subst hj0
    simp [hlog]
  · rename_i h
    have e1 : (-((n.log2 : Int) - 52 - (10 * j : Nat))).toNat = (52 - n.log2) + 10 * j := by omega
    rw [e1]
    rw [← cmp_scale (n : Int) (i * ((2 ^ (10 * j) : Nat) : Int)) ((2 ^ (52 - n.log2) : Nat) : Int) (by exact_mod_cast Nat.two_pow_pos _)]
    congr 1
    push_cast
    rw [Int.pow_add, Int.mul_assoc, Int.mul_comm ((2 : Int) ^ (10 * j))]

end

section
open PySem PySem.W PySem.Calls PyProof.Rows
open Builtin Builtin.Str

theorem conv_eq {x : UInt64} {p p' type : Nat} {alt : Bool} {ng : Bool} {body : List Char} (e : Float64.text x 'f' p' false false false = (ng, body)) (ep : p = p') (hp : p' ≤ 100000) (et : type = 102) (ea : alt = false) :
    (do
        if p > 100000 then unsupported "str.__mod__:memory"
        let code := Char.ofNat type
        let (negative, body) := Float64.text x code.toLower p false alt false
        let body := if code.isUpper then body.map Char.toUpper else body
        pure ((if negative then [45] else []) ++ body.map Char.toNat, (none : Option Value), true) : Sem (List Nat × Option Value × Bool))
      = pure ((if ng then [45] else []) ++ body.map Char.toNat, (none : Option Value), true) := by
  subst ep et ea
  have hp' : ¬ p > 100000 := by omega
  have e1 : (Char.ofNat 102).toLower = 'f' := by decide +kernel
  have e2 : (Char.ofNat 102).isUpper = false := by decide +kernel
  simp only [hp', if_false, e1, e2, e, Bool.false_eq_true]

/-- a value that '%f' takes as the double x -/
def AsFloat (v : Value) (x : UInt64) : Prop := ∀ (prog : Program) (w : World) (A : Around) (s : Shared) (Q : UInt64 → Shared → Prop) (E : Value → Shared → Prop),
  (∀ k, Q x { s with toks := k }) → wpAny (model prog w) A (percentFloatOf v) Q E s
theorem asFloat_float (x : UInt64) (u : Tok) : AsFloat (.float x u) x := by
  intro prog w A s Q E h
  exact wpAny_of_eq (a := x) rfl (h s.toks)
theorem asFloat_int (n : Int) (u : Tok) (hfit : ¬ Float64.isInf (Float64.ofInt n) = true) : AsFloat (.int n u) (Float64.ofInt n) := by
  intro prog w A s Q E h
  unfold percentFloatOf
  refine wpAny_bind (wpAny_of_eq (a := none) rfl ?_)
  refine wpAny_bind ?_
  with_reducible refine wpAny_callSpecial?_slot (typeIs_int s n u) F.slot_int_float ?_
  with_reducible refine call_gives F.slot_int_float (typeIs_int s n u) F.entry_int_float (F.args_int_float_1 _) (AutoIntG0.int___float___int_1 n u hfit) ?_
  show wpAny _ _ _ _ _ _
  dsimp -zeta only
  refine wpAny_bind (wpAny_of_eq (a := some (Float64.ofInt n)) rfl ?_)
  exact wpAny_pure (h _)

theorem after_piece {M : Model} {A : Around} {E : Value → Shared → Prop} {s : Shared} {l : List Nat} {p : List Value} {r : List Nat}
    {f : Nat → List Value × Writer × List Nat → Sem (ForInStep (List Value × Writer × List Nat))} {Q : List Value × Writer × List Nat → Shared → Prop}
    {w : Writer} {y : PySem.Str} {N K : Nat} (g : KPc.Good w PySem.Str.empty N) (hy : y.length ≤ K) (h : ∀ w', KPc.Good w' y (N + K) → wpAny M A (forIn l (p, w', r) f) Q E s) :
    wpAny M A (forIn l (p, w.add y, r) f) Q E s := by
  refine h _ ?_
  have := KPc.good_add (o := none) g (KPc.obj_none (x := y) rfl)
  rw [KPc.empty_app] at this
  exact KPc.good_mono this (Nat.add_le_add_left hy _)

/-- the sign and the figures -/
def piece (sg ng : Bool) (body : List Char) : List Nat := (if ng then [45] else if sg then [43] else []) ++ body.map Char.toNat

theorem piece_len (sg ng : Bool) (body : List Char) : (piece sg ng body).length ≤ body.length + 1 := by
  unfold piece
  cases ng <;> cases sg <;> simp

theorem field_eq (f : Percent) (ng : Bool) (body : List Char) (p : Nat) (h1 : f.width = none) (h2 : f.prec = some p) (h3 : f.blank = false) (h4 : f.alt = false) (h5 : f.ljust = false) (h6 : f.zero = false) (h7 : f.type = 102)
    (hb : p < body.length) (hd : ∀ c, body.head? = some c → 48 ≤ c.toNat) :
    percentField f true ((if ng then [45] else []) ++ body.map Char.toNat) = some (piece f.sign ng body) := by
  obtain ⟨ljust, sign, blank, alt, zero, width, prec, type⟩ := f
  dsimp -zeta only at *
  subst h1 h2 h3 h4 h5 h6 h7
  have hp : ¬ (p ≥ ((if ng then [45] else []) ++ body.map Char.toNat).length) := by
    rw [List.length_append, List.length_map]; omega
  unfold percentField
  simp only [hp, decide_false, Option.all_some, Option.all_none, Bool.and_false, Bool.false_and, Bool.false_eq_true, if_false]
  cases body with
  | nil => simp at hb
  | cons c r =>
    have hc : 48 ≤ c.toNat := hd c rfl
    unfold piece
    cases ng with
    | true => simp
    | false =>
      have e45 : c.toNat ≠ 45 := by omega
      have e43 : c.toNat ≠ 43 := by omega
      cases sign <;> simp [e45, e43] <;> split <;> simp_all

set_option maxHeartbeats 1000000 in
theorem meets_p1 {v : Value} {x : UInt64} {t u' : Tok} {b : Addr} {U : PySem.Str} {ng : Bool} {body : List Char} (hv : AsFloat v x) (hx : Float64.text x 'f' 1 false false false = (ng, body)) (hb : 1 < body.length) (hl : body.length + 1 ≤ 1000) (hd : ∀ c, body.head? = some c → 48 ≤ c.toNat) (hU : U.length ≤ 1000000) :
    Meets («str.__mod__» ⟨[.str (PySem.Str.mk #[37, 43, 46, 49, 102, 32, 37, 115]) t, .ref b], []⟩) (fun _ R s => IsTup s.heap b #[v, .str U u'] ∧ ∀ t' k, R (.ok (.ret (.str (⟨(piece true ng body).toArray⟩ ++ PySem.Str.ofString " " ++ U) t'))) { s with toks := k }) := by
  apply KPt.meets_tup
  intro _ _ _ _ _ _ kptH _
  obtain ⟨kptO, kptG, kptC, kptN, kptD⟩ := kptH
  rw [KPt.entry_is_r]
  unfold Builtin.Str.percentFormat
  refine wpAny_bind (wpAny_isInstance (T := "tuple") ⟨kptO, kptG, kptC⟩ KPt.sub_tt ?_)
  refine wpAny_bind (KPt.asStr_ref kptG kptD ?_)
  refine wpAny_bind (KPt.fills_ref ⟨kptO, kptG, kptC⟩ ?_)
  intro _
  kpc_if
  refine wpAny_bind (wpAny_seqItems kptG kptD ?_)
  refine wpAny_bind (wpAny_pure ?_)
  refine wpAny_bind ?_
  rw [KPc.range_list]
  refine KPc.start ?_
  intro _ _
  refine KPc.turn ?_
  kpc_check
  repeat kpc_if
  refine wpAny_bind ?_
  refine wpAny_holding ?_
  (repeat kpc_if)
  refine wpAny_bind (hv _ _ _ _ _ _ ?_)
  intro _
  refine' wpAny_of_eq (conv_eq hx ?ep ?hp ?et ?ea) ?_
  case ep => decide +kernel
  case hp => decide
  case et => rfl
  case ea => decide +kernel
  dsimp -zeta only
  split
  · rename_i hn
    exact absurd (hn.symm.trans (field_eq _ _ _ _ rfl rfl (by decide +kernel) (by decide +kernel) (by decide +kernel) (by decide +kernel) rfl hb hd)) (by simp)
  rename_i laid hn
  have hlaid := hn.symm.trans (field_eq _ _ _ _ rfl rfl (by decide +kernel) (by decide +kernel) (by decide +kernel) (by decide +kernel) rfl hb hd)
  injection hlaid with hlaid
  subst hlaid
  refine wpAny_pure ?_
  refine after_piece (K := 1000) (by kpc_g) (by show List.length _ ≤ 1000; exact Nat.le_trans (piece_len _ _ _) hl) ?_
  intro _ _
  dsimp -zeta only at *
  refine KPc.turn ?_; kpc_check; (repeat kpc_if)
  refine wpAny_pure ?_; dsimp -zeta only; kpt_piece
  refine KPc.turn ?_; kpc_check; (repeat kpc_if)
  refine wpAny_bind ?_; refine wpAny_holding ?_; (repeat kpc_if); kpt_conv; refine wpAny_pure ?_; refine wpAny_pure ?_
  dsimp -zeta only; refine KPc.after_str (by kpc_g) (by kpt_len) (by kpc_obj) ?_; intro _ _
  refine KPc.turn ?_; kpc_check; (repeat kpc_if)
  refine wpAny_pure ?_; kpc_if
  refine KPc.finish_ok (by kpc_g) (by decide +kernel) (by exact rfl) ?_
  assumption

set_option maxHeartbeats 1000000 in
theorem meets_n1 {v : Value} {x : UInt64} {t u' : Tok} {b : Addr} {U : PySem.Str} {ng : Bool} {body : List Char} (hv : AsFloat v x) (hx : Float64.text x 'f' 1 false false false = (ng, body)) (hb : 1 < body.length) (hl : body.length + 1 ≤ 1000) (hd : ∀ c, body.head? = some c → 48 ≤ c.toNat) (hU : U.length ≤ 1000000) :
    Meets («str.__mod__» ⟨[.str (PySem.Str.mk #[37, 46, 49, 102, 32, 37, 115]) t, .ref b], []⟩) (fun _ R s => IsTup s.heap b #[v, .str U u'] ∧ ∀ t' k, R (.ok (.ret (.str (⟨(piece false ng body).toArray⟩ ++ PySem.Str.ofString " " ++ U) t'))) { s with toks := k }) := by
  apply KPt.meets_tup
  intro _ _ _ _ _ _ kptH _
  obtain ⟨kptO, kptG, kptC, kptN, kptD⟩ := kptH
  rw [KPt.entry_is_r]
  unfold Builtin.Str.percentFormat
  refine wpAny_bind (wpAny_isInstance (T := "tuple") ⟨kptO, kptG, kptC⟩ KPt.sub_tt ?_)
  refine wpAny_bind (KPt.asStr_ref kptG kptD ?_)
  refine wpAny_bind (KPt.fills_ref ⟨kptO, kptG, kptC⟩ ?_)
  intro _
  kpc_if
  refine wpAny_bind (wpAny_seqItems kptG kptD ?_)
  refine wpAny_bind (wpAny_pure ?_)
  refine wpAny_bind ?_
  rw [KPc.range_list]
  refine KPc.start ?_
  intro _ _
  refine KPc.turn ?_
  kpc_check
  repeat kpc_if
  refine wpAny_bind ?_
  refine wpAny_holding ?_
  (repeat kpc_if)
  refine wpAny_bind (hv _ _ _ _ _ _ ?_)
  intro _
  refine' wpAny_of_eq (conv_eq hx ?ep ?hp ?et ?ea) ?_
  case ep => decide +kernel
  case hp => decide
  case et => rfl
  case ea => decide +kernel
  dsimp -zeta only
  split
  · rename_i hn
    exact absurd (hn.symm.trans (field_eq _ _ _ _ rfl rfl (by decide +kernel) (by decide +kernel) (by decide +kernel) (by decide +kernel) rfl hb hd)) (by simp)
  rename_i laid hn
  have hlaid := hn.symm.trans (field_eq _ _ _ _ rfl rfl (by decide +kernel) (by decide +kernel) (by decide +kernel) (by decide +kernel) rfl hb hd)
  injection hlaid with hlaid
  subst hlaid
  refine wpAny_pure ?_
  refine after_piece (K := 1000) (by kpc_g) (by show List.length _ ≤ 1000; exact Nat.le_trans (piece_len _ _ _) hl) ?_
  intro _ _
  dsimp -zeta only at *
  refine KPc.turn ?_; kpc_check; (repeat kpc_if)
  refine wpAny_pure ?_; dsimp -zeta only; kpt_piece
  refine KPc.turn ?_; kpc_check; (repeat kpc_if)
  refine wpAny_bind ?_; refine wpAny_holding ?_; (repeat kpc_if); kpt_conv; refine wpAny_pure ?_; refine wpAny_pure ?_
  dsimp -zeta only; refine KPc.after_str (by kpc_g) (by kpt_len) (by kpc_obj) ?_; intro _ _
  refine KPc.turn ?_; kpc_check; (repeat kpc_if)
  refine wpAny_pure ?_; kpc_if
  refine KPc.finish_ok (by kpc_g) (by decide +kernel) (by exact rfl) ?_
  assumption

set_option maxHeartbeats 1000000 in
theorem meets_p0 {v : Value} {x : UInt64} {t u' : Tok} {b : Addr} {U : PySem.Str} {ng : Bool} {body : List Char} (hv : AsFloat v x) (hx : Float64.text x 'f' 0 false false false = (ng, body)) (hb : 0 < body.length) (hl : body.length + 1 ≤ 1000) (hd : ∀ c, body.head? = some c → 48 ≤ c.toNat) (hU : U.length ≤ 1000000) :
    Meets («str.__mod__» ⟨[.str (PySem.Str.mk #[37, 43, 46, 48, 102, 32, 37, 115]) t, .ref b], []⟩) (fun _ R s => IsTup s.heap b #[v, .str U u'] ∧ ∀ t' k, R (.ok (.ret (.str (⟨(piece true ng body).toArray⟩ ++ PySem.Str.ofString " " ++ U) t'))) { s with toks := k }) := by
  apply KPt.meets_tup
  intro _ _ _ _ _ _ kptH _
  obtain ⟨kptO, kptG, kptC, kptN, kptD⟩ := kptH
  rw [KPt.entry_is_r]
  unfold Builtin.Str.percentFormat
  refine wpAny_bind (wpAny_isInstance (T := "tuple") ⟨kptO, kptG, kptC⟩ KPt.sub_tt ?_)
  refine wpAny_bind (KPt.asStr_ref kptG kptD ?_)
  refine wpAny_bind (KPt.fills_ref ⟨kptO, kptG, kptC⟩ ?_)
  intro _
  kpc_if
  refine wpAny_bind (wpAny_seqItems kptG kptD ?_)
  refine wpAny_bind (wpAny_pure ?_)
  refine wpAny_bind ?_
  rw [KPc.range_list]
  refine KPc.start ?_
  intro _ _
  refine KPc.turn ?_
  kpc_check
  repeat kpc_if
  refine wpAny_bind ?_
  refine wpAny_holding ?_
  (repeat kpc_if)
  refine wpAny_bind (hv _ _ _ _ _ _ ?_)
  intro _
  refine' wpAny_of_eq (conv_eq hx ?ep ?hp ?et ?ea) ?_
  case ep => decide +kernel
  case hp => decide
  case et => rfl
  case ea => decide +kernel
  dsimp -zeta only
  split
  · rename_i hn
    exact absurd (hn.symm.trans (field_eq _ _ _ _ rfl rfl (by decide +kernel) (by decide +kernel) (by decide +kernel) (by decide +kernel) rfl hb hd)) (by simp)
  rename_i laid hn
  have hlaid := hn.symm.trans (field_eq _ _ _ _ rfl rfl (by decide +kernel) (by decide +kernel) (by decide +kernel) (by decide +kernel) rfl hb hd)
  injection hlaid with hlaid
  subst hlaid
  refine wpAny_pure ?_
  refine after_piece (K := 1000) (by kpc_g) (by show List.length _ ≤ 1000; exact Nat.le_trans (piece_len _ _ _) hl) ?_
  intro _ _
  dsimp -zeta only at *
  refine KPc.turn ?_; kpc_check; (repeat kpc_if)
  refine wpAny_pure ?_; dsimp -zeta only; kpt_piece
  refine KPc.turn ?_; kpc_check; (repeat kpc_if)
  refine wpAny_bind ?_; refine wpAny_holding ?_; (repeat kpc_if); kpt_conv; refine wpAny_pure ?_; refine wpAny_pure ?_
  dsimp -zeta only; refine KPc.after_str (by kpc_g) (by kpt_len) (by kpc_obj) ?_; intro _ _
  refine KPc.turn ?_; kpc_check; (repeat kpc_if)
  refine wpAny_pure ?_; kpc_if
  refine KPc.finish_ok (by kpc_g) (by decide +kernel) (by exact rfl) ?_
  assumption

set_option maxHeartbeats 1000000 in
theorem meets_n0 {v : Value} {x : UInt64} {t u' : Tok} {b : Addr} {U : PySem.Str} {ng : Bool} {body : List Char} (hv : AsFloat v x) (hx : Float64.text x 'f' 0 false false false = (ng, body)) (hb : 0 < body.length) (hl : body.length + 1 ≤ 1000) (hd : ∀ c, body.head? = some c → 48 ≤ c.toNat) (hU : U.length ≤ 1000000) :
    Meets («str.__mod__» ⟨[.str (PySem.Str.mk #[37, 46, 48, 102, 32, 37, 115]) t, .ref b], []⟩) (fun _ R s => IsTup s.heap b #[v, .str U u'] ∧ ∀ t' k, R (.ok (.ret (.str (⟨(piece false ng body).toArray⟩ ++ PySem.Str.ofString " " ++ U) t'))) { s with toks := k }) := by
  apply KPt.meets_tup
  intro _ _ _ _ _ _ kptH _
  obtain ⟨kptO, kptG, kptC, kptN, kptD⟩ := kptH
  rw [KPt.entry_is_r]
  unfold Builtin.Str.percentFormat
  refine wpAny_bind (wpAny_isInstance (T := "tuple") ⟨kptO, kptG, kptC⟩ KPt.sub_tt ?_)
  refine wpAny_bind (KPt.asStr_ref kptG kptD ?_)
  refine wpAny_bind (KPt.fills_ref ⟨kptO, kptG, kptC⟩ ?_)
  intro _
  kpc_if
  refine wpAny_bind (wpAny_seqItems kptG kptD ?_)
  refine wpAny_bind (wpAny_pure ?_)
  refine wpAny_bind ?_
  rw [KPc.range_list]
  refine KPc.start ?_
  intro _ _
  refine KPc.turn ?_
  kpc_check
  repeat kpc_if
  refine wpAny_bind ?_
  refine wpAny_holding ?_
  (repeat kpc_if)
  refine wpAny_bind (hv _ _ _ _ _ _ ?_)
  intro _
  refine' wpAny_of_eq (conv_eq hx ?ep ?hp ?et ?ea) ?_
  case ep => decide +kernel
  case hp => decide
  case et => rfl
  case ea => decide +kernel
  dsimp -zeta only
  split
  · rename_i hn
    exact absurd (hn.symm.trans (field_eq _ _ _ _ rfl rfl (by decide +kernel) (by decide +kernel) (by decide +kernel) (by decide +kernel) rfl hb hd)) (by simp)
  rename_i laid hn
  have hlaid := hn.symm.trans (field_eq _ _ _ _ rfl rfl (by decide +kernel) (by decide +kernel) (by decide +kernel) (by decide +kernel) rfl hb hd)
  injection hlaid with hlaid
  subst hlaid
  refine wpAny_pure ?_
  refine after_piece (K := 1000) (by kpc_g) (by show List.length _ ≤ 1000; exact Nat.le_trans (piece_len _ _ _) hl) ?_
  intro _ _
  dsimp -zeta only at *
  refine KPc.turn ?_; kpc_check; (repeat kpc_if)
  refine wpAny_pure ?_; dsimp -zeta only; kpt_piece
  refine KPc.turn ?_; kpc_check; (repeat kpc_if)
  refine wpAny_bind ?_; refine wpAny_holding ?_; (repeat kpc_if); kpt_conv; refine wpAny_pure ?_; refine wpAny_pure ?_
  dsimp -zeta only; refine KPc.after_str (by kpc_g) (by kpt_len) (by kpc_obj) ?_; intro _ _
  refine KPc.turn ?_; kpc_check; (repeat kpc_if)
  refine wpAny_pure ?_; kpc_if
  refine KPc.finish_ok (by kpc_g) (by decide +kernel) (by exact rfl) ?_
  assumption

end

section
open PySem PySem.W PyProof.Rows
open PySem.Float64

def stripped (l : List Char) : List Char := (l.reverse.dropWhile (· == '0')).reverse

theorem takeWhile_zeros : ∀ l : List Char, l.takeWhile (· == '0') = List.replicate (l.takeWhile (· == '0')).length '0'
  | [] => rfl
  | c :: r => by
    by_cases h : (c == '0') = true
    · have hc : c = '0' := by simpa using h
      subst hc
      rw [List.takeWhile_cons_of_pos rfl, List.length_cons, List.replicate_succ, ← takeWhile_zeros r]
    · have e : (c :: r).takeWhile (· == '0') = [] := List.takeWhile_cons_of_neg h
      rw [e]; rfl

theorem stripped_zeros (l : List Char) : ∃ k, l = stripped l ++ zeros k := by
  refine ⟨(l.reverse.takeWhile (· == '0')).length, ?_⟩
  unfold stripped zeros
  have h := List.takeWhile_append_dropWhile (p := (· == '0')) (l := l.reverse)
  have h2 := congrArg List.reverse h
  rw [List.reverse_reverse, List.reverse_append] at h2
  rw [takeWhile_zeros l.reverse, List.reverse_replicate] at h2
  exact h2.symm

theorem padRight_take (l : List Char) (q : Nat) (hq : q ≤ l.length) : padRight ((stripped l).take q) q = l.take q := by
  obtain ⟨k, h⟩ := stripped_zeros l
  unfold padRight
  have hl : l.length = (stripped l).length + k := by have := congrArg List.length h; simpa [zeros] using this
  conv => rhs; rw [h]
  rw [List.take_append, List.length_take]
  congr 1
  unfold zeros
  rw [List.take_replicate]
  congr 1
  omega

theorem padRight_drop (l : List Char) (q : Nat) (hq : q ≤ l.length) : padRight ((stripped l).drop q) (l.length - q) = l.drop q := by
  obtain ⟨k, h⟩ := stripped_zeros l
  unfold padRight
  have hl : l.length = (stripped l).length + k := by have := congrArg List.length h; simpa [zeros] using this
  conv => rhs; rw [h]
  rw [List.drop_append, List.length_drop]
  congr 1
  unfold zeros
  rw [List.drop_replicate]
  congr 1
  omega

theorem of_ds (c : Nat) (q : Int) : Digits.of c q = ⟨stripped (Nat.repr c).toList, q + (Nat.repr c).toList.length⟩ := rfl

theorem repr_pos (c : Nat) : 0 < (Nat.repr c).toList.length := by
  rw [Nat.toList_repr]
  exact toDigits_len_ge 10 c

theorem pointed0 (c : Nat) : pointed (Digits.of c 0) 0 false = (Nat.repr c).toList := by
  rw [of_ds]
  have hp := repr_pos c
  unfold pointed
  simp only [Int.zero_add]
  have h1 : ¬ (((Nat.repr c).toList.length : Nat) : Int) ≤ 0 := by omega
  simp only [h1, if_false, Int.toNat_natCast]
  rw [padRight_take _ _ (Nat.le_refl _), List.take_length]
  simp

theorem pointed1 (c : Nat) (hc : 2 ≤ (Nat.repr c).toList.length) : pointed (Digits.of c (-1)) 1 false = (Nat.repr c).toList.take ((Nat.repr c).toList.length - 1) ++ '.' :: (Nat.repr c).toList.drop ((Nat.repr c).toList.length - 1) := by
  rw [of_ds]
  unfold pointed
  have h1 : ¬ (-1 + (((Nat.repr c).toList.length : Nat) : Int)) ≤ 0 := by omega
  have h2 : (-1 + (((Nat.repr c).toList.length : Nat) : Int)).toNat = (Nat.repr c).toList.length - 1 := by omega
  have h3 : (-(-1 + (((Nat.repr c).toList.length : Nat) : Int))).toNat = 0 := by omega
  simp only [h1, if_false, h2, h3]
  rw [padRight_take _ _ (by omega)]
  have e : zeros 0 ++ (stripped (Nat.repr c).toList).drop ((Nat.repr c).toList.length - 1) = (stripped (Nat.repr c).toList).drop ((Nat.repr c).toList.length - 1) := rfl
  rw [e]
  have := padRight_drop (Nat.repr c).toList ((Nat.repr c).toList.length - 1) (by omega)
  rw [show (Nat.repr c).toList.length - ((Nat.repr c).toList.length - 1) = 1 from by omega] at this
  rw [this]
  simp

theorem repr_split (c : Nat) (hc : 10 ≤ c) : (Nat.repr c).toList = (Nat.repr (c / 10)).toList ++ [Nat.digitChar (c % 10)] := by
  rw [Nat.toList_repr, Nat.toList_repr]
  have hm : c % 10 < 10 := Nat.mod_lt _ (by decide)
  have t : Nat.toDigits 10 (c / 10) ++ Nat.toDigits 10 (c % 10) = Nat.toDigits 10 (10 * (c / 10) + c % 10) := Nat.toDigits_append_toDigits (by decide) (by omega) hm
  rw [Nat.div_add_mod, Nat.toDigits_of_lt_base hm] at t
  exact t.symm

theorem pointed1' (c : Nat) (hc : 10 ≤ c) : pointed (Digits.of c (-1)) 1 false = (Nat.repr (c / 10)).toList ++ '.' :: [Nat.digitChar (c % 10)] := by
  have hs := repr_split c hc
  have hp := repr_pos (c / 10)
  have hl : (Nat.repr c).toList.length = (Nat.repr (c / 10)).toList.length + 1 := by rw [hs]; simp
  rw [pointed1 c (by omega), hl, Nat.add_sub_cancel]
  rw [hs, List.take_left' rfl, List.drop_left' rfl]

/-- how many tenths (p = 1) or wholes (p = 0) of 2^(10 j) -/
def many (z : Int) (j p : Nat) : Nat := halfEven (z.natAbs * 10 ^ p) (2 ^ (10 * j))

theorem shift_ratio (n L : Nat) (j : Nat) (hL : L ≤ 52) (hj : j ≤ 10) :
    (shift (n * 2 ^ (52 - L)) 1 ((L : Int) - 52 - (10 * j : Nat))).1 * 2 ^ (10 * j) = n * (shift (n * 2 ^ (52 - L)) 1 ((L : Int) - 52 - (10 * j : Nat))).2 := by
  unfold shift
  split
  · rename_i h
    have hj0 : j = 0 := by omega
    have hl : L = 52 := by omega
    subst hj0 hl
    simp
  · rename_i h
    show n * 2 ^ (52 - L) * 2 ^ (10 * j) = n * (1 * 2 ^ (-((L : Int) - 52 - (10 * j : Nat))).toNat)
    rw [show (-((L : Int) - 52 - (10 * j : Nat))).toNat = (52 - L) + 10 * j from by omega, Nat.pow_add]
    rw [Nat.one_mul, Nat.mul_assoc]
theorem shift_pos' (n : Nat) (e : Int) : 0 < (shift n 1 e).2 := shift_pos n 1 e (by decide)

theorem fixed_fl (z : Int) (j p : Nat) (hz : z.natAbs < 2 ^ 53) (h0 : z ≠ 0) (hj : j ≤ 10) :
    fixed (shift (z.natAbs * 2 ^ (52 - z.natAbs.log2)) 1 ((z.natAbs.log2 : Int) - 52 - (10 * j : Nat))).1 (shift (z.natAbs * 2 ^ (52 - z.natAbs.log2)) 1 ((z.natAbs.log2 : Int) - 52 - (10 * j : Nat))).2 p = Digits.of (many z j p) (-(p : Int)) := by
  have hL : z.natAbs.log2 < 53 := (Nat.log2_lt (by omega)).mpr hz
  have hr := shift_ratio z.natAbs z.natAbs.log2 j (by omega) hj
  have hp := shift_pos' (z.natAbs * 2 ^ (52 - z.natAbs.log2)) ((z.natAbs.log2 : Int) - 52 - (10 * j : Nat))
  generalize shift (z.natAbs * 2 ^ (52 - z.natAbs.log2)) 1 ((z.natAbs.log2 : Int) - 52 - (10 * j : Nat)) = nd at *
  obtain ⟨n, d⟩ := nd
  unfold fixed many shift10
  have hpp : ((p : Nat) : Int) ≥ 0 := by omega
  simp only [hpp, if_true, Int.toNat_natCast]
  congr 1
  refine halfEven_ratio _ _ _ _ hp (Nat.two_pow_pos _) ?_
  simp only at hr
  rw [Nat.mul_right_comm, hr, Nat.mul_right_comm]

theorem text_fl (z : Int) (j p : Nat) (hz : z.natAbs < 2 ^ 53) (h0 : z ≠ 0) (hj : j ≤ 10) :
    Float64.text (fl z j) 'f' p false false false = (decide (z < 0), pointed (Digits.of (many z j p) (-(p : Int))) p false) := by
  unfold Float64.text
  rw [decode_fl z j h0 hz (by omega)]
  have hm : (z.natAbs * 2 ^ (52 - z.natAbs.log2) == 0) = false := by
    rw [beq_eq_false_iff_ne]
    exact Nat.mul_ne_zero (by omega) (Nat.ne_of_gt (Nat.two_pow_pos _))
  have e1 : ('f' == 'e') = false := by decide
  have e2 : ('f' == 'f') = true := by decide
  simp only [hm, e1, e2, Bool.false_eq_true, if_false, if_true]
  rw [fixed_fl z j p hz h0 hj]
  simp

theorem text_zero : Float64.text (ofInt 0) 'f' 0 false false false = (false, ['0']) := by decide +kernel

end

section
open PySem PySem.W PySem.Calls PyProof.Rows PySem.Spec
open PySem.Float64

def bodyOf (p c : Nat) : List Char := if p = 0 then (Nat.repr c).toList else (Nat.repr (c / 10)).toList ++ '.' :: [Nat.digitChar (c % 10)]
def txtU (j p : Nat) (z : Int) (plus : Bool) (U : PySem.Str) : PySem.Str := ⟨(piece plus (decide (z < 0)) (bodyOf p (many z j p))).toArray⟩ ++ PySem.Str.ofString " " ++ U

theorem repr_le (k : Nat) : ∀ c : Nat, c < 10 ^ k → (Nat.repr c).toList.length ≤ max k 1 := by
  induction k with
  | zero => intro c h; have : c = 0 := by omega
            subst this; decide
  | succ k ih =>
    intro c h
    by_cases hc : 10 ≤ c
    · rw [repr_split c hc, List.length_append, List.length_singleton]
      have h2 : c / 10 < 10 ^ k := by rw [Nat.pow_succ] at h; omega
      have := ih (c / 10) h2
      by_cases hk : k = 0
      · subst hk; omega
      · omega
    · rw [Nat.toList_repr, Nat.toDigits_of_lt_base (by omega)]; simp <;> omega

theorem halfEven_le3 (n d : Nat) : halfEven n d ≤ n + 1 := by
  have h1 : n / d ≤ n := Nat.div_le_self n d
  have h2 : halfEven n d ≤ n / d + 1 := by unfold halfEven; simp only; split <;> omega
  omega

theorem many_le (z : Int) (j p : Nat) (hz : z.natAbs < 2 ^ 53) (hp : p ≤ 1) : many z j p < 10 ^ 18 := by
  unfold many
  have h := halfEven_le3 (z.natAbs * 10 ^ p) (2 ^ (10 * j))
  have h2 : z.natAbs * 10 ^ p ≤ z.natAbs * 10 := by
    rcases (show p = 0 ∨ p = 1 by omega) with rfl | rfl <;> omega
  omega

theorem body_len (p c : Nat) (h : c < 10 ^ 18) : (bodyOf p c).length ≤ 20 := by
  unfold bodyOf
  split
  · have := repr_le 18 c h; omega
  · have := repr_le 18 (c / 10) (by omega)
    simp only [List.length_append, List.length_cons, List.length_nil]; omega

theorem repr_head (c : Nat) (ch : Char) (r : List Char) (h : (Nat.repr c).toList = ch :: r) : 48 ≤ ch.toNat := by
  have hm : ch ∈ Nat.toDigits 10 c := by rw [← Nat.toList_repr, h]; exact List.mem_cons_self
  have := digit_range (Nat.isDigit_of_mem_toDigits (by decide) (by decide) hm)
  omega

theorem body_head (p c : Nat) (ch : Char) (h : (bodyOf p c).head? = some ch) : 48 ≤ ch.toNat := by
  unfold bodyOf at h
  split at h
  · cases e : (Nat.repr c).toList with
    | nil => rw [e] at h; cases h
    | cons a r => rw [e] at h; injection h with h; subst h; exact repr_head c _ r e
  · cases e : (Nat.repr (c / 10)).toList with
    | nil => have := repr_pos (c / 10); rw [e] at this; simp at this
    | cons a r => rw [e] at h; injection h with h; subst h; exact repr_head (c / 10) _ r e

theorem body_pos0 (c : Nat) : 0 < (bodyOf 0 c).length := by unfold bodyOf; simp only [if_true]; exact repr_pos c
theorem body_pos1 (c : Nat) : 1 < (bodyOf 1 c).length := by
  unfold bodyOf
  rw [if_neg (by decide)]
  simp only [List.length_append, List.length_cons, List.length_nil]; omega

theorem text_p0 (z : Int) (j : Nat) (hz : z.natAbs < 2 ^ 53) (h0 : z ≠ 0) (hj : j ≤ 10) : Float64.text (fl z j) 'f' 0 false false false = (decide (z < 0), bodyOf 0 (many z j 0)) := by
  rw [text_fl z j 0 hz h0 hj, show (-((0 : Nat) : Int)) = 0 from rfl, pointed0]; rfl
theorem text_i0 (z : Int) (hz : z.natAbs < 2 ^ 53) : Float64.text (ofInt z) 'f' 0 false false false = (decide (z < 0), bodyOf 0 (many z 0 0)) := by
  by_cases h0 : z = 0
  · subst h0
    rw [text_zero]
    rfl
  · rw [ofInt_fl]; exact text_p0 z 0 hz h0 (by decide)
theorem text_p1 (z : Int) (j : Nat) (hz : z.natAbs < 2 ^ 53) (h0 : z ≠ 0) (hj : j ≤ 10) (hc : 10 ≤ many z j 1) : Float64.text (fl z j) 'f' 1 false false false = (decide (z < 0), bodyOf 1 (many z j 1)) := by
  rw [text_fl z j 1 hz h0 hj, show (-((1 : Nat) : Int)) = -1 from rfl, pointed1' _ hc]; rfl

section
variable {prog : Program} {w : World} {A : Around} {E : Value → Shared → Prop} {s : Shared} {Q : Value → Shared → Prop} {z : Int} {t u tz : Tok} {j : Nat}

theorem ofInt_fits {z : Int} (hz : z.natAbs < 2 ^ 53) : ¬ Float64.isInf (Float64.ofInt z) = true := by
  by_cases h0 : z = 0
  · subst h0; decide +kernel
  · rw [ofInt_fl, isInf_fl z 0 h0 hz (by decide)]; simp

theorem idivI (hz : z.natAbs < 2 ^ 53) (h : ∀ t k, Q (.float (fl z 1) t) { s with toks := k }) : wpAny (model prog w) A (inplaceOp .Div (.int z tz) (.int 1024 u)) Q E s := by
  refine AutoIntOps.itruediv_2 (by decide) ?_ ?_
  · exact Flt.quot_fits (by decide) (Nat.lt_of_lt_of_le hz (Nat.pow_le_pow_right (by decide) (by decide)))
  · rw [quot_fl]; exact h _ _

theorem idivF (j : Nat) (hz : z.natAbs < 2 ^ 53) (h0 : z ≠ 0) (hj : j ≤ 10) (h : ∀ t k, Q (.float (fl z (j + 1)) t) { s with toks := k }) : wpAny (model prog w) A (inplaceOp .Div (.float (fl z j) tz) (.int 1024 u)) Q E s := by
  refine Flt.itruediv_fi_2 (ofInt_fits (z := 1024) (by decide)) (by decide +kernel) ?_
  rw [div_fl z j h0 hz hj]; exact h _ _

theorem absF (hz : z.natAbs < 2 ^ 53) (h0 : z ≠ 0) (hj : j ≤ 10) (h : ∀ t k, Q (.float (fl (z.natAbs : Int) j) t) { s with toks := k }) : wpAny (model prog w) A (call (.builtin "abs") [.float (fl z j) tz]) Q E s := by
  refine Flt.call_abs_float ?_
  rw [abs_fl z j h0 hz hj]; exact h _ _

theorem ltF {i c : Int} (hz : z.natAbs < 2 ^ 53) (h0 : z ≠ 0) (hj : j ≤ 10) (hc : i * ((2 ^ (10 * j) : Nat) : Int) = c) (h : Q (.bool (decide ((z.natAbs : Int) < c))) s) : wpAny (model prog w) A (compareOp .Lt (.float (fl (z.natAbs : Int) j) tz) (.int i u)) Q E s := by
  refine lt_fi ?_
  rw [cmpInt_fl z.natAbs j i (by omega) hz hj, hc]
  have e : (some (compare (z.natAbs : Int) c) == some Ordering.lt) = decide ((z.natAbs : Int) < c) := by
    rw [Bool.eq_iff_iff, beq_iff_eq, decide_eq_true_eq, Option.some.injEq]
    exact Int.compare_eq_lt
  rw [e]; exact h

variable {h₀ : Heap} {L b : Addr} {news : List (Addr × Obj)} {X U : PySem.Str} {n : Nat}

theorem fmtF0n (N : News h₀ L s.heap news) (hb : (b, ({ cls := .type "tuple", data := .seq #[.float (fl z j) u, .str U tz] n } : Obj)) ∈ news) (hX : X = PySem.Str.mk #[37, 46, 48, 102, 32, 37, 115]) (hz : z.natAbs < 2 ^ 53) (h0 : z ≠ 0) (hj : j ≤ 10) (hU : U.length ≤ 1000000)
    (h : ∀ t' k, Q (.str (txtU j 0 z false U) t') { s with toks := k }) : wpAny (model prog w) A (binaryOp .Mod (.str X t) (.ref b)) Q E s :=
  KPt.mod_tuple N hb hX (meets_n0 (asFloat_float _ _) (text_p0 z j hz h0 hj) (body_pos0 _) (Nat.le_trans (Nat.succ_le_succ (body_len _ _ (many_le z j 0 hz (by decide)))) (by decide)) (body_head _ _) hU) h
theorem fmtF0p (N : News h₀ L s.heap news) (hb : (b, ({ cls := .type "tuple", data := .seq #[.float (fl z j) u, .str U tz] n } : Obj)) ∈ news) (hX : X = PySem.Str.mk #[37, 43, 46, 48, 102, 32, 37, 115]) (hz : z.natAbs < 2 ^ 53) (h0 : z ≠ 0) (hj : j ≤ 10) (hU : U.length ≤ 1000000)
    (h : ∀ t' k, Q (.str (txtU j 0 z true U) t') { s with toks := k }) : wpAny (model prog w) A (binaryOp .Mod (.str X t) (.ref b)) Q E s :=
  KPt.mod_tuple N hb hX (meets_p0 (asFloat_float _ _) (text_p0 z j hz h0 hj) (body_pos0 _) (Nat.le_trans (Nat.succ_le_succ (body_len _ _ (many_le z j 0 hz (by decide)))) (by decide)) (body_head _ _) hU) h
theorem fmtI0n (N : News h₀ L s.heap news) (hb : (b, ({ cls := .type "tuple", data := .seq #[.int z u, .str U tz] n } : Obj)) ∈ news) (hX : X = PySem.Str.mk #[37, 46, 48, 102, 32, 37, 115]) (hz : z.natAbs < 2 ^ 53) (hU : U.length ≤ 1000000)
    (h : ∀ t' k, Q (.str (txtU 0 0 z false U) t') { s with toks := k }) : wpAny (model prog w) A (binaryOp .Mod (.str X t) (.ref b)) Q E s :=
  KPt.mod_tuple N hb hX (meets_n0 (asFloat_int _ _ (ofInt_fits hz)) (text_i0 z hz) (body_pos0 _) (Nat.le_trans (Nat.succ_le_succ (body_len _ _ (many_le z 0 0 hz (by decide)))) (by decide)) (body_head _ _) hU) h
theorem fmtI0p (N : News h₀ L s.heap news) (hb : (b, ({ cls := .type "tuple", data := .seq #[.int z u, .str U tz] n } : Obj)) ∈ news) (hX : X = PySem.Str.mk #[37, 43, 46, 48, 102, 32, 37, 115]) (hz : z.natAbs < 2 ^ 53) (hU : U.length ≤ 1000000)
    (h : ∀ t' k, Q (.str (txtU 0 0 z true U) t') { s with toks := k }) : wpAny (model prog w) A (binaryOp .Mod (.str X t) (.ref b)) Q E s :=
  KPt.mod_tuple N hb hX (meets_p0 (asFloat_int _ _ (ofInt_fits hz)) (text_i0 z hz) (body_pos0 _) (Nat.le_trans (Nat.succ_le_succ (body_len _ _ (many_le z 0 0 hz (by decide)))) (by decide)) (body_head _ _) hU) h
theorem fmtF1n (N : News h₀ L s.heap news) (hb : (b, ({ cls := .type "tuple", data := .seq #[.float (fl z j) u, .str U tz] n } : Obj)) ∈ news) (hX : X = PySem.Str.mk #[37, 46, 49, 102, 32, 37, 115]) (hz : z.natAbs < 2 ^ 53) (h0 : z ≠ 0) (hj : j ≤ 10) (hc : 10 ≤ many z j 1) (hU : U.length ≤ 1000000)
    (h : ∀ t' k, Q (.str (txtU j 1 z false U) t') { s with toks := k }) : wpAny (model prog w) A (binaryOp .Mod (.str X t) (.ref b)) Q E s :=
  KPt.mod_tuple N hb hX (meets_n1 (asFloat_float _ _) (text_p1 z j hz h0 hj hc) (body_pos1 _) (Nat.le_trans (Nat.succ_le_succ (body_len _ _ (many_le z j 1 hz (by decide)))) (by decide)) (body_head _ _) hU) h
theorem fmtF1p (N : News h₀ L s.heap news) (hb : (b, ({ cls := .type "tuple", data := .seq #[.float (fl z j) u, .str U tz] n } : Obj)) ∈ news) (hX : X = PySem.Str.mk #[37, 43, 46, 49, 102, 32, 37, 115]) (hz : z.natAbs < 2 ^ 53) (h0 : z ≠ 0) (hj : j ≤ 10) (hc : 10 ≤ many z j 1) (hU : U.length ≤ 1000000)
    (h : ∀ t' k, Q (.str (txtU j 1 z true U) t') { s with toks := k }) : wpAny (model prog w) A (binaryOp .Mod (.str X t) (.ref b)) Q E s :=
  KPt.mod_tuple N hb hX (meets_p1 (asFloat_float _ _) (text_p1 z j hz h0 hj hc) (body_pos1 _) (Nat.le_trans (Nat.succ_le_succ (body_len _ _ (many_le z j 1 hz (by decide)))) (by decide)) (body_head _ _) hU) h
end

/-- from ten units on there are a hundred tenths or more -/
theorem many_ge (z : Int) (j : Nat) (c : Nat) (h : 2 ^ (10 * j) * c ≤ z.natAbs * 10) : c ≤ many z j 1 := by
  unfold many
  have hp : 0 < 2 ^ (10 * j) := Nat.two_pow_pos _
  have h1 : c ≤ z.natAbs * 10 ^ 1 / 2 ^ (10 * j) := by
    rw [Nat.le_div_iff_mul_le hp, Nat.mul_comm, Nat.pow_one]; exact h
  have h2 : z.natAbs * 10 ^ 1 / 2 ^ (10 * j) ≤ halfEven (z.natAbs * 10 ^ 1) (2 ^ (10 * j)) := by unfold halfEven; simp only; split <;> omega
  omega

def unitS : Nat → PySem.Str
  | 0 => PySem.Str.ofString "B"
  | 1 => PySem.Str.ofString "KiB"
  | 2 => PySem.Str.ofString "MiB"
  | 3 => PySem.Str.ofString "GiB"
  | _ => PySem.Str.ofString "TiB"
/-- the step and the figures behind the point -/
def kind (a : Nat) : Nat × Nat :=
  if a < 10240 then (0, 0)
  else if a < 102400 then (1, 1) else if a < 10485760 then (1, 0)
  else if a < 104857600 then (2, 1) else if a < 10737418240 then (2, 0)
  else if a < 107374182400 then (3, 1) else if a < 10995116277760 then (3, 0)
  else if a < 109951162777600 then (4, 1) else (4, 0)
def fmtT (z : Int) (plus : Bool) : PySem.Str := txtU (kind z.natAbs).1 (kind z.natAbs).2 z plus (unitS (kind z.natAbs).1)

end

section
open PySem PySem.W PySem.Calls PyProof.Rows PySem.Spec
def LtMark (news : List (Addr × Obj)) (I : Addr) : Prop := ∀ p ∈ news, p.1 < I
theorem ltMark {news : List (Addr × Obj)} {I : Addr} (h : ∀ p ∈ news, p.1 < I) : LtMark news I := h
theorem unrEnd {h₀ : Heap} {L I : Addr} {o : Obj} {keep : List (Addr × Obj)} {rest : (Str → Option Value) → List (Addr × Obj) → Prop} {s₁ : Shared} {h' : Heap} {tk : Nat} {m' : Str → Option Value} {all news' : List (Addr × Obj)}
    (lm : LtMark news' I) (F : Fr h₀ L h' m') (N : News h₀ L h' all)
    (hI : (I, o) ∈ all) (sub : ∀ p ∈ news', p ∈ all) (hk : SubL keep news') (r : rest m' news') : UnrEndW h₀ L s₁ [(I, o)] (fun m' n' => SubL keep n' ∧ rest m' n') { s₁ with heap := h', toks := tk } :=
  ⟨h', tk, m', news', rfl, F, fun p hp => by
    rcases List.mem_append.mp hp with hp | hp
    · exact N p ((List.mem_singleton.mp hp) ▸ hI)
    · exact N p (sub p hp), fun p hp q hq => by
      rw [List.mem_singleton.mp hq]
      exact Nat.ne_of_lt (lm p hp), hk, r⟩
end

section
open PySem PySem.W PySem.Calls PyProof.Rows PySem.Spec
set_option maxHeartbeats 8000000

section
variable {prog : Program} {w : World} {A : Around} {E : Value → Shared → Prop} {s : Shared} {Q : Value → Shared → Prop} {z i : Int} {u tz : Tok}
theorem absN {t : Tok} (h : ∀ t' k, Q (.int (z.natAbs : Int) t') { s with toks := k }) : wpAny (model prog w) A (call (.builtin "abs") [.int z t]) Q E s := by
  refine call_abs_int fun u tk => ?_
  have e : (if z < 0 then -z else z) = (z.natAbs : Int) := by split <;> omega
  rw [e]; exact h u tk
theorem ltF1 (hz : z.natAbs < 2 ^ 53) (h0 : z ≠ 0) (h : Q (.bool (decide ((z.natAbs : Int) < i * 1024))) s) : wpAny (model prog w) A (compareOp .Lt (.float (fl (z.natAbs : Int) 1) tz) (.int i u)) Q E s := ltF hz h0 (by decide) rfl h
theorem ltF2 (hz : z.natAbs < 2 ^ 53) (h0 : z ≠ 0) (h : Q (.bool (decide ((z.natAbs : Int) < i * 1048576))) s) : wpAny (model prog w) A (compareOp .Lt (.float (fl (z.natAbs : Int) 2) tz) (.int i u)) Q E s := ltF hz h0 (by decide) rfl h
theorem ltF3 (hz : z.natAbs < 2 ^ 53) (h0 : z ≠ 0) (h : Q (.bool (decide ((z.natAbs : Int) < i * 1073741824))) s) : wpAny (model prog w) A (compareOp .Lt (.float (fl (z.natAbs : Int) 3) tz) (.int i u)) Q E s := ltF hz h0 (by decide) rfl h
theorem ltF4 (hz : z.natAbs < 2 ^ 53) (h0 : z ≠ 0) (h : Q (.bool (decide ((z.natAbs : Int) < i * 1099511627776))) s) : wpAny (model prog w) A (compareOp .Lt (.float (fl (z.natAbs : Int) 4) tz) (.int i u)) Q E s := ltF hz h0 (by decide) rfl h
end

local macro_rules | `(tactic| walk_at "pyIter ref") => `(tactic| (k_here; (with_reducible show wpAny _ _ (pyIter (Value.ref _)) (fun it s₂ => TurnsAt _ _ _ _ _ _ _ _ _ it s₂) _ _); (rename Fr _ _ _ _ => lF'); (rename News _ _ _ _ => lN'); (with_unfolding_all refine iter_tupTurns (by rfl) lF' lN' (List.Mem.head _) (by rfl) (by rfl) ?_); clear lF'; intro i' l1; (have lm := ltMark l1); clear l1))
local macro_rules | `(tactic| walk_at "UnrEndW") => `(tactic| ((rename LtMark _ _ => lm'); (rename News _ _ _ _ => nE'); (refine unrEnd lm' (by assumption) nE' (by k_mem) (by first | kcj_in | kst_in) (by k_subL) ?_)))
local macro_rules | `(tactic| walk_at "inplaceOp Div int int") => `(tactic| (k_here; (with_reducible show wpAny _ _ (inplaceOp Operator.Div (Value.int _ _) (Value.int _ _)) _ _ _); (refine idivI (by assumption) ?_); intro _ _))
local macro_rules | `(tactic| walk_at "inplaceOp Div float int") => `(tactic| (k_here; (with_reducible show wpAny _ _ (inplaceOp Operator.Div (Value.float (fl _ _) _) (Value.int _ _)) _ _ _); (refine idivF _ (by assumption) (by omega) (by decide) ?_); intro _ _; (try simp only [Nat.zero_add, Nat.reduceAdd])))
local macro_rules | `(tactic| walk_at "call builtin:abs") => `(tactic| (k_here; (with_reducible show wpAny _ _ (call (Value.builtin "abs") [Value.float (fl _ _) _]) _ _ _); (refine absF (by assumption) (by omega) (by decide) ?_); intro _ _))
local macro_rules | `(tactic| walk_at "compareOp Lt float int") => `(tactic| (k_here; (with_reducible show wpAny _ _ (compareOp CmpOp.Lt (Value.float (fl _ _) _) (Value.int _ _)) _ _ _); (with_reducible first | refine ltF1 (by assumption) (by omega) ?_ | refine ltF2 (by assumption) (by omega) ?_ | refine ltF3 (by assumption) (by omega) ?_ | refine ltF4 (by assumption) (by omega) ?_)))
local macro_rules | `(tactic| walk_at "call builtin:abs") => `(tactic| (k_here; (with_reducible show wpAny _ _ (call (Value.builtin "abs") [Value.int _ _]) _ _ _); (refine absN ?_); intro _ _))

local macro_rules | `(tactic| walk_at "binaryOp Mod str ref") => `(tactic| (k_here; (with_reducible show wpAny _ _ (binaryOp Operator.Mod (Value.str _ _) (Value.ref _)) _ _ _); k_dflt (first
  | (refine' fmtF1n ?N ?hb ?hX ?hz ?h0 ?hj ?hc ?hU ?_; (case hX => decide +kernel); (case N => k_asm); (case hb => k_mem); (case hz => assumption); (case h0 => omega); (case hj => decide); (case hc => exact many_ge _ _ _ (by simp only [Nat.reduceMul, Nat.reducePow]; omega)); (case hU => (show _ ≤ 1000000; decide +kernel)))
  | (refine' fmtF1p ?N ?hb ?hX ?hz ?h0 ?hj ?hc ?hU ?_; (case hX => decide +kernel); (case N => k_asm); (case hb => k_mem); (case hz => assumption); (case h0 => omega); (case hj => decide); (case hc => exact many_ge _ _ _ (by simp only [Nat.reduceMul, Nat.reducePow]; omega)); (case hU => (show _ ≤ 1000000; decide +kernel)))
  | (refine' fmtF0n ?N ?hb ?hX ?hz ?h0 ?hj ?hU ?_; (case hX => decide +kernel); (case N => k_asm); (case hb => k_mem); (case hz => assumption); (case h0 => omega); (case hj => decide); (case hU => (show _ ≤ 1000000; decide +kernel)))
  | (refine' fmtF0p ?N ?hb ?hX ?hz ?h0 ?hj ?hU ?_; (case hX => decide +kernel); (case N => k_asm); (case hb => k_mem); (case hz => assumption); (case h0 => omega); (case hj => decide); (case hU => (show _ ≤ 1000000; decide +kernel)))
  | (refine' fmtI0n ?N ?hb ?hX ?hz ?hU ?_; (case hX => decide +kernel); (case N => k_asm); (case hb => k_mem); (case hz => assumption); (case hU => (show _ ≤ 1000000; decide +kernel)))
  | (refine' fmtI0p ?N ?hb ?hX ?hz ?hU ?_; (case hX => decide +kernel); (case N => k_asm); (case hb => k_mem); (case hz => assumption); (case hU => (show _ ≤ 1000000; decide +kernel)))); intro _ _))


theorem fmt_e0 {z : Int} {b c : Bool} (hb : b = c) (h : z.natAbs < 10240) : txtU 0 0 z c (PySem.Str.ofString "B") = fmtT z b := by
  subst hb
  unfold fmtT kind; rw [if_pos h]; rfl
theorem fmt_e1 {z : Int} {b c : Bool} (hb : b = c) (h0 : 10240 ≤ z.natAbs) (h : z.natAbs < 102400) : txtU 1 1 z c (PySem.Str.ofString "KiB") = fmtT z b := by
  subst hb
  unfold fmtT kind; rw [if_neg (by omega), if_pos h]; rfl
theorem fmt_e2 {z : Int} {b c : Bool} (hb : b = c) (h0 : 102400 ≤ z.natAbs) (h : z.natAbs < 10485760) : txtU 1 0 z c (PySem.Str.ofString "KiB") = fmtT z b := by
  subst hb
  unfold fmtT kind; rw [if_neg (by omega), if_neg (by omega), if_pos h]; rfl
theorem fmt_e3 {z : Int} {b c : Bool} (hb : b = c) (h0 : 10485760 ≤ z.natAbs) (h : z.natAbs < 104857600) : txtU 2 1 z c (PySem.Str.ofString "MiB") = fmtT z b := by
  subst hb
  unfold fmtT kind; rw [if_neg (by omega), if_neg (by omega), if_neg (by omega), if_pos h]; rfl
theorem fmt_e4 {z : Int} {b c : Bool} (hb : b = c) (h0 : 104857600 ≤ z.natAbs) (h : z.natAbs < 10737418240) : txtU 2 0 z c (PySem.Str.ofString "MiB") = fmtT z b := by
  subst hb
  unfold fmtT kind; rw [if_neg (by omega), if_neg (by omega), if_neg (by omega), if_neg (by omega), if_pos h]; rfl
theorem fmt_e5 {z : Int} {b c : Bool} (hb : b = c) (h0 : 10737418240 ≤ z.natAbs) (h : z.natAbs < 107374182400) : txtU 3 1 z c (PySem.Str.ofString "GiB") = fmtT z b := by
  subst hb
  unfold fmtT kind; rw [if_neg (by omega), if_neg (by omega), if_neg (by omega), if_neg (by omega), if_neg (by omega), if_pos h]; rfl
theorem fmt_e6 {z : Int} {b c : Bool} (hb : b = c) (h0 : 107374182400 ≤ z.natAbs) (h : z.natAbs < 10995116277760) : txtU 3 0 z c (PySem.Str.ofString "GiB") = fmtT z b := by
  subst hb
  unfold fmtT kind; rw [if_neg (by omega), if_neg (by omega), if_neg (by omega), if_neg (by omega), if_neg (by omega), if_neg (by omega), if_pos h]; rfl
theorem fmt_e7 {z : Int} {b c : Bool} (hb : b = c) (h0 : 10995116277760 ≤ z.natAbs) (h : z.natAbs < 109951162777600) : txtU 4 1 z c (PySem.Str.ofString "TiB") = fmtT z b := by
  subst hb
  unfold fmtT kind; rw [if_neg (by omega), if_neg (by omega), if_neg (by omega), if_neg (by omega), if_neg (by omega), if_neg (by omega), if_neg (by omega), if_pos h]; rfl
theorem fmt_e8 {z : Int} {b c : Bool} (hb : b = c) (h0 : 109951162777600 ≤ z.natAbs)  : txtU 4 0 z c (PySem.Str.ofString "TiB") = fmtT z b := by
  subst hb
  unfold fmtT kind; rw [if_neg (by omega), if_neg (by omega), if_neg (by omega), if_neg (by omega), if_neg (by omega), if_neg (by omega), if_neg (by omega), if_neg (by omega)]; rfl

theorem fmt_walk {w : World} {mean : ExcName → Option Value} {mg mb : Str → Option Value} (news : List (Addr × Obj)) (z : Int) (tz : Tok) (b : Bool)
   (hz : z.natAbs < 2 ^ 53) :
   CbClaim Challenge.rw_sn0122_01.row.prog w (hd.heap_39 w.params) hd.view_39 (looseW hd.view_39 []) mean mg mb 21 news [] True [Value.int z tz, Value.bool b] (fun t => Value.str (fmtT z b) t) := by
  w_top off
  k_fill
  dsimp only [CbClaim, CbLists, CbRet]
  intros
  rename_i hret
  have cbI : CbIn 21 := CbIn.mk
  refine wpAny_call ?_
  k_dflt cell_enter
  k_steps
  all_goals (refine' cb_retS hret ?e1 ?e2 ?e3; (case e2 => k_asm); (case e3 => (refine' cb_drop ?cbN ?cbS; (case cbN => assumption); (case cbS => first | kcj_in | kcj_all))); (case e1 => with_reducible first | exact fmt_e0 (by assumption) (by omega) | exact fmt_e1 (by assumption) (by omega) (by omega) | exact fmt_e2 (by assumption) (by omega) (by omega) | exact fmt_e3 (by assumption) (by omega) (by omega) | exact fmt_e4 (by assumption) (by omega) (by omega) | exact fmt_e5 (by assumption) (by omega) (by omega) | exact fmt_e6 (by assumption) (by omega) (by omega) | exact fmt_e7 (by assumption) (by omega) (by omega) | exact fmt_e8 (by assumption) (by omega)))
end

section
open PySem PySem.W PySem.Calls PyProof.Rows PySem.Spec
section
variable {prog : Program} {w : World} {A : Around} {E : Value → Shared → Prop} {s : Shared}

theorem tuple_index_run {t : Addr} {t0 t1 t2 t3 t4 u : Tok} {j : Nat} (hj : j ≤ 4) {P : Fin → Shared → Prop}
    (ht : IsTup s.heap t #[.str (PySem.Str.ofString "B") t0, .str (PySem.Str.ofString "KiB") t1, .str (PySem.Str.ofString "MiB") t2, .str (PySem.Str.ofString "GiB") t3, .str (PySem.Str.ofString "TiB") t4])
    (h : ∀ t' k, P (.done (.ret (.int (j : Int) t'))) { s with toks := k }) :
    wpAny (model prog w) A (Builtin.«tuple.index» ⟨[.ref t, .str (unitS j) u], []⟩) P E s := by
  unfold Builtin.«tuple.index»
  refine wpAny_bind (wpAny_of_eq (a := (.ref t, [.str (unitS j) u])) rfl ?_)
  try dsimp only
  refine wpAny_bind (tupleItemsOf_ ht ?_)
  try dsimp only
  refine wpAny_bind (wpAny_pure ?_)
  refine wpAny_bind (wpAny_pure ?_)
  rw [KPc.range_list]
  refine wpAny_bind ?_
  rcases (show j = 0 ∨ j = 1 ∨ j = 2 ∨ j = 3 ∨ j = 4 by omega) with rfl | rfl | rfl | rfl | rfl
  · refine KPc.turn ?_
    refine wpAny_bind (eqBool_str ?_)
    refine wpAny_ite (KPc.ite_yes (by decide +kernel) ?_)
    refine wpAny_bind ?_
    unfold retInt
    refine wpAny_bind (wpAny_mkInt ?_)
    refine wpAny_pure ?_
    refine wpAny_pure ?_
    refine wpAny_pure ?_
    exact h _ _
  · refine KPc.turn ?_
    refine wpAny_bind (eqBool_str ?_)
    refine wpAny_ite (KPc.ite_no (by decide +kernel) ?_)
    refine wpAny_pure ?_
    refine KPc.turn ?_
    refine wpAny_bind (eqBool_str ?_)
    refine wpAny_ite (KPc.ite_yes (by decide +kernel) ?_)
    refine wpAny_bind ?_
    unfold retInt
    refine wpAny_bind (wpAny_mkInt ?_)
    refine wpAny_pure ?_
    refine wpAny_pure ?_
    refine wpAny_pure ?_
    exact h _ _
  · refine KPc.turn ?_
    refine wpAny_bind (eqBool_str ?_)
    refine wpAny_ite (KPc.ite_no (by decide +kernel) ?_)
    refine wpAny_pure ?_
    refine KPc.turn ?_
    refine wpAny_bind (eqBool_str ?_)
    refine wpAny_ite (KPc.ite_no (by decide +kernel) ?_)
    refine wpAny_pure ?_
    refine KPc.turn ?_
    refine wpAny_bind (eqBool_str ?_)
    refine wpAny_ite (KPc.ite_yes (by decide +kernel) ?_)
    refine wpAny_bind ?_
    unfold retInt
    refine wpAny_bind (wpAny_mkInt ?_)
    refine wpAny_pure ?_
    refine wpAny_pure ?_
    refine wpAny_pure ?_
    exact h _ _
  · refine KPc.turn ?_
    refine wpAny_bind (eqBool_str ?_)
    refine wpAny_ite (KPc.ite_no (by decide +kernel) ?_)
    refine wpAny_pure ?_
    refine KPc.turn ?_
    refine wpAny_bind (eqBool_str ?_)
    refine wpAny_ite (KPc.ite_no (by decide +kernel) ?_)
    refine wpAny_pure ?_
    refine KPc.turn ?_
    refine wpAny_bind (eqBool_str ?_)
    refine wpAny_ite (KPc.ite_no (by decide +kernel) ?_)
    refine wpAny_pure ?_
    refine KPc.turn ?_
    refine wpAny_bind (eqBool_str ?_)
    refine wpAny_ite (KPc.ite_yes (by decide +kernel) ?_)
    refine wpAny_bind ?_
    unfold retInt
    refine wpAny_bind (wpAny_mkInt ?_)
    refine wpAny_pure ?_
    refine wpAny_pure ?_
    refine wpAny_pure ?_
    exact h _ _
  · refine KPc.turn ?_
    refine wpAny_bind (eqBool_str ?_)
    refine wpAny_ite (KPc.ite_no (by decide +kernel) ?_)
    refine wpAny_pure ?_
    refine KPc.turn ?_
    refine wpAny_bind (eqBool_str ?_)
    refine wpAny_ite (KPc.ite_no (by decide +kernel) ?_)
    refine wpAny_pure ?_
    refine KPc.turn ?_
    refine wpAny_bind (eqBool_str ?_)
    refine wpAny_ite (KPc.ite_no (by decide +kernel) ?_)
    refine wpAny_pure ?_
    refine KPc.turn ?_
    refine wpAny_bind (eqBool_str ?_)
    refine wpAny_ite (KPc.ite_no (by decide +kernel) ?_)
    refine wpAny_pure ?_
    refine KPc.turn ?_
    refine wpAny_bind (eqBool_str ?_)
    refine wpAny_ite (KPc.ite_yes (by decide +kernel) ?_)
    refine wpAny_bind ?_
    unfold retInt
    refine wpAny_bind (wpAny_mkInt ?_)
    refine wpAny_pure ?_
    refine wpAny_pure ?_
    refine wpAny_pure ?_
    exact h _ _

theorem tup_index {t : Addr} {t0 t1 t2 t3 t4 u : Tok} {j : Nat} {Q : Value → Shared → Prop} (hj : j ≤ 4)
    (ht : IsTup s.heap t #[.str (PySem.Str.ofString "B") t0, .str (PySem.Str.ofString "KiB") t1, .str (PySem.Str.ofString "MiB") t2, .str (PySem.Str.ofString "GiB") t3, .str (PySem.Str.ofString "TiB") t4])
    (h : ∀ t' k, Q (.int (j : Int) t') { s with toks := k }) :
    wpAny (model prog w) A (call (.builtin "tuple.index") [.ref t, .str (unitS j) u]) Q E s :=
  wpAny_call_entry PySem.F.slot_tuple_index ht.typeIs PySem.F.entry_tuple_index (tuple_index_run hj ht fun t' k => ⟨_, rfl, h t' k⟩) (PySem.F.args_tuple_index_2 _ _)

theorem tup_notin {t : Addr} {t0 t1 t2 t3 t4 u : Tok} {j : Nat} {Q : Value → Shared → Prop} (hj : j ≤ 4)
    (ht : IsTup s.heap t #[.str (PySem.Str.ofString "B") t0, .str (PySem.Str.ofString "KiB") t1, .str (PySem.Str.ofString "MiB") t2, .str (PySem.Str.ofString "GiB") t3, .str (PySem.Str.ofString "TiB") t4])
    (h : Q (.bool false) s) :
    wpAny (model prog w) A (compareOp .NotIn (.str (unitS j) u) (.ref t)) Q E s := by
  refine notin_tuple_strs ht (.cons _ _ (.cons _ _ (.cons _ _ (.cons _ _ (.cons _ _ .nil))))) ?_
  have e : (!([PySem.Str.ofString "B", PySem.Str.ofString "KiB", PySem.Str.ofString "MiB", PySem.Str.ofString "GiB", PySem.Str.ofString "TiB"].any (· == unitS j))) = false := by
    rcases (show j = 0 ∨ j = 1 ∨ j = 2 ∨ j = 3 ∨ j = 4 by omega) with rfl | rfl | rfl | rfl | rfl <;> decide +kernel
  rw [e]; exact h

/-- membership in ('+', '-') -/
theorem in_marks {t : Addr} {t0 t1 u : Tok} {x : PySem.Str} {c : Bool} {Q : Value → Shared → Prop}
    (ht : IsTup s.heap t #[.str (PySem.Str.ofString "+") t0, .str (PySem.Str.ofString "-") t1])
    (hc : (x == PySem.Str.ofString "+" || x == PySem.Str.ofString "-") = c) (h : Q (.bool c) s) :
    wpAny (model prog w) A (compareOp .In (.str x u) (.ref t)) Q E s := by
  refine in_tuple_strs ht (.cons _ _ (.cons _ _ .nil)) ?_
  have e : ([PySem.Str.ofString "+", PySem.Str.ofString "-"].any (· == x)) = c := by
    rw [← hc]
    simp only [List.any_cons, List.any_nil, Bool.or_false]
    congr 1 <;> exact Bool.beq_comm
  rw [e]; exact h
theorem notin_marks {t : Addr} {t0 t1 u : Tok} {x : PySem.Str} {c : Bool} {Q : Value → Shared → Prop}
    (ht : IsTup s.heap t #[.str (PySem.Str.ofString "+") t0, .str (PySem.Str.ofString "-") t1])
    (hc : (x == PySem.Str.ofString "+" || x == PySem.Str.ofString "-") = c) (h : Q (.bool (!c)) s) :
    wpAny (model prog w) A (compareOp .NotIn (.str x u) (.ref t)) Q E s := by
  refine notin_tuple_strs ht (.cons _ _ (.cons _ _ .nil)) ?_
  have e : ([PySem.Str.ofString "+", PySem.Str.ofString "-"].any (· == x)) = c := by
    rw [← hc]
    simp only [List.any_cons, List.any_nil, Bool.or_false]
    congr 1 <;> exact Bool.beq_comm
  rw [e]; exact h
theorem eqS {x y : PySem.Str} {t u : Tok} {c : Bool} {Q : Value → Shared → Prop} (hc : (x == y) = c) (h : Q (.bool c) s) : wpAny (model prog w) A (compareOp .Eq (.str x t) (.str y u)) Q E s := by
  refine PyProof.Rows.eq_str ?_
  rw [hc]; exact h
theorem neS {x y : PySem.Str} {t u : Tok} {c : Bool} {Q : Value → Shared → Prop} (hc : (x != y) = c) (h : Q (.bool c) s) : wpAny (model prog w) A (compareOp .NotEq (.str x t) (.str y u)) Q E s := by
  refine PyProof.Rows.ne_str ?_
  rw [hc]; exact h
end
end

section
open PySem PySem.W PySem.Calls PyProof.Rows PySem.Spec

/-- what the ends low and high say of every x -/
def Ends (f m P S least most lo hi : Int) : Prop :=
  ∀ x : Int, (lo ≤ x ∧ x ≤ hi) ↔ (least ≤ x ∧ x ≤ most ∧ P ≤ 2 * f * x ∧ 2 * f * x ≤ P + 2 * S ∧ (m % 2 = 1 → P < 2 * f * x ∧ 2 * f * x < P + 2 * S))

abbrev EndsClaim (w : World) (mean : ExcName → Option Value) (mg mb : Str → Option Value) (news : List (Addr × Obj)) (vs : List Value) (ng : Bool) (R : Int → Int → Prop) : Prop :=
  ∀ (dp un : Nat) (gd : Option (List Code)) (cn : Str) (cs : Scope) (a : Addr) (ccd : Value) (cl : List (Str × Addr)) (outer : List Env) (A₀ : Around) (base h₀ : Heap) (L : Addr) (m : Str → Option Value) (s : Shared) (Q E : Value → Shared → Prop),
    Below A₀ base outer h₀ → Fr h₀ L s.heap m → (hd.heap_39 w.params).In h₀ → News h₀ L s.heap news → Top hd.view_39 (looseW hd.view_39 []) mean mg mb h₀ → cs.kind = .function →
    dp + 1 < recursionLimit → un + 8 < cLine →
    (∀ (lo hi : Int) (D : Addr) (ta tb : Tok) (h' : Heap) (tk' : Nat), R lo hi → Fr h₀ L h' m → News h₀ L h' ((D, ({ cls := .type "tuple", data := .seq #[.int lo ta, .int hi tb, .bool ng] } : Obj)) :: news) → (∀ p ∈ news, p.1 < D) → Q (.ref D) { s with heap := h', toks := tk' }) →
      wpAny (model Challenge.rw_sn0122_01.row.prog w) (ktrTop dp un gd cn cs L a ccd cl outer) (call (.ref 28) vs) Q E s

section
variable {M : Model} {A : Around} {E : Value → Shared → Prop} {s : Shared} {g : Heap} {L : Addr} {m : Str → Option Value} {news : List (Addr × Obj)}
/-- the ways of a test meet again -/
def Meet {α : Type} (g : Heap) (L : Addr) (m : Str → Option Value) (news : List (Addr × Obj)) (s : Shared) (c : α) (c' : α) (s' : Shared) : Prop :=
  c' = c ∧ ∃ h' tk', s' = { s with heap := h', toks := tk' } ∧ Fr g L h' m ∧ News g L h' news
theorem meetB {t : Sem Bool} {c : Bool} {Q : Bool → Shared → Prop} (_F : Fr g L s.heap m) (_N : News g L s.heap news) (h1 : wpAny M A t (Meet g L m news s c) E s)
    (h2 : ∀ h' tk', Fr g L h' m → News g L h' news → Q c { s with heap := h', toks := tk' }) : wpAny M A t Q E s := by
  refine wpAny_mono h1 ?_ fun _ _ e => e
  rintro _ _ ⟨rfl, h', tk', rfl, F, N⟩
  exact h2 h' tk' F N
def MeetS (g : Heap) (L : Addr) (m : Str → Option Value) (news : List (Addr × Obj)) (s : Shared) (x : Str) (v : Value) (s' : Shared) : Prop :=
  ∃ t h' tk', v = .str x t ∧ s' = { s with heap := h', toks := tk' } ∧ Fr g L h' m ∧ News g L h' news
theorem meetS {t : Sem Value} {x : Str} {Q : Value → Shared → Prop} (_F : Fr g L s.heap m) (_N : News g L s.heap news) (h1 : wpAny M A t (MeetS g L m news s x) E s)
    (h2 : ∀ t' h' tk', Fr g L h' m → News g L h' news → Q (.str x t') { s with heap := h', toks := tk' }) : wpAny M A t Q E s := by
  refine wpAny_mono h1 ?_ fun _ _ e => e
  rintro _ _ ⟨t', h', tk', rfl, rfl, F, N⟩
  exact h2 t' h' tk' F N
theorem meet_end {α : Type} {c c' : α} {h' : Heap} {tk' : Nat} {news' : List (Addr × Obj)} (e : c' = c) (F : Fr g L h' m) (N : News g L h' news') (hs : ∀ p ∈ news, p ∈ news') : Meet g L m news s c c' { s with heap := h', toks := tk' } :=
  ⟨e, h', tk', rfl, F, fun p hp => N p (hs p hp)⟩
theorem meetS_end {x x' : Str} {t : Tok} {h' : Heap} {tk' : Nat} {news' : List (Addr × Obj)} (e : x' = x) (F : Fr g L h' m) (N : News g L h' news') (hs : ∀ p ∈ news, p ∈ news') : MeetS g L m news s x (.str x' t) { s with heap := h', toks := tk' } :=
  ⟨t, h', tk', by rw [e], rfl, F, fun p hp => N p (hs p hp)⟩
end

/-- low and high, whichever way they went -/
def MeetLH (g : Heap) (L : Addr) (m : Str → Option Value) (news : List (Addr × Obj)) (s : Shared) (x y : Str) (P : Int → Int → Prop) (f : Flow) (s' : Shared) : Prop :=
  f = .next ∧ ∃ (a b : Int) (t u : Tok) (h' : Heap) (tk' : Nat), P a b ∧ s' = { s with heap := h', toks := tk' } ∧ Fr g L h' (fun z => if z = x then some (.int a t) else if z = y then some (.int b u) else m z) ∧ News g L h' news
theorem meetLH {M : Model} {A : Around} {E : Value → Shared → Prop} {s : Shared} {g : Heap} {L : Addr} {m : Str → Option Value} {news : List (Addr × Obj)} (x y : Str) (P : Int → Int → Prop) {t : Sem Flow} {Q : Flow → Shared → Prop} (_F : Fr g L s.heap m) (_N : News g L s.heap news) (h1 : wpAny M A t (MeetLH g L m news s x y P) E s)
    (h2 : ∀ a b t' u' h' tk', P a b → Fr g L h' (fun z => if z = x then some (.int a t') else if z = y then some (.int b u') else m z) → News g L h' news → Q .next { s with heap := h', toks := tk' }) : wpAny M A t Q E s := by
  refine wpAny_mono h1 ?_ fun _ _ e => e
  rintro _ _ ⟨rfl, a, b, t', u', h', tk', hP, rfl, F, N⟩
  exact h2 a b t' u' h' tk' hP F N
theorem meetLH_end {g : Heap} {L : Addr} {m m' : Str → Option Value} {news : List (Addr × Obj)} {s : Shared} {x y : Str} {P : Int → Int → Prop} {a b : Int} {t u : Tok} {h' : Heap} {tk' : Nat} {news' : List (Addr × Obj)} (F : Fr g L h' m') (N : News g L h' news') (hs : ∀ p ∈ news, p ∈ news')
    (ha : m' x = some (.int a t)) (hb : m' y = some (.int b u)) (hr : ∀ z, z ≠ x → z ≠ y → m' z = m z) (hP : P a b) :
    MeetLH g L m news s x y P .next { s with heap := h', toks := tk' } := by
  refine ⟨rfl, a, b, t, u, h', tk', hP, rfl, ?_, fun p hp => N p (hs p hp)⟩
  have em : (fun z => if z = x then some (Value.int a t) else if z = y then some (Value.int b u) else m z) = m' := by
    funext z
    by_cases hx : z = x
    · rw [if_pos hx, hx, ha]
    · rw [if_neg hx]
      by_cases hy : z = y
      · rw [if_pos hy, hy, hb]
      · rw [if_neg hy, hr z hx hy]
  rw [em]; exact F
/-- an int, whichever way it was reckoned -/
def MeetV (g : Heap) (L : Addr) (m : Str → Option Value) (news : List (Addr × Obj)) (s : Shared) (W : Int) (v : Value) (s' : Shared) : Prop :=
  ∃ t h' tk', v = .int W t ∧ s' = { s with heap := h', toks := tk' } ∧ Fr g L h' m ∧ News g L h' news
theorem meetV {M : Model} {A : Around} {E : Value → Shared → Prop} {s : Shared} {g : Heap} {L : Addr} {m : Str → Option Value} {news : List (Addr × Obj)} (W : Int) {t : Sem Value} {Q : Value → Shared → Prop} (_F : Fr g L s.heap m) (_N : News g L s.heap news)
    (h1 : wpAny M A t (MeetV g L m news s W) E s) (h2 : ∀ t' h' tk', Fr g L h' m → News g L h' news → Q (.int W t') { s with heap := h', toks := tk' }) : wpAny M A t Q E s := by
  refine wpAny_mono h1 ?_ fun _ _ e => e
  rintro _ _ ⟨t', h', tk', rfl, rfl, F, N⟩
  exact h2 t' h' tk' F N
theorem meetV_end {g : Heap} {L : Addr} {m : Str → Option Value} {news : List (Addr × Obj)} {s : Shared} {W W' : Int} {t : Tok} {h' : Heap} {tk' : Nat} {news' : List (Addr × Obj)} (e : W' = W) (F : Fr g L h' m) (N : News g L h' news') (hs : ∀ p ∈ news, p ∈ news') : MeetV g L m news s W (.int W' t) { s with heap := h', toks := tk' } :=
  ⟨t, h', tk', by rw [e], rfl, F, fun p hp => N p (hs p hp)⟩

section
variable {prog : Program} {w : World} {A : Around} {E : Value → Shared → Prop} {s : Shared} {value slice : PySem.Expr} {h₀ : Heap} {L : Addr} {m : Str → Option Value} {news : List (Addr × Obj)} {x y : Str} {t : Tok} {Q : Value → Shared → Prop}
theorem sliceTo {j : Int} {uj : Tok} (hF : Fr h₀ L s.heap m) (hN : News h₀ L s.heap news) (e : Txt.slice x none (some j) = y) (hsz : x.length ≤ 1000) (h : ∀ h' t' k, Fr h₀ L h' m → News h₀ L h' news → Q (.str y t') { s with heap := h', toks := k })
    (hs : subscripted slice false (.str x t) (.ref s.heap.objs.size) = operate [.ref s.heap.objs.size, .str x t] (getItem (.str x t) (.ref s.heap.objs.size)) := by with_unfolding_all rfl)
    (ht : ∀ r, letTemporaryGo value (.str x t) r = pure () := by intro _; with_unfolding_all rfl) :
    wpAny (model prog w) A (subscriptTail value slice (.str x t) (.ref s.heap.objs.size)) Q E { s with heap := s.heap.push { cls := .type "slice", data := .fields #[.none, .int j uj, .none] } } :=
  slice_strN_ns hF hN (fun h' t' k F N => by rw [e]; exact h h' t' k F N) hs ht (by rw [sizeLine_eq]; omega)
theorem sliceFrom {i : Int} {ui : Tok} (hF : Fr h₀ L s.heap m) (hN : News h₀ L s.heap news) (e : Txt.slice x (some i) none = y) (hsz : x.length ≤ 1000) (h : ∀ h' t' k, Fr h₀ L h' m → News h₀ L h' news → Q (.str y t') { s with heap := h', toks := k })
    (hs : subscripted slice false (.str x t) (.ref s.heap.objs.size) = operate [.ref s.heap.objs.size, .str x t] (getItem (.str x t) (.ref s.heap.objs.size)) := by with_unfolding_all rfl)
    (ht : ∀ r, letTemporaryGo value (.str x t) r = pure () := by intro _; with_unfolding_all rfl) :
    wpAny (model prog w) A (subscriptTail value slice (.str x t) (.ref s.heap.objs.size)) Q E { s with heap := s.heap.push { cls := .type "slice", data := .fields #[.int i ui, .none, .none] } } :=
  slice_strN_sn hF hN (fun h' t' k F N => by rw [e]; exact h h' t' k F N) hs ht (by rw [sizeLine_eq]; omega)
theorem powS {j : Nat} {S : Int} {u : Tok} (hj : j ≤ 4) (hS : (1024 : Int) ^ j = S) (h : ∀ t' k, Q (.int S t') { s with toks := k }) : wpAny (model prog w) A (binaryOp .Pow (.int 1024 t) (.int (j : Int) u)) Q E s := by
  refine pow_int_small (by omega) (by omega) (by decide) ?_
  rw [Int.toNat_natCast, hS]
  exact h _ _
end
end

section
open PySem PySem.W PyProof.Rows
open PySem.Float64

theorem he_val (n d : Nat) : halfEven n d = if 2 * (n % d) > d ∨ (2 * (n % d) = d ∧ (n / d) % 2 = 1) then n / d + 1 else n / d := by
  unfold halfEven
  simp only [Bool.or_eq_true, Bool.and_eq_true, decide_eq_true_eq, beq_iff_eq]

theorem he_iff (n d q : Nat) (hd : 0 < d) : halfEven n d = q ↔
    ((2 * (q : Int) - 1) * d ≤ 2 * n ∧ 2 * (n : Int) ≤ (2 * (q : Int) - 1) * d + 2 * d ∧ ((q : Int) % 2 = 1 → (2 * (q : Int) - 1) * d < 2 * n ∧ 2 * (n : Int) < (2 * (q : Int) - 1) * d + 2 * d)) := by
  rw [he_val]
  have hn := Nat.div_add_mod n d
  have hr := Nat.mod_lt n hd
  generalize hQ : n / d = Q at *
  generalize hR : n % d = r at *
  have hX : ((d * Q : Nat) : Int) = (d : Int) * Q := by push_cast; rfl
  have hn' : (n : Int) = (d : Int) * Q + r := by rw [← hn]; push_cast; rfl
  have e0 : (2 * (Q : Int) - 1) * d = 2 * ((d : Int) * Q) - d := by rw [Int.sub_mul, Int.mul_assoc, Int.mul_comm (Q : Int) d, Int.one_mul]
  have e1 : (2 * ((Q + 1 : Nat) : Int) - 1) * d = 2 * ((d : Int) * Q) + d := by
    push_cast
    rw [show 2 * ((Q : Int) + 1) - 1 = 2 * Q + 1 from by omega, Int.add_mul, Int.mul_assoc, Int.mul_comm (Q : Int) d, Int.one_mul]
  rcases Nat.lt_trichotomy q Q with h | h | h
  · have hm : (2 * (q : Int) - 1) * d + 2 * d ≤ (2 * (Q : Int) - 1) * d := by
      have : (2 * (q : Int) - 1) * d + 2 * d = (2 * (q : Int) + 1) * d := by rw [← Int.add_mul]; congr 1; omega
      rw [this]
      exact Int.mul_le_mul_of_nonneg_right (by omega) (by omega)
    constructor
    · intro h2; split at h2 <;> omega
    · rintro ⟨_, h2, _⟩; exfalso; omega
  · subst h
    rw [e0, hn']
    generalize (d : Int) * q = X at *
    constructor
    · intro h2; split at h2 <;> omega
    · rintro ⟨h2, h3, h4⟩; rw [if_neg]; omega
  · by_cases h1 : q = Q + 1
    · subst h1
      rw [e1, hn']
      generalize (d : Int) * Q = X at *
      constructor
      · intro h2; split at h2 <;> omega
      · rintro ⟨h2, h3, h4⟩; rw [if_pos]; omega
    · have hm : (2 * ((Q + 1 : Nat) : Int) - 1) * d + 2 * d ≤ (2 * (q : Int) - 1) * d := by
        have : (2 * ((Q + 1 : Nat) : Int) - 1) * d + 2 * d = (2 * (Q : Int) + 3) * d := by rw [← Int.add_mul]; congr 1; omega
        rw [this]
        exact Int.mul_le_mul_of_nonneg_right (by omega) (by omega)
      constructor
      · intro h2; split at h2 <;> omega
      · rintro ⟨h2, _, _⟩; exfalso; rw [e1] at hm; omega

/-- the least and the greatest size of a kind -/
def leastOf (j p : Nat) : Int := if p = 1 then 10 * 1024 ^ j else if j > 0 then 100 * 1024 ^ j else 0
def mostOf (j p : Nat) : Int := if p = 1 then 100 * 1024 ^ j - 1 else if j < 4 then 10240 * 1024 ^ j - 1 else 2 ^ 53

theorem kind_cases (a : Nat) : (kind a = (0, 0) ∧ a < 10240) ∨ (kind a = (1, 1) ∧ 10240 ≤ a ∧ a < 102400) ∨ (kind a = (1, 0) ∧ 102400 ≤ a ∧ a < 10485760)
    ∨ (kind a = (2, 1) ∧ 10485760 ≤ a ∧ a < 104857600) ∨ (kind a = (2, 0) ∧ 104857600 ≤ a ∧ a < 10737418240) ∨ (kind a = (3, 1) ∧ 10737418240 ≤ a ∧ a < 107374182400) ∨ (kind a = (3, 0) ∧ 107374182400 ≤ a ∧ a < 10995116277760)
    ∨ (kind a = (4, 1) ∧ 10995116277760 ≤ a ∧ a < 109951162777600) ∨ (kind a = (4, 0) ∧ 109951162777600 ≤ a) := by
  unfold kind
  repeat' split
  all_goals first | exact Or.inl ⟨rfl, by omega⟩ | exact Or.inr (Or.inl ⟨rfl, by omega, by omega⟩) | exact Or.inr (Or.inr (Or.inl ⟨rfl, by omega, by omega⟩)) | exact Or.inr (Or.inr (Or.inr (Or.inl ⟨rfl, by omega, by omega⟩))) | exact Or.inr (Or.inr (Or.inr (Or.inr (Or.inl ⟨rfl, by omega, by omega⟩)))) | exact Or.inr (Or.inr (Or.inr (Or.inr (Or.inr (Or.inl ⟨rfl, by omega, by omega⟩))))) | exact Or.inr (Or.inr (Or.inr (Or.inr (Or.inr (Or.inr (Or.inl ⟨rfl, by omega, by omega⟩)))))) | exact Or.inr (Or.inr (Or.inr (Or.inr (Or.inr (Or.inr (Or.inr (Or.inl ⟨rfl, by omega, by omega⟩))))))) | exact Or.inr (Or.inr (Or.inr (Or.inr (Or.inr (Or.inr (Or.inr (Or.inr ⟨rfl, by omega⟩)))))))

theorem kind_iff (a x : Nat) (hx : x ≤ 2 ^ 53) : kind x = kind a ↔ (leastOf (kind a).1 (kind a).2 ≤ (x : Int) ∧ (x : Int) ≤ mostOf (kind a).1 (kind a).2) := by
  rcases kind_cases a with ⟨h, ha⟩ | ⟨h, ha⟩ | ⟨h, ha⟩ | ⟨h, ha⟩ | ⟨h, ha⟩ | ⟨h, ha⟩ | ⟨h, ha⟩ | ⟨h, ha⟩ | ⟨h, ha⟩ <;> rw [h] <;>
  rcases kind_cases x with ⟨k, hb⟩ | ⟨k, hb⟩ | ⟨k, hb⟩ | ⟨k, hb⟩ | ⟨k, hb⟩ | ⟨k, hb⟩ | ⟨k, hb⟩ | ⟨k, hb⟩ | ⟨k, hb⟩ <;> rw [k] <;>
  simp [leastOf, mostOf] <;> omega

/-- what the law's ends say, for the size z -/
def EndsOf (z lo hi : Int) : Prop :=
  Ends (10 ^ (kind z.natAbs).2) (many z (kind z.natAbs).1 (kind z.natAbs).2) ((2 * (many z (kind z.natAbs).1 (kind z.natAbs).2 : Int) - 1) * 1024 ^ (kind z.natAbs).1) (1024 ^ (kind z.natAbs).1)
    (leastOf (kind z.natAbs).1 (kind z.natAbs).2) (mostOf (kind z.natAbs).1 (kind z.natAbs).2) lo hi

theorem pow_1024 (j : Nat) : ((2 ^ (10 * j) : Nat) : Int) = 1024 ^ j := by
  rw [Nat.pow_mul]; push_cast; rfl

theorem ends_iff {z lo hi : Int} (h : EndsOf z lo hi) (x : Nat) (hx : x ≤ 2 ^ 53) :
    (lo ≤ (x : Int) ∧ (x : Int) ≤ hi) ↔ (kind x = kind z.natAbs ∧ many (x : Int) (kind z.natAbs).1 (kind z.natAbs).2 = many z (kind z.natAbs).1 (kind z.natAbs).2) := by
  rw [h x, kind_iff z.natAbs x hx]
  generalize kind z.natAbs = jp at *
  obtain ⟨j, p⟩ := jp
  dsimp only
  have hh := he_iff (x * 10 ^ p) (2 ^ (10 * j)) (many z j p) (Nat.two_pow_pos _)
  have e : many (x : Int) j p = halfEven (x * 10 ^ p) (2 ^ (10 * j)) := rfl
  rw [e, hh, pow_1024]
  have e2 : 2 * ((x * 10 ^ p : Nat) : Int) = 2 * 10 ^ p * (x : Int) := by push_cast; rw [Int.mul_assoc, Int.mul_comm (x : Int)]
  rw [e2]
  generalize (10 : Int) ^ p = f
  generalize (1024 : Int) ^ j = S
  constructor
  · rintro ⟨a, b, c, d, e⟩; exact ⟨⟨a, b⟩, c, d, e⟩
  · rintro ⟨⟨a, b⟩, c, d, e⟩; exact ⟨a, b, c, d, e⟩

end

section
open PySem PySem.W PyProof.Rows
open PySem.Float64

theorem split_first {α : Type} {c : α} : ∀ {l l' r r' : List α}, c ∉ l → c ∉ l' → l ++ c :: r = l' ++ c :: r' → l = l' ∧ r = r'
  | [], [], _, _, _, _, h => ⟨rfl, (List.cons.inj h).2⟩
  | [], a :: l', _, _, _, h2, h => absurd (List.mem_cons.mpr (.inl (List.cons.inj h).1)) h2
  | a :: l, [], _, _, h1, _, h => absurd (List.mem_cons.mpr (.inl (List.cons.inj h).1.symm)) h1
  | a :: l, b :: l', r, r', h1, h2, h => by
    obtain ⟨e, h⟩ := List.cons.inj h
    obtain ⟨e1, e2⟩ := split_first (fun m => h1 (List.mem_cons_of_mem _ m)) (fun m => h2 (List.mem_cons_of_mem _ m)) h
    exact ⟨by rw [e, e1], e2⟩

theorem repr_digit (c : Nat) (ch : Char) (h : ch ∈ (Nat.repr c).toList) : 48 ≤ ch.toNat ∧ ch.toNat ≤ 57 := by
  rw [Nat.toList_repr] at h
  have := digit_range (Nat.isDigit_of_mem_toDigits (by decide) (by decide) h)
  omega
theorem digit_char (d : Nat) (hd : d < 10) : (Nat.digitChar d).toNat = 48 + d := by
  have : ∀ d : Nat, d < 10 → (Nat.digitChar d).toNat = 48 + d := by decide
  exact this d hd

theorem body_codes (p c : Nat) (n : Nat) (h : n ∈ (bodyOf p c).map Char.toNat) : (48 ≤ n ∧ n ≤ 57) ∨ n = 46 := by
  obtain ⟨ch, hm, rfl⟩ := List.mem_map.mp h
  unfold bodyOf at hm
  split at hm
  · exact .inl (repr_digit c ch hm)
  · rcases List.mem_append.mp hm with hm | hm
    · exact .inl (repr_digit _ ch hm)
    · rcases List.mem_cons.mp hm with rfl | hm
      · exact .inr rfl
      · rw [List.mem_singleton.mp hm]
        have := digit_char (c % 10) (Nat.mod_lt _ (by decide))
        left; omega
theorem piece_codes (b ng : Bool) (p c n : Nat) (h : n ∈ piece b ng (bodyOf p c)) : n = 45 ∨ n = 43 ∨ (48 ≤ n ∧ n ≤ 57) ∨ n = 46 := by
  unfold piece at h
  rcases List.mem_append.mp h with h | h
  · split at h
    · simp at h; omega
    · split at h
      · simp at h; omega
      · cases h
  · have := body_codes p c n h
    omega
theorem piece_nospace (b ng : Bool) (p c : Nat) : 32 ∉ piece b ng (bodyOf p c) := fun h => by
  have := piece_codes b ng p c 32 h
  omega

theorem ofString_space : (PySem.Str.ofString " ").cps.toList = [32] := by decide +kernel
theorem txt_codes (j p : Nat) (z : Int) (b : Bool) (U : PySem.Str) : (txtU j p z b U).cps.toList = piece b (decide (z < 0)) (bodyOf p (many z j p)) ++ 32 :: U.cps.toList := by
  unfold txtU
  rw [PySem.Str.cps_append, PySem.Str.cps_append, Array.toList_append, Array.toList_append, ofString_space, List.append_assoc]
  rfl

theorem toNat_inj : ∀ {l l' : List Char}, l.map Char.toNat = l'.map Char.toNat → l = l'
  | [], [], _ => rfl
  | [], _ :: _, h => by cases h
  | _ :: _, [], h => by cases h
  | a :: l, b :: l', h => by
    obtain ⟨e, h⟩ := List.cons.inj h
    have : a = b := Char.toNat_inj.mp e
    rw [this, toNat_inj h]

theorem body_ne (p c : Nat) : ∃ ch r, bodyOf p c = ch :: r ∧ 48 ≤ ch.toNat := by
  cases e : bodyOf p c with
  | nil =>
    exfalso
    rcases (show p = 0 ∨ p ≠ 0 by omega) with rfl | hp
    · have := body_pos0 c; rw [e] at this; simp at this
    · unfold bodyOf at e; rw [if_neg hp] at e; simp at e
  | cons ch r => exact ⟨ch, r, rfl, body_head p c ch (by rw [e]; rfl)⟩

theorem piece_inj {b ng ng' : Bool} {p c p' c' : Nat} (h : piece b ng (bodyOf p c) = piece b ng' (bodyOf p' c')) : ng = ng' ∧ bodyOf p c = bodyOf p' c' := by
  obtain ⟨ch, r, e, hc⟩ := body_ne p c
  obtain ⟨ch', r', e', hc'⟩ := body_ne p' c'
  unfold piece at h
  rw [e, e'] at h ⊢
  have key : ∀ {l l' : List Char}, l.map Char.toNat = l'.map Char.toNat → l = l' := toNat_inj
  cases ng <;> cases ng' <;> cases b <;> simp at h ⊢ <;> first
    | exact ⟨Char.toNat_inj.mp h.1, key h.2⟩
    | (exfalso; omega)
    | skip
  all_goals (try (rcases h with ⟨h1, h2⟩; exfalso; omega))

theorem repr_inj {c c' : Nat} (h : (Nat.repr c).toList = (Nat.repr c').toList) : c = c' := by
  have h2 := congrArg (fun l => NumText.digitsVal (l.map Char.toNat)) h
  simp only [Nat.toList_repr, KIN.val_back] at h2
  exact h2

theorem dot_notin (c : Nat) : '.' ∉ (Nat.repr c).toList := fun h => by
  have := repr_digit c '.' h
  revert this; decide

theorem body_inj {p c p' c' : Nat} (hp : p ≤ 1) (hp' : p' ≤ 1) (h : bodyOf p c = bodyOf p' c') : p = p' ∧ c = c' := by
  unfold bodyOf at h
  rcases (show p = 0 ∨ p = 1 by omega) with rfl | rfl <;> rcases (show p' = 0 ∨ p' = 1 by omega) with rfl | rfl
  · exact ⟨rfl, repr_inj (by simpa using h)⟩
  · exfalso
    simp only [if_true, show ¬ (1 = 0) from by decide, if_false] at h
    exact dot_notin c (by rw [h]; simp)
  · exfalso
    simp only [if_true, show ¬ (1 = 0) from by decide, if_false] at h
    exact dot_notin c' (by rw [← h]; simp)
  · simp only [show ¬ (1 = 0) from by decide, if_false] at h
    obtain ⟨e1, e2⟩ := split_first (dot_notin _) (dot_notin _) h
    have h1 := repr_inj e1
    have h2 : (Nat.digitChar (c % 10)).toNat = (Nat.digitChar (c' % 10)).toNat := by rw [(List.cons.inj e2).1]
    rw [digit_char _ (Nat.mod_lt _ (by decide)), digit_char _ (Nat.mod_lt _ (by decide))] at h2
    exact ⟨rfl, by omega⟩

theorem unit_inj {j j' : Nat} (hj : j ≤ 4) (hj' : j' ≤ 4) (h : (unitS j).cps.toList = (unitS j').cps.toList) : j = j' := by
  rcases (show j = 0 ∨ j = 1 ∨ j = 2 ∨ j = 3 ∨ j = 4 by omega) with rfl | rfl | rfl | rfl | rfl <;>
  rcases (show j' = 0 ∨ j' = 1 ∨ j' = 2 ∨ j' = 3 ∨ j' = 4 by omega) with rfl | rfl | rfl | rfl | rfl <;> first | rfl | (exfalso; revert h; decide +kernel)

theorem kind_le (a : Nat) : (kind a).1 ≤ 4 ∧ (kind a).2 ≤ 1 := by
  rcases kind_cases a with ⟨h, ha⟩ | ⟨h, ha⟩ | ⟨h, ha⟩ | ⟨h, ha⟩ | ⟨h, ha⟩ | ⟨h, ha⟩ | ⟨h, ha⟩ | ⟨h, ha⟩ | ⟨h, ha⟩ <;> rw [h] <;> decide

theorem fmt_inj {z z' : Int} {b : Bool} (h : fmtT z b = fmtT z' b) : (z < 0 ↔ z' < 0) ∧ kind z.natAbs = kind z'.natAbs ∧ many z (kind z.natAbs).1 (kind z.natAbs).2 = many z' (kind z.natAbs).1 (kind z.natAbs).2 := by
  have h2 := congrArg (fun x : PySem.Str => x.cps.toList) h
  simp only [fmtT, txt_codes] at h2
  obtain ⟨e1, e2⟩ := split_first (piece_nospace _ _ _ _) (piece_nospace _ _ _ _) h2
  obtain ⟨s, e⟩ := piece_inj e1
  have hk := kind_le z.natAbs
  have hk' := kind_le z'.natAbs
  have ej := unit_inj hk.1 hk'.1 e2
  obtain ⟨ep, ec⟩ := body_inj hk.2 hk'.2 e
  refine ⟨by simpa using s, Prod.ext ej ep, ?_⟩
  rw [ec, ej, ep]
theorem fmt_same {z z' : Int} (b : Bool) (h : z < 0 ↔ z' < 0) (hk : kind z.natAbs = kind z'.natAbs) (hm : many z (kind z.natAbs).1 (kind z.natAbs).2 = many z' (kind z.natAbs).1 (kind z.natAbs).2) : fmtT z b = fmtT z' b := by
  unfold fmtT txtU
  rw [← hk, hm, show decide (z < 0) = decide (z' < 0) from decide_eq_decide.mpr h]

theorem many_abs (z : Int) (j p : Nat) : many (z.natAbs : Int) j p = many z j p := by unfold many; simp
theorem many_neg (z : Int) (j p : Nat) : many (-z) j p = many z j p := by unfold many; simp

/-- the law in plain words -/
structure LawOf (z lo hi : Int) (b : Bool) : Prop where
  lo0 : 0 ≤ lo
  inl : lo ≤ z.natAbs
  inh : (z.natAbs : Int) ≤ hi
  top : hi + 1 < 9007199254740992
  way : (if z < 0 then 1 else 0) ≤ lo
  at_lo : fmtT ((if z < 0 then -1 else 1) * lo) b = fmtT z b
  at_hi : fmtT ((if z < 0 then -1 else 1) * hi) b = fmtT z b
  off_lo : fmtT ((if z < 0 then -1 else 1) * (lo - 1)) b ≠ fmtT z b
  off_hi : fmtT ((if z < 0 then -1 else 1) * (hi + 1)) b ≠ fmtT z b

theorem least_nonneg (j p : Nat) : 0 ≤ leastOf j p := by
  unfold leastOf
  have h : (0 : Int) ≤ 1024 ^ j := Int.pow_nonneg (by decide)
  split
  · omega
  · split <;> omega

theorem law_of {z lo hi : Int} (hz : z.natAbs ≤ 8796093022208000) (h : EndsOf z lo hi) (b : Bool) : LawOf z lo hi b := by
  have hself := (ends_iff h z.natAbs (by omega)).mpr ⟨rfl, many_abs z _ _⟩
  have hlo0 : 0 ≤ lo := by
    have := ((h lo).mp ⟨Int.le_refl _, by omega⟩).1
    have h2 := least_nonneg (kind z.natAbs).1 (kind z.natAbs).2
    omega
  have htop : hi + 1 < 9007199254740992 := by
    have h1 := (h hi).mp ⟨by omega, Int.le_refl _⟩
    obtain ⟨_, hm, _, hP, _⟩ := h1
    rcases kind_cases z.natAbs with ⟨k, ha⟩ | ⟨k, ha⟩ | ⟨k, ha⟩ | ⟨k, ha⟩ | ⟨k, ha⟩ | ⟨k, ha⟩ | ⟨k, ha⟩ | ⟨k, ha⟩ | ⟨k, ha⟩
    case inr.inr.inr.inr.inr.inr.inr.inr =>
      rw [k] at hP
      have hq := ((he_iff (z.natAbs * 10 ^ 0) (2 ^ (10 * 4)) (many z 4 0) (Nat.two_pow_pos _)).mp rfl).1
      simp only [Nat.pow_zero, Nat.mul_one] at hq
      rw [show ((2 ^ (10 * 4) : Nat) : Int) = 1099511627776 from by decide] at hq
      simp only [Int.pow_zero, Int.mul_one] at hP
      rw [show (1024 : Int) ^ 4 = 1099511627776 from by decide] at hP
      omega
    all_goals (rw [k] at hm; simp [mostOf] at hm; omega)
  have hway : (if z < 0 then (1 : Int) else 0) ≤ lo := by
    split
    · rename_i hneg
      by_cases hl : lo = 0
      · exfalso
        subst hl
        have h0 := (ends_iff h 0 (by decide)).mp ⟨by omega, by omega⟩
        have hk0 : kind 0 = (0, 0) := by decide
        rw [hk0] at h0
        have e1 : many z 0 0 = z.natAbs := by
          unfold many
          have := halfEven_whole z.natAbs 1 (by decide)
          simpa using this
        have e0 : many ((0 : Nat) : Int) 0 0 = 0 := by decide +kernel
        rw [← h0.1] at h0
        have := h0.2
        simp only at this
        rw [e1, e0] at this
        omega
      · omega
    · exact hlo0
  -- a size with the sign of z has the text of z just between the ends
  have main : ∀ x : Int, 0 ≤ x → x < 9007199254740992 → ((if z < 0 then (1 : Int) else 0) ≤ x) → ((lo ≤ x ∧ x ≤ hi) ↔ fmtT ((if z < 0 then -1 else 1) * x) b = fmtT z b) := by
    intro x hx0 hx hxw
    obtain ⟨n, rfl⟩ := Int.eq_ofNat_of_zero_le hx0
    rw [ends_iff h n (by omega)]
    have hs : ((if z < 0 then -1 else 1) * (n : Int) < 0 ↔ z < 0) := by split <;> rename_i hn <;> simp only [hn, if_true, if_false] at hxw <;> omega
    have ha : ((if z < 0 then -1 else 1) * (n : Int)).natAbs = n := by split <;> omega
    have hm : ∀ j p, many ((if z < 0 then -1 else 1) * (n : Int)) j p = many (n : Int) j p := by
      intro j p; unfold many; rw [ha]; simp
    constructor
    · rintro ⟨h1, h2⟩
      refine fmt_same b hs (by rw [ha]; exact h1) ?_
      rw [ha, h1, hm]; exact h2
    · intro he
      obtain ⟨_, h1, h2⟩ := fmt_inj he
      rw [ha] at h1
      rw [ha, hm, h1] at h2
      exact ⟨h1, h2⟩
  refine ⟨hlo0, hself.1, hself.2, htop, hway, ?_, ?_, ?_, ?_⟩
  · exact (main lo hlo0 (by omega) hway).mp ⟨by omega, by omega⟩
  · exact (main hi (by omega) (by omega) (by omega)).mp ⟨by omega, by omega⟩
  · intro he
    by_cases hl : (if z < 0 then (1 : Int) else 0) ≤ lo - 1
    · have := (main (lo - 1) (by split at hl <;> omega) (by omega) hl).mpr he
      omega
    · have hs := (fmt_inj he).1
      split at hs <;> rename_i hn <;> simp only [hn, if_true, if_false] at hl hway <;> omega
  · intro he
    have := (main (hi + 1) (by omega) (by omega) (by omega)).mpr he
    omega

end

section
open PySem PySem.W PyProof.Rows
open PySem.StrLaws PySem.Builtin PySem.Builtin.Str

theorem str_ext {x y : PySem.Str} (h : x.cps.toList = y.cps.toList) : x = y := by
  cases x; cases y; simp only at h; rw [Array.toList_inj.mp h]

theorem at_one (x : PySem.Str) (c i : Nat) : At x ⟨#[c]⟩ x.length i ↔ x.cps.toList[i]? = some c := subAt_one x c i

theorem get_only {l1 l2 : List Nat} {c i : Nat} (h1 : c ∉ l1) (h2 : c ∉ l2) (h : (l1 ++ c :: l2)[i]? = some c) : i = l1.length := by
  rcases Nat.lt_trichotomy i l1.length with hi | hi | hi
  · rw [List.getElem?_append_left hi] at h
    exact absurd (List.mem_of_getElem? h) h1
  · exact hi
  · rw [List.getElem?_append_right (by omega), show i - l1.length = (i - l1.length - 1) + 1 from by omega, List.getElem?_cons_succ] at h
    exact absurd (List.mem_of_getElem? h) h2

theorem occ_single {x : PySem.Str} {c limit : Nat} {l1 l2 : List Nat} (hx : x.cps.toList = l1 ++ c :: l2) (h1 : c ∉ l1) (h2 : c ∉ l2) (hl : 1 ≤ limit) : occurrences x ⟨#[c]⟩ 0 x.length limit = [l1.length] := by
  have only : ∀ i, At x ⟨#[c]⟩ x.length i → i = l1.length := fun i h => get_only h1 h2 (by rw [← hx]; exact (at_one x c i).mp h)
  have here : At x ⟨#[c]⟩ x.length l1.length := (at_one x c _).mpr (by rw [hx]; simp)
  obtain ⟨f, hc⟩ := occ_chain x ⟨#[c]⟩ limit
  rcases occ_head x ⟨#[c]⟩ limit hl with ⟨_, hn⟩ | ⟨i, r, e, hi, _⟩
  · exact absurd here (hn _)
  · rw [e] at hc ⊢
    have ei := only i hi
    cases r with
    | nil => rw [ei]
    | cons k r' =>
      obtain ⟨_, _, hk, hk2, _⟩ := hc
      have ek := only k hk2
      have : (⟨#[c]⟩ : PySem.Str).length = 1 := rfl
      omega
theorem occ_empty {x : PySem.Str} {c limit : Nat} (hx : c ∉ x.cps.toList) (hl : 1 ≤ limit) : occurrences x ⟨#[c]⟩ 0 x.length limit = [] := by
  rcases occ_head x ⟨#[c]⟩ limit hl with ⟨h, _⟩ | ⟨i, r, e, hi, _⟩
  · exact h
  · exact absurd (List.mem_of_getElem? ((at_one x c i).mp hi)) hx

theorem sub_left {x : PySem.Str} {l1 l2 : List Nat} {c : Nat} (hx : x.cps.toList = l1 ++ c :: l2) : strSub x 0 l1.length = ⟨l1.toArray⟩ := by
  apply str_ext
  rw [strSub_toList, hx]; simp
theorem sub_right {x : PySem.Str} {l1 l2 : List Nat} {c : Nat} (hx : x.cps.toList = l1 ++ c :: l2) : strSub x (l1.length + 1) x.length = ⟨l2.toArray⟩ := by
  apply str_ext
  have hl : x.length = l1.length + (l2.length + 1) := by
    have := congrArg List.length hx
    simpa [PySem.Str.length] using this
  rw [strSub_toList, hx, show l1 ++ c :: l2 = (l1 ++ [c]) ++ l2 from by simp, List.drop_left' (by simp), List.take_of_length_le (by omega)]

theorem kind_one (x : PySem.Str) : 1 ≤ Builtin.Str.strKind x := by unfold Builtin.Str.strKind; split <;> (try split) <;> decide

theorem split_one {x : PySem.Str} {l1 l2 : List Nat} {c : Nat} (hc : c < 256) (hx : x.cps.toList = l1 ++ c :: l2) (h1 : c ∉ l1) (h2 : c ∉ l2) : Txt.split x ⟨#[c]⟩ = [⟨l1.toArray⟩, ⟨l2.toArray⟩] := by
  unfold Txt.split
  have hl : x.length = l1.length + (l2.length + 1) := by
    have := congrArg List.length hx
    simpa [PySem.Str.length] using this
  have k1 : Builtin.Str.strKind ⟨#[c]⟩ = 1 := by unfold Builtin.Str.strKind; simp [hc]
  have k2 := kind_one x
  have e1 : (⟨#[c]⟩ : PySem.Str).length = 1 := rfl
  have hno : ¬ ((decide (x.length < (⟨#[c]⟩ : PySem.Str).length) || decide (Builtin.Str.strKind x < Builtin.Str.strKind ⟨#[c]⟩)) = true) := by
    rw [e1, k1]; simp; omega
  rw [if_neg hno, occ_single hx h1 h2 (by omega)]
  rw [if_neg (by simp), partsBetween_eq]
  show [strSub x 0 l1.length, strSub x (l1.length + 1) x.length] = _
  rw [sub_left hx, sub_right hx]

theorem part_one {x : PySem.Str} {l1 l2 : List Nat} {c : Nat} (hx : x.cps.toList = l1 ++ c :: l2) (h1 : c ∉ l1) (h2 : c ∉ l2) : Txt.partition x ⟨#[c]⟩ = (⟨l1.toArray⟩, ⟨#[c]⟩, ⟨l2.toArray⟩) := by
  unfold Txt.partition
  rw [occ_single hx h1 h2 (by decide)]
  show (strSub x 0 l1.length, _, strSub x (l1.length + 1) x.length) = _
  rw [sub_left hx, sub_right hx]
theorem part_none {x : PySem.Str} {c : Nat} (hx : c ∉ x.cps.toList) : Txt.partition x ⟨#[c]⟩ = (x, PySem.Str.empty, PySem.Str.empty) := by
  unfold Txt.partition
  rw [occ_empty hx (by decide)]

theorem slice_head {x : PySem.Str} {a : Nat} {r : List Nat} (hx : x.cps.toList = a :: r) : Txt.slice x none (some 1) = ⟨#[a]⟩ := by
  have hl : x.length = r.length + 1 := by have := congrArg List.length hx; simpa [PySem.Str.length] using this
  have e : strSliceIndices none (some (1 : Int)) 1 x.length = strSliceIndices (some ((0 : Nat) : Int)) (some ((1 : Nat) : Int)) 1 x.length := by
    have m0 : max (0 : Int) (min 0 (x.length : Int)) = 0 := by omega
    have m1 : max (0 : Int) (min 1 (x.length : Int)) = 1 := by omega
    unfold strSliceIndices sliceRange; simp [m0, m1]
  have hs := sliced_plain x (a := 0) (b := 1) (by decide) (by omega)
  have hi := strSliceIndices_plain (a := 0) (b := 1) (len := x.length) (by decide) (by omega)
  unfold Txt.slice
  rw [e]
  split
  · rename_i h
    rw [hi] at h
    simp at h
    apply str_ext
    rw [hx]
    have : r = [] := List.eq_nil_of_length_eq_zero (by omega)
    rw [this]
  · apply str_ext
    show List.filterMap _ _ = _
    rw [hs, hx]; rfl
theorem slice_tail {x : PySem.Str} {a : Nat} {r : List Nat} (hx : x.cps.toList = a :: r) : Txt.slice x (some 1) none = ⟨r.toArray⟩ := by
  have hl : x.length = r.length + 1 := by have := congrArg List.length hx; simpa [PySem.Str.length] using this
  have e : strSliceIndices (some (1 : Int)) none 1 x.length = strSliceIndices (some ((1 : Nat) : Int)) (some ((x.length : Nat) : Int)) 1 x.length := by
    have m0 : max (0 : Int) (min (x.length : Int) (x.length : Int)) = x.length := by omega
    have m1 : max (0 : Int) (min 1 (x.length : Int)) = 1 := by omega
    have m2 : ¬ ((x.length : Int) < 0) := by omega
    unfold strSliceIndices sliceRange; simp [m0, m1, m2]
  have hs := sliced_plain x (a := 1) (b := x.length) (by omega) (Nat.le_refl _)
  have hi := strSliceIndices_plain (a := 1) (b := x.length) (len := x.length) (by omega) (Nat.le_refl _)
  unfold Txt.slice
  rw [e]
  split
  · rename_i h
    simp only [Bool.and_eq_true, beq_iff_eq] at h
    have h2 := h.2
    rw [hi, List.length_map, List.length_range] at h2
    omega
  · apply str_ext
    show List.filterMap _ _ = _
    rw [hs, hx, List.drop_one, List.tail_cons, List.take_of_length_le (by omega)]

theorem num_codes (n : Nat) : (PySem.Str.ofString (toString ((n : Nat) : Int))).cps.toList = (Nat.repr n).toList.map Char.toNat := by
  rw [KIN.signs_num, Nat.toList_repr]
theorem num_str (n : Nat) : PySem.Str.ofString (toString ((n : Nat) : Int)) = ⟨((Nat.repr n).toList.map Char.toNat).toArray⟩ := str_ext (by rw [num_codes])

theorem digit_ten : ∀ c : Nat, c < 58 → 48 ≤ c → Unicode.isDigit c = true := by decide +kernel
theorem num_isdigit (n : Nat) : Txt.isdigit (PySem.Str.ofString (toString ((n : Nat) : Int))) = true := by
  unfold Txt.isdigit
  have hl : 0 < (PySem.Str.ofString (toString ((n : Nat) : Int))).length := by
    show 0 < (PySem.Str.ofString (toString ((n : Nat) : Int))).cps.size
    rw [← Array.length_toList, num_codes, List.length_map]
    exact repr_pos n
  rw [Bool.and_eq_true]
  refine ⟨by simpa using hl, ?_⟩
  rw [← Array.all_toList, num_codes, List.all_eq_true]
  intro c hc
  obtain ⟨ch, hm, rfl⟩ := List.mem_map.mp hc
  have := repr_digit n ch hm
  exact digit_ten _ (by omega) (by omega)

theorem space_str : PySem.Str.ofString " " = ⟨#[32]⟩ := by decide +kernel
theorem dot_str : PySem.Str.ofString "." = ⟨#[46]⟩ := by decide +kernel
theorem minus_str : PySem.Str.ofString "-" = ⟨#[45]⟩ := by decide +kernel
theorem plus_str : PySem.Str.ofString "+" = ⟨#[43]⟩ := by decide +kernel

theorem unit_codes (j : Nat) (hj : j ≤ 4) : 32 ∉ (unitS j).cps.toList ∧ (unitS j).cps.toList.length ≤ 3 := by
  rcases (show j = 0 ∨ j = 1 ∨ j = 2 ∨ j = 3 ∨ j = 4 by omega) with rfl | rfl | rfl | rfl | rfl <;> decide +kernel

end

section
open PySem PySem.W PyProof.Rows

def Quad (b ng pl mk : Bool) : Prop := (b = false ∧ ng = false ∧ pl = false ∧ mk = false) ∨ (b = false ∧ ng = true ∧ pl = false ∧ mk = true) ∨ (b = true ∧ ng = false ∧ pl = true ∧ mk = true) ∨ (b = true ∧ ng = true ∧ pl = false ∧ mk = true)
def DigOf (mk : Bool) (A DG : Str) : Prop := (mk = true ∧ Txt.slice A (some 1) none = DG) ∨ (mk = false ∧ A = DG)
theorem quad_of (b ng : Bool) : Quad b ng (b && !ng) (b || ng) := by
  cases b <;> cases ng <;> simp [Quad]

def strOf (l : List Nat) : Str := ⟨l.toArray⟩
theorem strOf_codes (l : List Nat) : (strOf l).cps.toList = l := rfl
theorem one_ne {a c : Nat} (h : a ≠ c) : ((⟨#[a]⟩ : Str) == ⟨#[c]⟩) = false := by
  rw [beq_eq_false_iff_ne]
  intro e
  injection e with e
  injection e with e
  injection e with e
  exact h e

theorem marks (b ng : Bool) (p c : Nat) : ∃ MK : Str, Txt.slice (strOf (piece b ng (bodyOf p c))) none (some 1) = MK ∧ (MK == Str.ofString "-") = ng ∧ (MK == Str.ofString "+") = (b && !ng) ∧ (MK == Str.ofString "+" || MK == Str.ofString "-") = (b || ng)
    ∧ DigOf (b || ng) (strOf (piece b ng (bodyOf p c))) (strOf ((bodyOf p c).map Char.toNat)) := by
  obtain ⟨ch, r, e, hc⟩ := body_ne p c
  rw [e, minus_str, plus_str]
  cases ng with
  | true =>
    have hx : (strOf (piece b true (ch :: r))).cps.toList = 45 :: (ch :: r).map Char.toNat := by unfold piece; rfl
    refine ⟨⟨#[45]⟩, slice_head hx, by decide +kernel, ?_, ?_, ?_⟩
    · rw [one_ne (by decide)]; simp
    · rw [one_ne (by decide)]; cases b <;> decide +kernel
    · exact .inl ⟨by simp, slice_tail hx⟩
  | false =>
    cases b with
    | true =>
      have hx : (strOf (piece true false (ch :: r))).cps.toList = 43 :: (ch :: r).map Char.toNat := by unfold piece; rfl
      exact ⟨⟨#[43]⟩, slice_head hx, by decide +kernel, by decide +kernel, by decide +kernel, .inl ⟨rfl, slice_tail hx⟩⟩
    | false =>
      have hx : (strOf (piece false false (ch :: r))).cps.toList = ch.toNat :: r.map Char.toNat := by unfold piece; rfl
      refine ⟨⟨#[ch.toNat]⟩, slice_head hx, one_ne (by omega), one_ne (by omega), ?_, .inr ⟨rfl, rfl⟩⟩
      rw [one_ne (by omega), one_ne (by omega)]

theorem text_split (z : Int) (b : Bool) : Txt.split (fmtT z b) (Str.ofString " ") = [strOf (piece b (decide (z < 0)) (bodyOf (kind z.natAbs).2 (many z (kind z.natAbs).1 (kind z.natAbs).2))), unitS (kind z.natAbs).1] := by
  rw [space_str]
  have hx := txt_codes (kind z.natAbs).1 (kind z.natAbs).2 z b (unitS (kind z.natAbs).1)
  have h := split_one (x := fmtT z b) (by decide) hx (piece_nospace _ _ _ _) (unit_codes _ (kind_le _).1).1
  rw [h]
  rfl

theorem piece_length (b : Bool) (z : Int) (hz : z.natAbs < 2 ^ 53) (j p : Nat) (hp : p ≤ 1) : (strOf (piece b (decide (z < 0)) (bodyOf p (many z j p)))).length ≤ 21 := by
  show (List.toArray _).size ≤ 21
  rw [List.size_toArray]
  have h1 := piece_len b (decide (z < 0)) (bodyOf p (many z j p))
  have h2 := body_len p _ (many_le z j p hz hp)
  omega
theorem body_length (z : Int) (hz : z.natAbs < 2 ^ 53) (j p : Nat) (hp : p ≤ 1) : (strOf ((bodyOf p (many z j p)).map Char.toNat)).length ≤ 1000 := by
  show (List.toArray _).size ≤ 1000
  rw [List.size_toArray, List.length_map]
  have h2 := body_len p _ (many_le z j p hz hp)
  omega
theorem text_length (z : Int) (hz : z.natAbs < 2 ^ 53) (b : Bool) : (fmtT z b).length ≤ 1000 := by
  have hx := congrArg List.length (txt_codes (kind z.natAbs).1 (kind z.natAbs).2 z b (unitS (kind z.natAbs).1))
  have h1 := piece_length b z hz (kind z.natAbs).1 (kind z.natAbs).2 (kind_le _).2
  have h1' : (piece b (decide (z < 0)) (bodyOf (kind z.natAbs).2 (many z (kind z.natAbs).1 (kind z.natAbs).2))).length ≤ 21 := by
    have : (strOf (piece b (decide (z < 0)) (bodyOf (kind z.natAbs).2 (many z (kind z.natAbs).1 (kind z.natAbs).2)))).length = (piece b (decide (z < 0)) (bodyOf (kind z.natAbs).2 (many z (kind z.natAbs).1 (kind z.natAbs).2))).length := by
      show (List.toArray _).size = _
      rw [List.size_toArray]
    omega
  have h2 := (unit_codes (kind z.natAbs).1 (kind_le _).1).2
  have h3 : (fmtT z b).length = (fmtT z b).cps.toList.length := by simp [PySem.Str.length]
  rw [h3]
  show (txtU _ _ z b _).cps.toList.length ≤ 1000
  rw [hx, List.length_append, List.length_cons]
  omega

theorem part1 (c : Nat) : Txt.partition (strOf ((bodyOf 1 c).map Char.toNat)) (Str.ofString ".") = (Str.ofString (toString ((c / 10 : Nat) : Int)), Str.ofString ".", Str.ofString (toString ((c % 10 : Nat) : Int))) := by
  have hx : (strOf ((bodyOf 1 c).map Char.toNat)).cps.toList = (Nat.repr (c / 10)).toList.map Char.toNat ++ 46 :: [(Nat.digitChar (c % 10)).toNat] := by
    rw [strOf_codes]
    unfold bodyOf
    rw [if_neg (by decide), List.map_append]
    rfl
  have hd := digit_char (c % 10) (Nat.mod_lt _ (by decide))
  have h1 : 46 ∉ (Nat.repr (c / 10)).toList.map Char.toNat := fun h => by
    obtain ⟨ch, hm, e⟩ := List.mem_map.mp h
    have := repr_digit _ ch hm
    omega
  rw [dot_str, part_one hx h1 (by rw [hd]; simp; omega), num_str, num_str]
  have e : (Nat.repr (c % 10)).toList = [Nat.digitChar (c % 10)] := by
    rw [Nat.toList_repr, Nat.toDigits_of_lt_base (Nat.mod_lt _ (by decide))]
  rw [e]; rfl
theorem part0 (c : Nat) : Txt.partition (strOf ((bodyOf 0 c).map Char.toNat)) (Str.ofString ".") = (Str.ofString (toString ((c : Nat) : Int)), Str.empty, Str.empty) := by
  have h1 : 46 ∉ (strOf ((bodyOf 0 c).map Char.toNat)).cps.toList := fun h => by
    rw [strOf_codes] at h
    obtain ⟨ch, hm, e⟩ := List.mem_map.mp h
    have := repr_digit _ ch hm
    omega
  rw [dot_str, part_none h1, num_str]
  rfl
theorem digit_len (d : Nat) (hd : d < 10) : (Str.ofString (toString ((d : Nat) : Int))).length = 1 := by
  rw [num_str, Nat.toList_repr, Nat.toDigits_of_lt_base hd]
  rfl

theorem many_small (z : Int) (hz : z.natAbs < 2 ^ 53) : many z (kind z.natAbs).1 (kind z.natAbs).2 < 20000 := by
  have hq := ((he_iff (z.natAbs * 10 ^ (kind z.natAbs).2) (2 ^ (10 * (kind z.natAbs).1)) (many z (kind z.natAbs).1 (kind z.natAbs).2) (Nat.two_pow_pos _)).mp rfl).1
  rcases kind_cases z.natAbs with ⟨k, ha⟩ | ⟨k, ha⟩ | ⟨k, ha⟩ | ⟨k, ha⟩ | ⟨k, ha⟩ | ⟨k, ha⟩ | ⟨k, ha⟩ | ⟨k, ha⟩ | ⟨k, ha⟩ <;> (rw [k] at hq ⊢; simp at hq ⊢; omega)

end

section
open PySem PySem.W PyProof.Rows

theorem pow5 (k : Nat) (h : k ≤ 4) : (1 : Int) ≤ 1024 ^ k ∧ (1024 : Int) ^ k ≤ 1099511627776 := by
  rcases (show k = 0 ∨ k = 1 ∨ k = 2 ∨ k = 3 ∨ k = 4 by omega) with rfl | rfl | rfl | rfl | rfl <;> decide

theorem getD_small (k : Nat) : -1 ≤ ([0, 1, -1] : List Int).getD k 0 ∧ ([0, 1, -1] : List Int).getD k 0 ≤ 1 := by
  match k with
  | 0 => decide
  | 1 => decide
  | 2 => decide
  | k + 3 => simp [List.getD]

theorem size_bound (n : Int) : ((1024 ^ (n.fmod 5).toNat * (n.fdiv 5).fmod 160000).fdiv 20 + ([0, 1, -1] : List Int).getD ((n.fdiv 800000).fmod 3).toNat 0).natAbs ≤ 8796093022208000 := by
  have h1 : 0 ≤ n.fmod 5 := Int.fmod_nonneg_of_pos n (by decide)
  have h2 : n.fmod 5 < 5 := Int.fmod_lt_of_pos n (by decide)
  have h3 : 0 ≤ (n.fdiv 5).fmod 160000 := Int.fmod_nonneg_of_pos _ (by decide)
  have h4 : (n.fdiv 5).fmod 160000 < 160000 := Int.fmod_lt_of_pos _ (by decide)
  have hp := pow5 (n.fmod 5).toNat (by omega)
  have hg := getD_small ((n.fdiv 800000).fmod 3).toNat
  generalize ([0, 1, -1] : List Int).getD ((n.fdiv 800000).fmod 3).toNat 0 = g at *
  generalize (1024 : Int) ^ (n.fmod 5).toNat = S at *
  generalize (n.fdiv 5).fmod 160000 = q at *
  have hm1 : 0 ≤ S * q := Int.mul_nonneg (by omega) h3
  have hm2 : S * q ≤ 1099511627776 * 159999 := by
    have a := Int.mul_le_mul_of_nonneg_right hp.2 h3
    have b := Int.mul_le_mul_of_nonneg_left (show q ≤ 159999 by omega) (show (0 : Int) ≤ 1099511627776 by decide)
    omega
  rw [Int.fdiv_eq_ediv_of_nonneg _ (by decide)]
  omega
theorem size_bound_neg (n : Int) : (-((1024 ^ (n.fmod 5).toNat * (n.fdiv 5).fmod 160000).fdiv 20 + ([0, 1, -1] : List Int).getD ((n.fdiv 800000).fmod 3).toNat 0)).natAbs ≤ 8796093022208000 := by
  rw [Int.natAbs_neg]; exact size_bound n

/-- the facts that the law's walk asks for, once way stands -/
structure WayOf (z lo hi W : Int) (b : Bool) : Prop where
  b1 : (W * lo).natAbs < 2 ^ 53
  b2 : (W * hi).natAbs < 2 ^ 53
  b3 : (W * (lo - 1)).natAbs < 2 ^ 53
  b4 : (W * (hi + 1)).natAbs < 2 ^ 53
  e1 : (fmtT (W * lo) b != fmtT z b) = false
  e2 : (fmtT (W * hi) b != fmtT z b) = false
  e3 : (fmtT (W * (lo - 1)) b == fmtT z b) = false
  e4 : (fmtT (W * (hi + 1)) b == fmtT z b) = false
theorem way_of {z lo hi W : Int} {b : Bool} (h : LawOf z lo hi b) (hW : W = if z < 0 then -1 else 1) : WayOf z lo hi W b := by
  have hw : W = 1 ∨ W = -1 := by rw [hW]; split <;> simp
  obtain ⟨l0, l1, l2, l3, l4, l5, l6, l7, l8⟩ := h
  rw [← hW] at l5 l6 l7 l8
  refine ⟨?_, ?_, ?_, ?_, by simpa using l5, by simpa using l6, by simpa using l7, by simpa using l8⟩
  all_goals (rcases hw with rfl | rfl <;> omega)
end

section
open PySem PySem.W PySem.Calls PyProof.Rows PySem.Spec
set_option maxHeartbeats 20000000

/-- low and high ahead of the unit's own reach -/
def LH (f m S a b : Int) : Prop := ∀ x : Int, (a ≤ x ∧ x ≤ b) ↔ ((2 * m - 1) * S ≤ 2 * f * x ∧ 2 * f * x ≤ (2 * m - 1) * S + 2 * S ∧ (m % 2 = 1 → (2 * m - 1) * S < 2 * f * x ∧ 2 * f * x < (2 * m - 1) * S + 2 * S))
section
variable {f m S : Int}
theorem neg_prod (m S : Int) : (1 - 2 * m) * S = -((2 * m - 1) * S) := by rw [← Int.neg_mul]; congr 1; omega
theorem up_prod (m S : Int) : (2 * m + 1) * S = (2 * m - 1) * S + 2 * S := by rw [← Int.add_mul]; congr 1; omega
theorem lh0 (hf : f = 1 ∨ f = 10) (h : ¬ m.fmod 2 = 1) : LH f m S (-(((1 - 2 * m) * S).fdiv (2 * f))) (((2 * m + 1) * S).fdiv (2 * f)) := by
  intro x
  rw [Int.fmod_eq_emod_of_nonneg _ (by decide)] at h
  rw [neg_prod, up_prod, Int.fdiv_eq_ediv_of_nonneg _ (by omega), Int.fdiv_eq_ediv_of_nonneg _ (by omega)]
  generalize (2 * m - 1) * S = P at *
  rcases hf with rfl | rfl <;> omega
theorem lh1 (hf : f = 1 ∨ f = 10) (h : m.fmod 2 = 1) (h1 : ((2 * m - 1) * S).fmod (2 * f) = 0) (h2 : ((2 * m + 1) * S).fmod (2 * f) = 0) : LH f m S (-(((1 - 2 * m) * S).fdiv (2 * f)) + 1) (((2 * m + 1) * S).fdiv (2 * f) - 1) := by
  intro x
  rw [Int.fmod_eq_emod_of_nonneg _ (by decide)] at h
  rw [Int.fmod_eq_emod_of_nonneg _ (by omega)] at h1 h2
  rw [up_prod] at h2
  rw [neg_prod, up_prod, Int.fdiv_eq_ediv_of_nonneg _ (by omega), Int.fdiv_eq_ediv_of_nonneg _ (by omega)]
  generalize (2 * m - 1) * S = P at *
  rcases hf with rfl | rfl <;> omega
theorem lh2 (hf : f = 1 ∨ f = 10) (h : m.fmod 2 = 1) (h1 : ((2 * m - 1) * S).fmod (2 * f) = 0) (h2 : ¬ ((2 * m + 1) * S).fmod (2 * f) = 0) : LH f m S (-(((1 - 2 * m) * S).fdiv (2 * f)) + 1) (((2 * m + 1) * S).fdiv (2 * f)) := by
  intro x
  rw [Int.fmod_eq_emod_of_nonneg _ (by decide)] at h
  rw [Int.fmod_eq_emod_of_nonneg _ (by omega)] at h1 h2
  rw [up_prod] at h2
  rw [neg_prod, up_prod, Int.fdiv_eq_ediv_of_nonneg _ (by omega), Int.fdiv_eq_ediv_of_nonneg _ (by omega)]
  generalize (2 * m - 1) * S = P at *
  rcases hf with rfl | rfl <;> omega
theorem lh3 (hf : f = 1 ∨ f = 10) (h : m.fmod 2 = 1) (h1 : ¬ ((2 * m - 1) * S).fmod (2 * f) = 0) (h2 : ((2 * m + 1) * S).fmod (2 * f) = 0) : LH f m S (-(((1 - 2 * m) * S).fdiv (2 * f))) (((2 * m + 1) * S).fdiv (2 * f) - 1) := by
  intro x
  rw [Int.fmod_eq_emod_of_nonneg _ (by decide)] at h
  rw [Int.fmod_eq_emod_of_nonneg _ (by omega)] at h1 h2
  rw [up_prod] at h2
  rw [neg_prod, up_prod, Int.fdiv_eq_ediv_of_nonneg _ (by omega), Int.fdiv_eq_ediv_of_nonneg _ (by omega)]
  generalize (2 * m - 1) * S = P at *
  rcases hf with rfl | rfl <;> omega
theorem lh4 (hf : f = 1 ∨ f = 10) (h : m.fmod 2 = 1) (h1 : ¬ ((2 * m - 1) * S).fmod (2 * f) = 0) (h2 : ¬ ((2 * m + 1) * S).fmod (2 * f) = 0) : LH f m S (-(((1 - 2 * m) * S).fdiv (2 * f))) (((2 * m + 1) * S).fdiv (2 * f)) := by
  intro x
  rw [Int.fmod_eq_emod_of_nonneg _ (by decide)] at h
  rw [Int.fmod_eq_emod_of_nonneg _ (by omega)] at h1 h2
  rw [up_prod] at h2
  rw [neg_prod, up_prod, Int.fdiv_eq_ediv_of_nonneg _ (by omega), Int.fdiv_eq_ediv_of_nonneg _ (by omega)]
  generalize (2 * m - 1) * S = P at *
  rcases hf with rfl | rfl <;> omega
theorem ends_of {least most a b : Int} (h : LH f m S a b) : Ends f m ((2 * m - 1) * S) S least most (if least > a then least else a) (if most < b then most else b) := by
  intro x
  have hx := h x
  constructor
  · rintro ⟨h1, h2⟩
    have h3 := hx.mp ⟨by split at h1 <;> omega, by split at h2 <;> omega⟩
    exact ⟨by split at h1 <;> omega, by split at h2 <;> omega, h3⟩
  · rintro ⟨h1, h2, h3⟩
    have h4 := hx.mpr h3
    exact ⟨by split <;> omega, by split <;> omega⟩
end

section
variable {prog : Program} {w : World} {A : Around} {E : Value → Shared → Prop} {s : Shared} {x : Str} {t : Tok} {Q : Value → Shared → Prop}
theorem lenS {n : Nat} (e : x.length = n) (hn : n ≤ 1000) (h : ∀ t' k, Q (.int (n : Int) t') { s with toks := k }) : wpAny (model prog w) A (call (.builtin "len") [.str x t]) Q E s := by
  refine P.len_str (by omega) ?_
  rw [e]; exact h _ _
end
theorem meetDig {M : Model} {A : Around} {E : Value → Shared → Prop} {s : Shared} {g : Heap} {L : Addr} {m : Str → Option Value} {news : List (Addr × Obj)} {mk : Bool} {AA DG : Str} {t : Sem Value} {Q : Value → Shared → Prop} (_hq : DigOf mk AA DG) (F : Fr g L s.heap m) (N : News g L s.heap news) (h1 : wpAny M A t (MeetS g L m news s DG) E s)
    (h2 : ∀ t' h' tk', Fr g L h' m → News g L h' news → Q (.str DG t') { s with heap := h', toks := tk' }) : wpAny M A t Q E s := meetS F N h1 h2
theorem tupIndexMethod {prog : Program} {w : World} {A : Around} {E : Value → Shared → Prop} {s : Shared} {h₀ : Heap} {L D : Addr} {news : List (Addr × Obj)} {its : Array Value} {n : Nat} {pl : Sem Bool} {Q : Value × List Value → Shared → Prop} (N : News h₀ L s.heap news) (hm : (D, ({ cls := .type "tuple", data := .seq its n } : Obj)) ∈ news)
    (h : Q (.builtin "tuple.index", [.ref D]) s) : wpAny (model prog w) A (getMethod (.ref D) (PySem.Str.ofString "index") pl) Q E s :=
  getMethod_builtin ⟨_, (N _ hm).1, rfl⟩ PySem.F.plainAttrs_tuple PySem.F.slot_tuple_index PySem.F.type_tuple_index (fun a e => by cases e; exact ⟨_, (N _ hm).1, rfl⟩) h

local macro_rules | `(tactic| walk_at "call builtin:str.split") => `(tactic| (k_here; (refine KSpl.split1 (by k_asm) (by k_asm) (by decide) ?_ (by rw [sizeLine_eq]; omega)); intro D' l' h' k' e' a' F' N' l1; (try k_lt l1); (replace e' := e'.trans (by assumption)); kspl_open e'; (simp only [strValues, List.map_cons, List.map_nil] at N' a')))
local macro_rules | `(tactic| walk_at "compareOp NotIn str ref") => `(tactic| (k_here; (with_reducible show wpAny _ _ (compareOp CmpOp.NotIn (Value.str _ _) (Value.ref _)) _ _ _); (first
  | ((with_reducible show wpAny _ _ (compareOp CmpOp.NotIn (Value.str (unitS _) _) (Value.ref _)) _ _ _); k_dflt (refine' tup_notin ?hj ?ht ?_; (case hj => assumption); (case ht => exact News.isTup (by k_asm) (by k_mem))))
  | ((fail_if_success (with_reducible show wpAny _ _ (compareOp CmpOp.NotIn (Value.str (unitS _) _) (Value.ref _)) _ _ _)); k_dflt (refine' notin_marks ?ht ?hc ?_; (case hc => with_reducible assumption); (case ht => exact News.isTup (by k_asm) (by k_mem))))); (try dsimp only [Bool.not_true, Bool.not_false])))
local macro_rules | `(tactic| walk_at "compareOp In str ref") => `(tactic| (k_here; (with_reducible show wpAny _ _ (compareOp CmpOp.In (Value.str _ _) (Value.ref _)) _ _ _); k_dflt (refine' in_marks ?ht ?hc ?_; (case hc => with_reducible assumption); (case ht => exact News.isTup (by k_asm) (by k_mem)))))
local macro_rules | `(tactic| walk_at "subscriptTail") => `(tactic| (k_here; (with_reducible show wpAny _ _ (subscriptTail _ (Expr.Slice _ _ _ _) (Value.str _ _) (Value.ref _)) _ _ _); (with_reducible rename Fr _ _ _ _ => F'); (with_reducible rename News _ _ _ _ => N'); (first
  | ((with_reducible show wpAny _ _ (subscriptTail _ (Expr.Slice none (some _) none _) _ _) _ _ _); (refine sliceTo (s := ⟨_, _, _, _, _⟩) F' N' (by with_reducible assumption) (by assumption) ?_))
  | ((with_reducible show wpAny _ _ (subscriptTail _ (Expr.Slice (some _) none none _) _ _) _ _ _); (refine sliceFrom (s := ⟨_, _, _, _, _⟩) F' N' (by with_reducible assumption) (by assumption) ?_))); intro _ _ _ _ _))
local macro_rules | `(tactic| walk_at "compareOp Eq str str") => `(tactic| (k_here; (with_reducible show wpAny _ _ (compareOp CmpOp.Eq (Value.str _ _) (Value.str _ _)) _ _ _); (refine eqS (by with_reducible assumption) ?_)))
local macro_rules | `(tactic| walk_at "compareOp NotEq str str") => `(tactic| (k_here; (with_reducible show wpAny _ _ (compareOp CmpOp.NotEq (Value.str _ _) (Value.str _ _)) _ _ _); (refine neS (c := false) (bne_self_eq_false _) ?_)))
local macro_rules | `(tactic| walk_at "call builtin:str.partition") => `(tactic| (k_here; (with_reducible show wpAny _ _ (call (Value.builtin "str.partition") [Value.str _ _, Value.str _ _]) _ _ _); (refine KXpa.partition (by k_asm) (by k_asm) (by decide) (by with_reducible assumption) (by with_reducible assumption) (by with_reducible assumption) (by rw [sizeLine_eq]; omega) ?_); intro D' _ _ _ _ _ F' N' l1; (try k_lt l1)))
local macro_rules | `(tactic| walk_at "call builtin:str.isdigit") => `(tactic| (k_here; (with_reducible show wpAny _ _ (call (Value.builtin "str.isdigit") [Value.str _ _]) _ _ _); (refine KXw.isdigit (by with_reducible assumption) ?_)))
local macro_rules | `(tactic| walk_at "call builtin:len") => `(tactic| (k_here; (with_reducible show wpAny _ _ (call (Value.builtin "len") [Value.str _ _]) _ _ _); (refine lenS (by with_reducible assumption) (by decide) ?_); intro _ _))
local macro_rules | `(tactic| walk_at "call builtin:tuple.index") => `(tactic| (k_here; k_dflt (refine' tup_index ?hj ?ht ?_; (case hj => assumption); (case ht => exact News.isTup (by k_asm) (by k_mem))); intro _ _))
local macro_rules | `(tactic| walk_at "binaryOp Pow int int") => `(tactic| (k_here; (refine' powS ?hj ?hS ?_; (case hj => assumption); (case hS => assumption)); intro _ _))
structure OwnIte : Prop where
  mark :: (one : True)
theorem ite_by {c : Prop} [Decidable c] {A B : Prop} (h1 : c → A) (h2 : ¬ c → B) : if c then A else B := by
  by_cases h : c
  · rw [if_pos h]; exact h1 h
  · rw [if_neg h]; exact h2 h
local macro_rules | `(tactic| walk_at "ite") => `(tactic| ((rename OwnIte => hOwn); (fail_if_success k_closed); (refine ite_by ?_ ?_) <;> (intro hc; (try simp only [beq_iff_eq, decide_eq_true_eq, gt_iff_lt] at hc))))
local macro_rules | `(tactic| walk_at "execs cons") => `(tactic| ((rename OwnIte => hOwn); (with_reducible refine wpAny_execs_cons ?_); try dsimp only))
local macro_rules | `(tactic| walk_at "execs nil") => `(tactic| ((rename OwnIte => hOwn); (with_reducible refine wpAny_execs_nil ?_); try dsimp only))
local macro_rules | `(tactic| walk_at "exec If") => `(tactic| ((rename OwnIte => hOwn); refine wpAny_If ?_))
local macro_rules | `(tactic| walk_at "getMethod ref") => `(tactic| (k_here; (with_reducible show wpAny _ _ (getMethod (Value.ref _) (PySem.Str.ofString "index") _) _ _ _); k_dflt (refine' tupIndexMethod ?N ?m ?_; (case N => k_asm); (case m => k_mem))))

theorem ends1 {w : World} {mean : ExcName → Option Value} {mg mb : Str → Option Value} (news : List (Addr × Obj)) (T A MK DG PT : Str) (tt : Tok) (b ng pl mk : Bool) (j : Nat) (wv tv S x0 : Int)
   (hT : T.length ≤ 1000) (hA : A.length ≤ 1000) (hDG : DG.length ≤ 1000) (hj : j ≤ 4) (hj1 : 1 ≤ j) (hsp : Txt.split T (Str.ofString " ") = [A, unitS j])
   (hmk0 : Txt.slice A none (some 1) = MK) (hmk1 : (MK == Str.ofString "-") = ng) (hmk2 : (MK == Str.ofString "+") = pl) (hmk3 : (MK == Str.ofString "+" || MK == Str.ofString "-") = mk) (hq : Quad b ng pl mk) (hdg : DigOf mk A DG)
   (hp1 : (Txt.partition DG (Str.ofString ".")).1 = Str.ofString (toString wv)) (hp2 : (Txt.partition DG (Str.ofString ".")).2.1 = PT) (hp3 : (Txt.partition DG (Str.ofString ".")).2.2 = Str.ofString (toString tv)) (hpt : (PT == Str.ofString ".") = true)
   (hw0 : 0 ≤ wv) (hw1 : wv < 10 ^ 10) (hwd : Txt.isdigit (Str.ofString (toString wv)) = true) (ht0 : 0 ≤ tv) (ht1 : tv < 10) (htd : Txt.isdigit (Str.ofString (toString tv)) = true) (htl : (Str.ofString (toString tv)).length = 1)
   (hS : (1024 : Int) ^ j = S) (hS0 : 1 ≤ S) (hS1 : S ≤ 1099511627776)
   (hx1 : (10 * S) ≤ x0) (hx2 : x0 ≤ (100 * S - 1)) (hx3 : (2 * (wv * 10 + tv) - 1) * S ≤ 2 * 10 * x0 ∧ 2 * 10 * x0 ≤ (2 * (wv * 10 + tv) - 1) * S + 2 * S ∧ ((wv * 10 + tv) % 2 = 1 → (2 * (wv * 10 + tv) - 1) * S < 2 * 10 * x0 ∧ 2 * 10 * x0 < (2 * (wv * 10 + tv) - 1) * S + 2 * S)) (hb0 : ng = false ∨ (ng = true ∧ (wv * 10 + tv) ≠ 0)) :
   EndsClaim w mean mg mb news [Value.str T tt, Value.bool b] ng (Ends 10 (wv * 10 + tv) ((2 * (wv * 10 + tv) - 1) * S) S (10 * S) (100 * S - 1)) := by
  dsimp only [EndsClaim]
  w_top off
  k_fill
  intros
  rename_i hret
  have cbI : CbIn 28 := CbIn.mk
  refine wpAny_call ?_
  k_dflt cell_enter
  repeat ((fail_if_success (with_reducible show wpAny _ _ (PySem.isTrue (PySem.Expr.BoolOp _ [PySem.Expr.BoolOp _ _ _, PySem.Expr.BoolOp _ _ _] _) _ _) _ _ _)); first | (k_unfold; (try dsimp only)) | (k_end; wrow_close) | walk1 | (dsimp only; walk1) | (leave1; try dsimp only))
  k_here
  rename Fr _ _ _ _ => cF
  rename News _ _ _ _ => cN
  refine' meetB (c := false) cF cN ?h1 ?_
  case h1 =>
    rcases hq with ⟨e1, e2, e3, e4⟩ | ⟨e1, e2, e3, e4⟩ | ⟨e1, e2, e3, e4⟩ | ⟨e1, e2, e3, e4⟩
    all_goals (clear hx1 hx2 hx3 hb0; subst e1 e2 e3 e4; k_steps; all_goals (refine meet_end rfl (by k_asm) (by assumption) (by first | kcj_in | kcj_all)))
  clear cF cN; intro h' tk' F' N'
  repeat ((fail_if_success (with_reducible show wpAny _ _ (PySem.eval (PySem.Expr.IfExp (PySem.Expr.Compare _ [CmpOp.In] _ _) _ _ _) _) _ _ _)); first | (k_unfold; (try dsimp only)) | (k_end; wrow_close) | walk1 | (dsimp only; walk1) | (leave1; try dsimp only))
  k_here
  rename Fr _ _ _ _ => cF
  rename News _ _ _ _ => cN
  refine' meetDig hdg cF cN ?g1 ?_
  case g1 =>
    clear hx1 hx2 hx3 hb0
    rcases hdg with ⟨e1, e2⟩ | ⟨e1, e2⟩
    · subst e1
      k_steps
      all_goals (refine meetS_end rfl (by k_asm) (by assumption) (by first | kcj_in | kcj_all))
    · subst e1
      subst e2
      k_steps
      all_goals (refine meetS_end rfl (by k_asm) (by assumption) (by first | kcj_in | kcj_all))
  clear cF cN; intro t' h' tk' F' N'
  repeat ((fail_if_success (with_reducible show wpAny _ _ (PySem.isTrue (PySem.Expr.BoolOp _ [PySem.Expr.Compare _ _ _ _, PySem.Expr.Compare _ _ _ _, PySem.Expr.UnaryOp _ _ _] _) _ _) _ _ _)); first | (k_unfold; (try dsimp only)) | (k_end; wrow_close) | walk1 | (dsimp only; walk1) | (leave1; try dsimp only))
  k_here
  rename Fr _ _ _ _ => cF
  rename News _ _ _ _ => cN
  refine' meetB (c := false) cF cN ?st ?_
  case st =>
    k_steps
    all_goals first | (refine meet_end rfl (by k_asm) (by assumption) (by first | kcj_in | kcj_all)) | (exfalso; omega)
  clear cF cN; intro h' tk' F' N'
  repeat ((fail_if_success (with_reducible show wpAny _ _ (PySem.exec (PySem.Stmt.If (PySem.Expr.Compare (PySem.Expr.BinOp _ PySem.Operator.Mod _ _) [CmpOp.Eq] _ _) _ _ _) _) _ _ _)); first | (k_unfold; (try dsimp only)) | (k_end; wrow_close) | walk1 | (dsimp only; walk1) | (leave1; try dsimp only))
  k_here
  rename Fr _ _ _ _ => cF
  rename News _ _ _ _ => cN
  refine' meetLH (Str.ofString "low") (Str.ofString "high") (LH 10 (wv * 10 + tv) S) cF cN ?lh ?_
  case lh =>
    clear hx1 hx2 hx3 hb0
    have hOwn : OwnIte := ⟨trivial⟩
    repeat' ((fail_if_success (with_reducible show MeetLH _ _ _ _ _ _ _ _ _ _)); first | (k_unfold; (try dsimp only)) | walk1 | (dsimp only; walk1))
    all_goals (refine meetLH_end (by k_asm) (by assumption) (by first | kcj_in | kcj_all) rfl rfl (by intro z h1 h2; simp [h1, h2]) ?_)
    all_goals first | exact lh0 (by decide) (by assumption) | exact lh1 (by decide) (by assumption) (by assumption) (by assumption) | exact lh2 (by decide) (by assumption) (by assumption) (by assumption) | exact lh3 (by decide) (by assumption) (by assumption) (by assumption) | exact lh4 (by decide) (by assumption) (by assumption) (by assumption)
  clear cF cN; intro lo1 hi1 t' u' h' tk' hLH F' N'
  have hin := (hLH x0).mpr hx3
  obtain ⟨hin1, hin2⟩ := hin
  repeat ((fail_if_success (with_reducible show wpAny _ _ (PySem.isTrue (PySem.Expr.BoolOp _ [PySem.Expr.Compare _ [CmpOp.Gt] _ _, PySem.Expr.BoolOp _ _ _] _) _ _) _ _ _)); first | (k_unfold; (try dsimp only)) | (k_end; wrow_close) | walk1 | (dsimp only; walk1) | (leave1; try dsimp only))
  k_here
  rename Fr _ _ _ _ => cF
  rename News _ _ _ _ => cN
  refine' meetB (c := false) cF cN ?hb ?_
  case hb =>
    clear hx3
    have hOwn : OwnIte := ⟨trivial⟩
    rcases hb0 with e1 | ⟨e1, e2⟩
    all_goals (subst e1; k_steps; all_goals first | (refine meet_end rfl (by k_asm) (by assumption) (by first | kcj_in | kcj_all)) | (exfalso; omega))
  clear cF cN; intro h' tk' F' N'
  k_steps
  all_goals (exact hret _ _ _ _ _ _ _ (ends_of hLH) (by k_asm) (cb_drop (by assumption) (by first | kcj_in | kcj_all)) (by rename (_ < _ ∧ _ < _ ∧ _ < _ ∧ AllLt _ news) => l9; exact kst_ltOf l9.2.2.2))

theorem ends0 {w : World} {mean : ExcName → Option Value} {mg mb : Str → Option Value} (news : List (Addr × Obj)) (T A MK DG PT TN : Str) (tt : Tok) (b ng pl mk : Bool) (j : Nat) (wv S x0 least most : Int)
   (hT : T.length ≤ 1000) (hA : A.length ≤ 1000) (hDG : DG.length ≤ 1000) (hj : j ≤ 4) (hsp : Txt.split T (Str.ofString " ") = [A, unitS j])
   (hmk0 : Txt.slice A none (some 1) = MK) (hmk1 : (MK == Str.ofString "-") = ng) (hmk2 : (MK == Str.ofString "+") = pl) (hmk3 : (MK == Str.ofString "+" || MK == Str.ofString "-") = mk) (hq : Quad b ng pl mk) (hdg : DigOf mk A DG)
   (hp1 : (Txt.partition DG (Str.ofString ".")).1 = Str.ofString (toString wv)) (hp2 : (Txt.partition DG (Str.ofString ".")).2.1 = PT) (hp3 : (Txt.partition DG (Str.ofString ".")).2.2 = TN) (hpt : (PT == Str.ofString ".") = false)
   (hw0 : 0 ≤ wv) (hw1 : wv < 10 ^ 10) (hwd : Txt.isdigit (Str.ofString (toString wv)) = true)
   (hS : (1024 : Int) ^ j = S) (hS0 : 1 ≤ S) (hS1 : S ≤ 1099511627776) (hle1 : 0 < j → least = 100 * S) (hle0 : j = 0 → least = 0) (hmo1 : j < 4 → most = 10240 * S - 1) (hmo0 : j = 4 → most = 9007199254740992)
   (hx1 : least ≤ x0) (hx2 : x0 ≤ most) (hx3 : (2 * wv - 1) * S ≤ 2 * 1 * x0 ∧ 2 * 1 * x0 ≤ (2 * wv - 1) * S + 2 * S ∧ (wv % 2 = 1 → (2 * wv - 1) * S < 2 * 1 * x0 ∧ 2 * 1 * x0 < (2 * wv - 1) * S + 2 * S)) (hb0 : ng = false ∨ (ng = true ∧ wv ≠ 0)) :
   EndsClaim w mean mg mb news [Value.str T tt, Value.bool b] ng (Ends 1 wv ((2 * wv - 1) * S) S least most) := by
  dsimp only [EndsClaim]
  w_top off
  k_fill
  intros
  rename_i hret
  have cbI : CbIn 28 := CbIn.mk
  refine wpAny_call ?_
  k_dflt cell_enter
  repeat ((fail_if_success (with_reducible show wpAny _ _ (PySem.isTrue (PySem.Expr.BoolOp _ [PySem.Expr.BoolOp _ _ _, PySem.Expr.BoolOp _ _ _] _) _ _) _ _ _)); first | (k_unfold; (try dsimp only)) | (k_end; wrow_close) | walk1 | (dsimp only; walk1) | (leave1; try dsimp only))
  k_here
  rename Fr _ _ _ _ => cF
  rename News _ _ _ _ => cN
  refine' meetB (c := false) cF cN ?h1 ?_
  case h1 =>
    rcases hq with ⟨e1, e2, e3, e4⟩ | ⟨e1, e2, e3, e4⟩ | ⟨e1, e2, e3, e4⟩ | ⟨e1, e2, e3, e4⟩
    all_goals (clear hx1 hx2 hx3 hb0; subst e1 e2 e3 e4; k_steps; all_goals (refine meet_end rfl (by k_asm) (by assumption) (by first | kcj_in | kcj_all)))
  clear cF cN; intro h' tk' F' N'
  repeat ((fail_if_success (with_reducible show wpAny _ _ (PySem.eval (PySem.Expr.IfExp (PySem.Expr.Compare _ [CmpOp.In] _ _) _ _ _) _) _ _ _)); first | (k_unfold; (try dsimp only)) | (k_end; wrow_close) | walk1 | (dsimp only; walk1) | (leave1; try dsimp only))
  k_here
  rename Fr _ _ _ _ => cF
  rename News _ _ _ _ => cN
  refine' meetDig hdg cF cN ?g1 ?_
  case g1 =>
    clear hx1 hx2 hx3 hb0
    rcases hdg with ⟨e1, e2⟩ | ⟨e1, e2⟩
    · subst e1
      k_steps
      all_goals (refine meetS_end rfl (by k_asm) (by assumption) (by first | kcj_in | kcj_all))
    · subst e1
      subst e2
      k_steps
      all_goals (refine meetS_end rfl (by k_asm) (by assumption) (by first | kcj_in | kcj_all))
  clear cF cN; intro t' h' tk' F' N'
  repeat ((fail_if_success (with_reducible show wpAny _ _ (PySem.eval (PySem.Expr.IfExp (PySem.Expr.Compare _ [CmpOp.Gt] _ _) _ _ _) _) _ _ _)); first | (k_unfold; (try dsimp only)) | (k_end; wrow_close) | walk1 | (dsimp only; walk1) | (leave1; try dsimp only))
  k_here
  rename Fr _ _ _ _ => cF
  rename News _ _ _ _ => cN
  refine' meetV least cF cN ?vleast ?_
  case vleast =>
    k_steps
    all_goals (refine meetV_end (by first | omega | (simp only [Int.reducePow, Int.reduceToNat, Int.toNat] at *; omega)) (by k_asm) (by assumption) (by first | kcj_in | kcj_all))
  clear cF cN; intro t' h' tk' F' N'
  repeat ((fail_if_success (with_reducible show wpAny _ _ (PySem.eval (PySem.Expr.IfExp (PySem.Expr.Compare _ [CmpOp.Lt] _ _) _ _ _) _) _ _ _)); first | (k_unfold; (try dsimp only)) | (k_end; wrow_close) | walk1 | (dsimp only; walk1) | (leave1; try dsimp only))
  k_here
  rename Fr _ _ _ _ => cF
  rename News _ _ _ _ => cN
  refine' meetV most cF cN ?vmost ?_
  case vmost =>
    k_steps
    all_goals (refine meetV_end (by first | omega | (simp only [Int.reducePow, Int.reduceToNat, Int.toNat] at *; omega)) (by k_asm) (by assumption) (by first | kcj_in | kcj_all))
  clear cF cN; intro t' h' tk' F' N'
  repeat ((fail_if_success (with_reducible show wpAny _ _ (PySem.exec (PySem.Stmt.If (PySem.Expr.Compare (PySem.Expr.BinOp _ PySem.Operator.Mod _ _) [CmpOp.Eq] _ _) _ _ _) _) _ _ _)); first | (k_unfold; (try dsimp only)) | (k_end; wrow_close) | walk1 | (dsimp only; walk1) | (leave1; try dsimp only))
  k_here
  rename Fr _ _ _ _ => cF
  rename News _ _ _ _ => cN
  refine' meetLH (Str.ofString "low") (Str.ofString "high") (LH 1 wv S) cF cN ?lh ?_
  case lh =>
    clear hx1 hx2 hx3 hb0
    have hOwn : OwnIte := ⟨trivial⟩
    repeat' ((fail_if_success (with_reducible show MeetLH _ _ _ _ _ _ _ _ _ _)); first | (k_unfold; (try dsimp only)) | walk1 | (dsimp only; walk1))
    all_goals (refine meetLH_end (by k_asm) (by assumption) (by first | kcj_in | kcj_all) rfl rfl (by intro z h1 h2; simp [h1, h2]) ?_)
    all_goals first | exact lh0 (by decide) (by assumption) | exact lh1 (by decide) (by assumption) (by assumption) (by assumption) | exact lh2 (by decide) (by assumption) (by assumption) (by assumption) | exact lh3 (by decide) (by assumption) (by assumption) (by assumption) | exact lh4 (by decide) (by assumption) (by assumption) (by assumption)
  clear cF cN; intro lo1 hi1 t' u' h' tk' hLH F' N'
  have hin := (hLH x0).mpr hx3
  obtain ⟨hin1, hin2⟩ := hin
  repeat ((fail_if_success (with_reducible show wpAny _ _ (PySem.isTrue (PySem.Expr.BoolOp _ [PySem.Expr.Compare _ [CmpOp.Gt] _ _, PySem.Expr.BoolOp _ _ _] _) _ _) _ _ _)); first | (k_unfold; (try dsimp only)) | (k_end; wrow_close) | walk1 | (dsimp only; walk1) | (leave1; try dsimp only))
  k_here
  rename Fr _ _ _ _ => cF
  rename News _ _ _ _ => cN
  refine' meetB (c := false) cF cN ?hb ?_
  case hb =>
    clear hx3
    have hOwn : OwnIte := ⟨trivial⟩
    rcases hb0 with e1 | ⟨e1, e2⟩
    all_goals (subst e1; k_steps; all_goals first | (refine meet_end rfl (by k_asm) (by assumption) (by first | kcj_in | kcj_all)) | (exfalso; omega))
  clear cF cN; intro h' tk' F' N'
  k_steps
  all_goals (exact hret _ _ _ _ _ _ _ (ends_of hLH) (by k_asm) (cb_drop (by assumption) (by first | kcj_in | kcj_all)) (by rename (_ < _ ∧ _ < _ ∧ _ < _ ∧ AllLt _ news) => l9; exact kst_ltOf l9.2.2.2))

end

section
open PySem PySem.W PySem.Calls PyProof.Rows PySem.Spec
theorem self_in (z : Int) : let m : Int := many z (kind z.natAbs).1 (kind z.natAbs).2; let S : Int := 1024 ^ (kind z.natAbs).1; let f : Int := 10 ^ (kind z.natAbs).2
    (2 * m - 1) * S ≤ 2 * f * z.natAbs ∧ 2 * f * z.natAbs ≤ (2 * m - 1) * S + 2 * S ∧ (m % 2 = 1 → (2 * m - 1) * S < 2 * f * z.natAbs ∧ 2 * f * z.natAbs < (2 * m - 1) * S + 2 * S) := by
  have h := (he_iff (z.natAbs * 10 ^ (kind z.natAbs).2) (2 ^ (10 * (kind z.natAbs).1)) (many z (kind z.natAbs).1 (kind z.natAbs).2) (Nat.two_pow_pos _)).mp rfl
  rw [pow_1024] at h
  have e2 : 2 * ((z.natAbs * 10 ^ (kind z.natAbs).2 : Nat) : Int) = 2 * 10 ^ (kind z.natAbs).2 * (z.natAbs : Int) := by push_cast; rw [Int.mul_assoc, Int.mul_comm ((z.natAbs : Nat) : Int)]
  rw [e2] at h
  exact h

theorem many_zero (z : Int) (hz : z < 0) : many z (kind z.natAbs).1 (kind z.natAbs).2 ≠ 0 := by
  intro h0
  have h := (self_in z).2.1
  rw [h0] at h
  rcases kind_cases z.natAbs with ⟨k, ha⟩ | ⟨k, ha⟩ | ⟨k, ha⟩ | ⟨k, ha⟩ | ⟨k, ha⟩ | ⟨k, ha⟩ | ⟨k, ha⟩ | ⟨k, ha⟩ | ⟨k, ha⟩ <;> (rw [k] at h; simp at h; omega)

section
variable {w : World} {mean : ExcName → Option Value} {mg mb : Str → Option Value} {news : List (Addr × Obj)} {z : Int} {tz : Tok} {b : Bool}
theorem ends_all (hz : z.natAbs < 2 ^ 53) : EndsClaim w mean mg mb news [Value.str (fmtT z b) tz, Value.bool b] (decide (z < 0)) (EndsOf z) := by
  obtain ⟨MK, k0, k1, k2, k3, k4⟩ := marks b (decide (z < 0)) (kind z.natAbs).2 (many z (kind z.natAbs).1 (kind z.natAbs).2)
  have hT := text_length z hz b
  have hA := piece_length b z hz (kind z.natAbs).1 (kind z.natAbs).2 (kind_le _).2
  have hD := body_length z hz (kind z.natAbs).1 (kind z.natAbs).2 (kind_le _).2
  have hsp := text_split z b
  have hm := many_small z hz
  have hs := self_in z
  have hk := (kind_iff z.natAbs z.natAbs (by omega)).mp rfl
  have hn : decide (z < 0) = false ∨ (decide (z < 0) = true ∧ many z (kind z.natAbs).1 (kind z.natAbs).2 ≠ 0) := by
    by_cases h : z < 0
    · exact .inr ⟨by simpa using h, many_zero z h⟩
    · exact .inl (by simpa using h)
  have hkc := kind_cases z.natAbs
  have hp5 := pow5 (kind z.natAbs).1 (kind_le _).1
  have hkl := kind_le z.natAbs
  unfold EndsOf
  generalize hM : many z (kind z.natAbs).1 (kind z.natAbs).2 = c at *
  generalize hJP : kind z.natAbs = jp at *
  obtain ⟨j, p⟩ := jp
  dsimp only at *
  rcases (show p = 0 ∨ p = 1 by omega) with rfl | rfl
  · have hpart := part0 c
    have h := ends0 (w := w) (mean := mean) (mg := mg) (mb := mb) news (fmtT z b) (strOf (piece b (decide (z < 0)) (bodyOf 0 c))) MK (strOf ((bodyOf 0 c).map Char.toNat)) Str.empty Str.empty tz b (decide (z < 0)) (b && !decide (z < 0)) (b || decide (z < 0)) j (c : Int) (1024 ^ j) z.natAbs (leastOf j 0) (mostOf j 0)
      hT (by omega) hD (by omega) hsp k0 k1 k2 k3 (quad_of _ _) k4 (by rw [hpart]) (by rw [hpart]) (by rw [hpart]) (by decide +kernel) (by omega) (by omega) (num_isdigit c) rfl hp5.1 hp5.2
      (by intro h; unfold leastOf; simp [h]) (by intro h; subst h; rfl) (by intro h; unfold mostOf; simp [h]) (by intro h; subst h; rfl) hk.1 hk.2 (by simpa using hs) (by rcases hn with h | ⟨h1, h2⟩; exact .inl h; exact .inr ⟨h1, by omega⟩)
    simpa using h
  · have hpart := part1 c
    have hj1 : 1 ≤ j := by
      rcases hkc with ⟨k, ha⟩ | ⟨k, ha⟩ | ⟨k, ha⟩ | ⟨k, ha⟩ | ⟨k, ha⟩ | ⟨k, ha⟩ | ⟨k, ha⟩ | ⟨k, ha⟩ | ⟨k, ha⟩ <;> (simp at k <;> omega)
    have e : ((c / 10 : Nat) : Int) * 10 + ((c % 10 : Nat) : Int) = (c : Int) := by omega
    have h := ends1 (w := w) (mean := mean) (mg := mg) (mb := mb) news (fmtT z b) (strOf (piece b (decide (z < 0)) (bodyOf 1 c))) MK (strOf ((bodyOf 1 c).map Char.toNat)) (Str.ofString ".") tz b (decide (z < 0)) (b && !decide (z < 0)) (b || decide (z < 0)) j ((c / 10 : Nat) : Int) ((c % 10 : Nat) : Int) (1024 ^ j) z.natAbs
      hT (by omega) hD (by omega) hj1 hsp k0 k1 k2 k3 (quad_of _ _) k4 (by rw [hpart]) (by rw [hpart]) (by rw [hpart]) (by decide +kernel) (by omega) (by omega) (num_isdigit _) (by omega) (by omega) (num_isdigit _) (digit_len _ (Nat.mod_lt _ (by decide))) rfl hp5.1 hp5.2
      hk.1 hk.2 (by rw [e]; simpa using hs) (by rw [e]; rcases hn with h | ⟨h1, h2⟩; exact .inl h; exact .inr ⟨h1, by omega⟩)
    rw [e] at h
    exact h
end
end

section
open PySem PySem.W PySem.Calls PyProof.Rows PySem.Spec
section
variable {w : World} {mean : ExcName → Option Value} {mg mb : Str → Option Value} {news : List (Addr × Obj)} {z : Int} {tz : Tok} {b : Bool}
  {dp un : Nat} {gd : Option (List Code)} {cn : Str} {cs : Scope} {a : Addr} {ccd : Value} {cl : List (Str × Addr)} {outer : List Env} {A₀ : Around} {base h₀ : Heap} {L : Addr} {m : Str → Option Value} {s : Shared} {Q E : Value → Shared → Prop}
theorem fmt_call (hz : z.natAbs < 2 ^ 53) (k1 : Below A₀ base outer h₀) (k2 : Fr h₀ L s.heap m) (k3 : (hd.heap_39 w.params).In h₀) (k4 : News h₀ L s.heap news) (k5 : Top hd.view_39 (looseW hd.view_39 []) mean mg mb h₀) (kK : cs.kind = .function) (kd : dp + 1 < recursionLimit) (ku : un + 8 < cLine)
    (kR : ∀ (t : Tok) (h' : Heap) (tk' : Nat), Fr h₀ L h' m → News h₀ L h' news → Q (.str (fmtT z b) t) { s with heap := h', toks := tk' }) :
    wpAny (model Challenge.rw_sn0122_01.row.prog w) (ktrTop dp un gd cn cs L a ccd cl outer) (call (.ref 21) [.int z tz, .bool b]) Q E s :=
  fmt_walk (mean := mean) (mg := mg) (mb := mb) news z tz b hz dp un gd cn cs a ccd cl outer A₀ base h₀ L m s Q E k1 k2 k3 k4 k5 kK trivial kd ku kR
theorem ends_call (hz : z.natAbs < 2 ^ 53) (k1 : Below A₀ base outer h₀) (k2 : Fr h₀ L s.heap m) (k3 : (hd.heap_39 w.params).In h₀) (k4 : News h₀ L s.heap news) (k5 : Top hd.view_39 (looseW hd.view_39 []) mean mg mb h₀) (kK : cs.kind = .function) (kd : dp + 1 < recursionLimit) (ku : un + 8 < cLine)
    (kR : ∀ (lo hi : Int) (D : Addr) (ta tb : Tok) (h' : Heap) (tk' : Nat), EndsOf z lo hi → Fr h₀ L h' m → News h₀ L h' ((D, ({ cls := .type "tuple", data := .seq #[.int lo ta, .int hi tb, .bool (decide (z < 0))] } : Obj)) :: news) → (∀ p ∈ news, p.1 < D) → Q (.ref D) { s with heap := h', toks := tk' }) :
    wpAny (model Challenge.rw_sn0122_01.row.prog w) (ktrTop dp un gd cn cs L a ccd cl outer) (call (.ref 28) [.str (fmtT z b) tz, .bool b]) Q E s :=
  ends_all (mean := mean) (mg := mg) (mb := mb) hz dp un gd cn cs a ccd cl outer A₀ base h₀ L m s Q E k1 k2 k3 k4 k5 kK kd ku kR
end
end

section
open PySem PySem.W PySem.Calls PyProof.Rows PySem.Spec
set_option maxHeartbeats 6000000

/-- the size, whatever its sign, in the frame -/
def MeetI (g : Heap) (L : Addr) (m : Str → Option Value) (news : List (Addr × Obj)) (s : Shared) (x : Str) (P : Int → Prop) (f : Flow) (s' : Shared) : Prop :=
  f = .next ∧ ∃ (z : Int) (t : Tok) (h' : Heap) (tk' : Nat), P z ∧ s' = { s with heap := h', toks := tk' } ∧ Fr g L h' (fun y => if y = x then some (.int z t) else m y) ∧ News g L h' news
theorem meetI {M : Model} {A : Around} {E : Value → Shared → Prop} {s : Shared} {g : Heap} {L : Addr} {m : Str → Option Value} {news : List (Addr × Obj)} (x : Str) (P : Int → Prop) {t : Sem Flow} {Q : Flow → Shared → Prop} (_F : Fr g L s.heap m) (_N : News g L s.heap news) (h1 : wpAny M A t (MeetI g L m news s x P) E s)
    (h2 : ∀ z t' h' tk', P z → Fr g L h' (fun y => if y = x then some (.int z t') else m y) → News g L h' news → Q .next { s with heap := h', toks := tk' }) : wpAny M A t Q E s := by
  refine wpAny_mono h1 ?_ fun _ _ e => e
  rintro _ _ ⟨rfl, z, t', h', tk', hP, rfl, F, N⟩
  exact h2 z t' h' tk' hP F N
theorem meetI_stored {g : Heap} {L : Addr} {m : Str → Option Value} {news : List (Addr × Obj)} {s : Shared} {x : Str} {P : Int → Prop} {z : Int} {t : Tok} {h' : Heap} {tk' : Nat} {news' : List (Addr × Obj)} (F : Fr g L h' (fun y => if y = x then some (.int z t) else m y)) (N : News g L h' news') (hs : ∀ p ∈ news, p ∈ news') (hP : P z) :
    MeetI g L m news s x P .next { s with heap := h', toks := tk' } := ⟨rfl, z, t, h', tk', hP, rfl, F, fun p hp => N p (hs p hp)⟩
theorem meetI_kept {g : Heap} {L : Addr} {m : Str → Option Value} {news : List (Addr × Obj)} {s : Shared} {x : Str} {P : Int → Prop} {z : Int} {t : Tok} {h' : Heap} {tk' : Nat} {news' : List (Addr × Obj)} (F : Fr g L h' m) (e : m x = some (.int z t)) (N : News g L h' news') (hs : ∀ p ∈ news, p ∈ news') (hP : P z) :
    MeetI g L m news s x P .next { s with heap := h', toks := tk' } := by
  refine ⟨rfl, z, t, h', tk', hP, rfl, ?_, fun p hp => N p (hs p hp)⟩
  have em : (fun y => if y = x then some (Value.int z t) else m y) = m := by
    funext y
    by_cases hy : y = x
    · rw [if_pos hy, hy, e]
    · rw [if_neg hy]
  rw [em]; exact F
/-- way, whichever it is -/
def MeetW (g : Heap) (L : Addr) (m : Str → Option Value) (news : List (Addr × Obj)) (s : Shared) (W : Int) (v : Value) (s' : Shared) : Prop :=
  ∃ t h' tk', v = .int W t ∧ s' = { s with heap := h', toks := tk' } ∧ Fr g L h' m ∧ News g L h' news
theorem meetW {M : Model} {A : Around} {E : Value → Shared → Prop} {s : Shared} {g : Heap} {L : Addr} {m : Str → Option Value} {news : List (Addr × Obj)} {z lo hi : Int} {b : Bool} {t : Sem Value} {Q : Value → Shared → Prop} (hl : LawOf z lo hi b) (_F : Fr g L s.heap m) (_N : News g L s.heap news)
    (h1 : wpAny M A t (MeetW g L m news s (if z < 0 then -1 else 1)) E s)
    (h2 : ∀ W t' h' tk', WayOf z lo hi W b → Fr g L h' m → News g L h' news → Q (.int W t') { s with heap := h', toks := tk' }) : wpAny M A t Q E s := by
  refine wpAny_mono h1 ?_ fun _ _ e => e
  rintro _ _ ⟨t', h', tk', rfl, rfl, F, N⟩
  exact h2 _ t' h' tk' (way_of hl rfl) F N
theorem meetW_end {g : Heap} {L : Addr} {m : Str → Option Value} {news : List (Addr × Obj)} {s : Shared} {W W' : Int} {t : Tok} {h' : Heap} {tk' : Nat} {news' : List (Addr × Obj)} (e : W' = W) (F : Fr g L h' m) (N : News g L h' news') (hs : ∀ p ∈ news, p ∈ news') : MeetW g L m news s W (.int W' t) { s with heap := h', toks := tk' } :=
  ⟨t, h', tk', by rw [e], rfl, F, fun p hp => N p (hs p hp)⟩

theorem absI {prog : Program} {w : World} {A : Around} {E : Value → Shared → Prop} {s : Shared} {z : Int} {t : Tok} {Q : Value → Shared → Prop} (h : ∀ t' k, Q (.int (z.natAbs : Int) t') { s with toks := k }) : wpAny (model prog w) A (call (.builtin "abs") [.int z t]) Q E s := by
  refine call_abs_int fun u tk => ?_
  have e : (if z < 0 then -z else z) = (z.natAbs : Int) := by split <;> omega
  rw [e]; exact h u tk
structure OwnIte2 : Prop where
  mark :: (one : True)
theorem ite_by2 {c : Prop} [Decidable c] {A B : Prop} (h1 : c → A) (h2 : ¬ c → B) : if c then A else B := by
  by_cases h : c
  · rw [if_pos h]; exact h1 h
  · rw [if_neg h]; exact h2 h
def LawAll (z lo hi : Int) : Prop := ∀ b, LawOf z lo hi b
theorem lawFacts {z lo hi : Int} (hz : z.natAbs ≤ 8796093022208000) (h : EndsOf z lo hi) : LawAll z lo hi ∧ 0 ≤ lo ∧ lo ≤ z.natAbs ∧ (z.natAbs : Int) ≤ hi ∧ hi < 9007199254740992 := by
  have l := law_of hz h false
  have := l.top
  exact ⟨fun b => law_of hz h b, l.lo0, l.inl, l.inh, by omega⟩
theorem gentoks {M : Model} {A : Around} {E : Value → Shared → Prop} {Q : Flow → Shared → Prop} {st : PySem.Stmt} {rest : List PySem.Stmt} {env : Env} {s : Shared} (h : ∀ k, wpAny M A (PySem.exec st env) (fun f s' => match f with | .next => wpAny M A (PySem.execs rest env) Q E s' | f => Q f s') E { s with toks := k }) : wpAny M A (PySem.execs (st :: rest) env) Q E s :=
  wpAny_execs_cons (h s.toks)
local macro_rules | `(tactic| walk_at "execs cons") => `(tactic| (k_here; (with_reducible refine gentoks ?_); intro tkG; try dsimp only))
theorem gentoks0 {M : Model} {A : Around} {E : Value → Shared → Prop} {Q : Flow → Shared → Prop} {env : Env} {s : Shared} (h : ∀ k, Q .next { s with toks := k }) : wpAny M A (PySem.execs [] env) Q E s := wpAny_execs_nil (h s.toks)
local macro_rules | `(tactic| walk_at "execs nil") => `(tactic| (k_here; (with_reducible refine gentoks0 ?_); intro tkG; try dsimp only))
local macro_rules | `(tactic| walk_at "ite") => `(tactic| ((rename OwnIte2 => hOwn); (fail_if_success k_closed); (refine ite_by2 ?_ ?_) <;> (intro hc; (try simp only [beq_iff_eq, decide_eq_true_eq, gt_iff_lt] at hc))))
local macro_rules | `(tactic| walk_at "exec For Name BinOp cons nil") => `(tactic| (k_here; (rename Fr _ _ _ _ => lF'); (with_unfolding_all refine' For_invVF lF' ?k1 ?k2 ?_; (case k1 => exact rfl); (case k2 => exact rfl); k_whole)))
local macro_rules | `(tactic| walk_at "pyIter ref") => `(tactic| (k_here; (with_reducible show wpAny _ _ (pyIter (Value.ref _)) (fun it s₂ => TurnsAt _ _ _ _ _ _ _ _ _ it s₂) _ _); (rename Fr _ _ _ _ => lF'); (rename News _ _ _ _ => lN'); (with_unfolding_all refine iter_tupTurns (by rfl) lF' lN' (List.Mem.head _) (by rfl) (by rfl) ?_); clear lF'; intro i' l1; (have lm := ltMark l1); clear l1))
local macro_rules | `(tactic| walk_at "UnrEndW") => `(tactic| ((rename LtMark _ _ => lm'); (rename News _ _ _ _ => nE'); (refine unrEnd lm' (by assumption) nE' (by k_mem) (by first | kcj_in | kst_in) (by k_subL) ?_)))
local macro_rules | `(tactic| walk_at "call builtin:abs") => `(tactic| (k_here; (with_reducible show wpAny _ _ (call (Value.builtin "abs") [Value.int _ _]) _ _ _); (refine absI ?_); intro _ _))
local macro_rules | `(tactic| walk_at "compareOp Eq str str") => `(tactic| (k_here; (with_reducible show wpAny _ _ (compareOp CmpOp.Eq (Value.str (fmtT _ _) _) (Value.str _ _)) _ _ _); (refine eqS (by with_reducible assumption) ?_)))
local macro_rules | `(tactic| walk_at "compareOp NotEq str str") => `(tactic| (k_here; (with_reducible show wpAny _ _ (compareOp CmpOp.NotEq (Value.str (fmtT _ _) _) (Value.str _ _)) _ _ _); (refine neS (by with_reducible assumption) ?_)))
local macro_rules | `(tactic| walk_at "call ref") => `(tactic| (k_here; (with_reducible show wpAny _ _ (call (Value.ref _) [Value.int _ _, Value.bool _]) _ _ _); k_dflt (refine' fmt_call ?hz ?k1 ?k2 ?k3 ?k4 ?k5 ?kK ?kd ?ku ?_; (case hz => first | assumption | omega); (case k1 => k_asm); (case k2 => k_asm); (case k3 => k_asm); (case k4 => k_asm); (case k5 => k_asm); (case kK => first | exact rfl | assumption); (case kd => ktr_room); (case ku => ktr_units)); intro t9 h9 tk9 F9 N9; (try dsimp only); (try k_fold)))
local macro_rules | `(tactic| walk_at "call ref") => `(tactic| (k_here; (with_reducible show wpAny _ _ (call (Value.ref _) [Value.str (fmtT _ _) _, Value.bool _]) _ _ _); k_dflt (refine' ends_call ?hz ?k1 ?k2 ?k3 ?k4 ?k5 ?kK ?kd ?ku ?_; (case hz => omega); (case k1 => k_asm); (case k2 => k_asm); (case k3 => k_asm); (case k4 => k_asm); (case k5 => k_asm); (case kK => first | exact rfl | assumption); (case kd => ktr_room); (case ku => ktr_units)); intro lo hi D9 ta9 tb9 h9 tk9 hE F9 N9 l9; (try k_lt l9); (rename (_ ≤ 8796093022208000) => hzB); (have lw := lawFacts hzB hE); (obtain ⟨lw, lf1, lf2, lf3, lf4⟩ := lw); (try dsimp only); (try k_fold)))

theorem t : PySem.Challenge.rw_sn0122_01.Holds := hd (by
  w_top off
  k_with "pyIter ref" => k_search (fun pre => True)
  w_strict (k_go0; (all_goals try k_fold))
  repeat ((fail_if_success (with_reducible show wpAny _ _ (PySem.exec (PySem.Stmt.If _ _ _ _) _) _ _ _)); first | (k_unfold; (try dsimp only)) | (k_end; wrow_close) | walk1 | (dsimp only; walk1) | (leave1; try dsimp only))
  k_here
  rename Fr _ _ _ _ => cF
  rename News _ _ _ _ => cN
  refine' meetI (Str.ofString "size") (fun z => z.natAbs ≤ 8796093022208000) cF cN ?i1 ?_
  case i1 =>
    have hOwn : OwnIte2 := ⟨trivial⟩
    repeat' ((fail_if_success (with_reducible show MeetI _ _ _ _ _ _ _ _ _)); first | (k_unfold; (try dsimp only)) | walk1 | (dsimp only; walk1))
    all_goals first | (refine meetI_stored (by k_asm) (by assumption) (by first | kcj_in | kcj_all) (size_bound_neg _)) | (refine meetI_kept (by k_asm) rfl (by assumption) (by first | kcj_in | kcj_all) (size_bound _))
  clear cF cN; intro z t' h' tk' hzb F' N'
  replace hzb : z.natAbs ≤ 8796093022208000 := hzb
  repeat ((fail_if_success (with_reducible show wpAny _ _ (PySem.eval (PySem.Expr.IfExp _ _ _ _) _) _ _ _)); first | (k_unfold; (try dsimp only)) | (k_end; wrow_close) | walk1 | (dsimp only; walk1) | (leave1; try dsimp only))
  k_here
  rename Fr _ _ _ _ => cF
  rename News _ _ _ _ => cN
  rename LawAll _ _ _ => lw
  refine' meetW (lw false) cF cN ?w1 ?_
  case w1 =>
    have hOwn : OwnIte2 := ⟨trivial⟩
    k_steps
    all_goals first | (refine meetW_end (by first | exact (if_pos (by omega)).symm | exact (if_neg (by omega)).symm) (by k_asm) (by assumption) (by first | kcj_in | kcj_all))
  clear cF cN; intro W t' h' tk' hw F' N'
  obtain ⟨b1, b2, b3, b4, e1, e2, e3, e4⟩ := hw
  repeat ((fail_if_success (with_reducible show wpAny _ _ (PySem.eval (PySem.Expr.IfExp _ _ _ _) _) _ _ _)); first | (k_unfold; (try dsimp only)) | (k_end; wrow_close) | walk1 | (dsimp only; walk1) | (leave1; try dsimp only))
  k_here
  rename Fr _ _ _ _ => cF
  rename News _ _ _ _ => cN
  rename LawAll _ _ _ => lw
  refine' meetW (lw true) cF cN ?w2 ?_
  case w2 =>
    have hOwn : OwnIte2 := ⟨trivial⟩
    k_steps
    all_goals first | (refine meetW_end (by first | exact (if_pos (by omega)).symm | exact (if_neg (by omega)).symm) (by k_asm) (by assumption) (by first | kcj_in | kcj_all))
  clear cF cN; intro W t' h' tk' hw F' N'
  obtain ⟨b1, b2, b3, b4, e1, e2, e3, e4⟩ := hw
  all_goals k_steps)
end

end Mine

theorem PySem.Challenge.cw_sn0122_01_holds : PySem.Challenge.rw_sn0122_01.Holds :=
  Mine.t
