import PyProof.Rows.All
import Wide.All
import OpenK.AllK
import Wide.FinOn
import PySem.Challenge.RW_dw0061_01
set_option Elab.async false
/- part: Hd -/
section
open PySem PySem.W PyProof.Rows
set_option Elab.async false
set_option maxRecDepth 100000
set_option maxHeartbeats 8000000
namespace Mine
open_top hd for PySem.Challenge.rw_dw0061_01
end Mine
end

/- part: FloatLaw -/
section
open PySem PySem.W PyProof.Rows
set_option Elab.async false
set_option maxRecDepth 100000
namespace Mine
open Float64
/-- the double x is the int k, with k's sign -/
def FV (x : UInt64) (k : Int) : Prop := ∃ (m : Nat) (e : Int), decode x = .fin (decide (k < 0)) m e ∧ m * 2 ^ (e + 1074).toNat = k.natAbs * 2 ^ 1074
theorem V_hit (j : Nat) (hj : j < 2 ^ 53) : ∃ t', V t' = j * 2 ^ 1074 := by
  by_cases h0 : j = 0
  · exact ⟨0, by rw [V_zero, h0, Nat.zero_mul]⟩
  · have h1 : 2 ^ j.log2 ≤ j := Nat.log2_self_le h0
    have h2 : j < 2 ^ (j.log2 + 1) := Nat.lt_log2_self
    have h3 : j.log2 < 53 := (Nat.log2_lt h0).mpr hj
    obtain ⟨d, hd⟩ : ∃ d, d + j.log2 = 52 := ⟨52 - j.log2, by omega⟩
    refine ⟨(1022 + j.log2) * 2 ^ 52 + j * 2 ^ d, ?_⟩
    have hlo : 2 ^ 52 ≤ j * 2 ^ d := by
      rw [← hd, Nat.pow_add, Nat.mul_comm]
      exact Nat.mul_le_mul_right _ h1
    have hhi : j * 2 ^ d ≤ 2 ^ 53 := by
      have e : 2 ^ 53 = 2 ^ (j.log2 + 1) * 2 ^ d := by rw [← Nat.pow_add]; congr 1; omega
      rw [e]
      exact Nat.mul_le_mul_right _ (Nat.le_of_lt h2)
    rw [V_at hhi (.inl hlo), Nat.mul_assoc, ← Nat.pow_add]
    congr 2
    omega
theorem hit_right {r : UInt64} {neg : Bool} {W D j : Nat} (h : Right r neg W D) (hW : W = D * (j * 2 ^ 1074)) (hD : 0 < D) (hj : j < 2 ^ 53) :
    ∃ (m : Nat) (e : Int), decode r = .fin neg m e ∧ m * 2 ^ (e + 1074).toNat = j * 2 ^ 1074 := by
  obtain ⟨t, rfl, ht, hov, hnear⟩ := h
  have hlt : t < infMag := by
    refine Nat.lt_of_le_of_ne ht fun e => ?_
    have h1 := hov.mp e
    rw [hW] at h1
    have h2 : D * ((2 ^ 54 - 1) * 2 ^ 2045) ≤ D * (2 * (j * 2 ^ 1074)) := by rw [show D * (2 * (j * 2 ^ 1074)) = 2 * (D * (j * 2 ^ 1074)) by ac_rfl]; exact h1
    have h3 := Nat.le_of_mul_le_mul_left h2 hD
    have h4 : 2 * (j * 2 ^ 1074) ≤ 2 * (2 ^ 53 * 2 ^ 1074) := Nat.mul_le_mul_left _ (Nat.mul_le_mul_right _ (Nat.le_of_lt hj))
    have h5 : ¬ ((2 ^ 54 - 1) * 2 ^ 2045 ≤ 2 * (2 ^ 53 * 2 ^ 1074)) := by decide +kernel
    exact h5 (Nat.le_trans h3 h4)
  obtain ⟨t', ht'⟩ := V_hit j hj
  have h1 := (hnear hlt t').1
  rw [ht', hW] at h1
  have h2 : D * (j * 2 ^ 1074) = D * V t := by
    generalize D * (j * 2 ^ 1074) = a at h1 ⊢
    generalize D * V t = b at h1 ⊢
    unfold Float64.dist at h1
    omega
  have h3 : V t = j * 2 ^ 1074 := (Nat.eq_of_mul_eq_mul_left hD h2).symm
  obtain ⟨m, e, hd, hv⟩ := decode_pack neg hlt
  exact ⟨m, e, hd, hv.trans h3⟩
theorem fv_ofInt (k : Int) (hk : k.natAbs < 2 ^ 53) : FV (ofInt k) k := hit_right (ofInt_right k) (by rw [Nat.one_mul]) (by decide) hk
theorem fv_fin {x : UInt64} {k : Int} (h : FV x k) : isInf x = false := by
  obtain ⟨m, e, hd, _⟩ := h
  unfold isInf
  rw [hd]
theorem fv_isFin {x : UInt64} {k : Int} (h : FV x k) : isFinite x = true := by
  obtain ⟨m, e, hd, _⟩ := h
  unfold isFinite
  rw [hd]
theorem neg_of_mul {j : Int} : decide (j * 1024 < 0) = decide (j < 0) := by
  by_cases h : j < 0
  · rw [decide_eq_true h, decide_eq_true (by omega)]
  · rw [decide_eq_false h, decide_eq_false (by omega)]
theorem fv_divInt {k j : Int} (hk : k = j * 1024) (hj : j.natAbs < 2 ^ 53) : FV (ofFrac (decide (k < 0) != decide ((1024 : Int) < 0)) k.natAbs (1024 : Int).natAbs) j := by
  subst hk
  have e1 : (decide (j * 1024 < 0) != decide ((1024 : Int) < 0)) = decide (j < 0) := by
    rw [neg_of_mul]; cases decide (j < 0) <;> rfl
  have e2 : (1024 : Int).natAbs = 1024 := rfl
  have e3 : (j * 1024).natAbs = j.natAbs * 1024 := by rw [Int.natAbs_mul]; rfl
  rw [e1, e2, e3]
  refine hit_right (ofFrac_right (W := 1 * (j.natAbs * 2 ^ 1074)) (D := 1) (by decide) ?_ (by decide)) rfl (by decide) hj
  generalize (2 : Nat) ^ 1074 = K
  rw [Nat.mul_one, Nat.one_mul]
  ac_rfl
theorem fv_val {x : UInt64} {k : Int} (h : FV x k) : val x = k * 2 ^ 1074 := by
  obtain ⟨m, e, hd, hv⟩ := h
  rw [val_eq hd, hv, sgn_mul]
  have e1 : sgn (decide (k < 0)) k.natAbs = k := by
    unfold sgn
    by_cases h : k < 0
    · rw [decide_eq_true h, if_pos rfl]; omega
    · rw [decide_eq_false h, if_neg (by simp)]; omega
  rw [e1]
  have e2 : (((2 : Nat) ^ 1074 : Nat) : Int) = (2 : Int) ^ 1074 := by rw [Int.natCast_pow]; rfl
  rw [e2]
theorem fv_divFloat {x : UInt64} {k j : Int} (h : FV x k) (hk : k = j * 1024) (hj : j.natAbs < 2 ^ 53) : FV (div x (ofInt 1024)) j := by
  obtain ⟨m, e, hd, hv⟩ := id h
  obtain ⟨m2, e2, hd2, hv2⟩ := fv_ofInt 1024 (by decide)
  have hm2 : m2 ≠ 0 := by
    intro z
    rw [z, Nat.zero_mul] at hv2
    exact absurd hv2 (by decide +kernel)
  have hR := div_right hd hd2 hm2
  rw [val_natAbs hd, hv, val_natAbs hd2, hv2] at hR
  have e1 : (decide (k < 0) != decide ((1024 : Int) < 0)) = decide (j < 0) := by
    rw [hk, neg_of_mul]; cases decide (j < 0) <;> rfl
  rw [e1] at hR
  refine hit_right hR ?_ (Nat.mul_pos (by decide) (Nat.two_pow_pos _)) hj
  have e3 : k.natAbs = j.natAbs * 1024 := by rw [hk, Int.natAbs_mul]; rfl
  have e4 : (1024 : Int).natAbs = 1024 := rfl
  rw [e3, e4]
  generalize (2 : Nat) ^ 1074 = K
  ac_rfl
theorem fv_abs {x : UInt64} {k : Int} (h : FV x k) : FV (Float64.abs x) (k.natAbs : Int) := by
  obtain ⟨m, e, hd, hv⟩ := h
  have hnn : Float64.isNaN x = false := by unfold Float64.isNaN; rw [hd]
  have hsm : x.toNat % 2 ^ 63 < 2 ^ 63 := Nat.mod_lt _ (by decide)
  have ht := pack_toNat false hsm
  refine ⟨m, e, ?_, by rw [hv]; rfl⟩
  unfold Float64.abs
  rw [hnn]
  simp only [Bool.false_eq_true, if_false]
  have hdx : decode x = (if x.toNat / 2 ^ 52 % 2048 == 2047 then (if x.toNat % 2 ^ 52 == 0 then .inf (x.toNat / 2 ^ 63 == 1) else .nan) else if x.toNat / 2 ^ 52 % 2048 == 0 then .fin (x.toNat / 2 ^ 63 == 1) (x.toNat % 2 ^ 52) (-1074) else .fin (x.toNat / 2 ^ 63 == 1) (2 ^ 52 + x.toNat % 2 ^ 52) (((x.toNat / 2 ^ 52 % 2048 : Nat) : Int) - 1075)) := by unfold decode; rfl
  have h1 : (pack false (x.toNat % 2 ^ 63)).toNat / 2 ^ 63 = 0 := by rw [ht]; simp only [Bool.false_eq_true, if_false]; omega
  have h2 : (pack false (x.toNat % 2 ^ 63)).toNat / 2 ^ 52 % 2048 = x.toNat / 2 ^ 52 % 2048 := by rw [ht]; simp only [Bool.false_eq_true, if_false]; omega
  have h3 : (pack false (x.toNat % 2 ^ 63)).toNat % 2 ^ 52 = x.toNat % 2 ^ 52 := by rw [ht]; simp only [Bool.false_eq_true, if_false]; omega
  have hdp : decode (pack false (x.toNat % 2 ^ 63)) = (if x.toNat / 2 ^ 52 % 2048 == 2047 then (if x.toNat % 2 ^ 52 == 0 then .inf false else .nan) else if x.toNat / 2 ^ 52 % 2048 == 0 then .fin false (x.toNat % 2 ^ 52) (-1074) else .fin false (2 ^ 52 + x.toNat % 2 ^ 52) (((x.toNat / 2 ^ 52 % 2048 : Nat) : Int) - 1075)) := by
    unfold decode
    simp only [h1, h2, h3]
    rfl
  have hneg : decide (((k.natAbs : Nat) : Int) < 0) = false := decide_eq_false (by omega)
  rw [hdp, hneg]
  rw [hdx] at hd
  by_cases c1 : (x.toNat / 2 ^ 52 % 2048 == 2047) = true
  · rw [if_pos c1] at hd
    by_cases c2 : (x.toNat % 2 ^ 52 == 0) = true
    · rw [if_pos c2] at hd; cases hd
    · rw [if_neg c2] at hd; cases hd
  · rw [if_neg c1] at hd ⊢
    by_cases c2 : (x.toNat / 2 ^ 52 % 2048 == 0) = true
    · rw [if_pos c2] at hd ⊢; injection hd with a b c; rw [b, c]
    · rw [if_neg c2] at hd ⊢; injection hd with a b c; rw [b, c]
theorem fv_cmp {x : UInt64} {k : Int} (h : FV x k) (i : Int) : cmpInt x i = some (compare k i) := by
  have hv := fv_val h
  obtain ⟨m, e, hd, _⟩ := h
  rw [cmpInt_right hd, hv]
  have hK : (0 : Int) < (2 : Int) ^ 1074 := Int.pow_pos (by decide)
  generalize (2 : Int) ^ 1074 = K at hK
  congr 1
  rcases Int.lt_trichotomy k i with h | h | h
  · rw [Int.compare_eq_lt.mpr h, Int.compare_eq_lt.mpr (Int.mul_lt_mul_of_pos_right h hK)]
  · subst h; simp
  · rw [Int.compare_eq_gt.mpr h, Int.compare_eq_gt.mpr (Int.mul_lt_mul_of_pos_right h hK)]
theorem halfEven_exact (c d : Nat) (hd : 0 < d) : halfEven (c * d) d = c := by
  unfold halfEven
  have e1 : c * d / d = c := Nat.mul_div_cancel _ hd
  have e2 : c * d % d = 0 := Nat.mul_mod_left _ _
  simp only [e1, e2]
  rw [if_neg]
  simp
  omega
theorem fv_frac {m : Nat} {e : Int} {c : Nat} (he : -1074 ≤ e) (hv : m * 2 ^ (e + 1074).toNat = c * 2 ^ 1074) : (shift m 1 e).1 = c * (shift m 1 e).2 := by
  have h := shift_one m e 1074 he
  have e0 : (e + ((1074 : Nat) : Int)).toNat = (e + 1074).toNat := rfl
  rw [e0, hv] at h
  have hK : 0 < (2 : Nat) ^ 1074 := Nat.two_pow_pos _
  generalize (2 : Nat) ^ 1074 = K at h hK
  have h2 : (shift m 1 e).1 * K = c * (shift m 1 e).2 * K := by rw [h]; ac_rfl
  exact Nat.eq_of_mul_eq_mul_right hK h2
theorem strip_pad (ds : List Char) : (ds.reverse.dropWhile (· == '0')).reverse ++ List.replicate (ds.length - (ds.reverse.dropWhile (· == '0')).reverse.length) '0' = ds := by
  have h1 : ∀ r : List Char, r.takeWhile (· == '0') = List.replicate (r.length - (r.dropWhile (· == '0')).length) '0' := by
    intro r
    induction r with
    | nil => rfl
    | cons a r ih =>
      have hle : (r.dropWhile (· == '0')).length ≤ r.length := (List.dropWhile_sublist _).length_le
      by_cases h : (a == '0') = true
      · rw [List.takeWhile_cons, if_pos h, List.dropWhile_cons, if_pos h, ih, List.length_cons, Nat.succ_sub hle, List.replicate_succ, eq_of_beq h]
      · rw [List.takeWhile_cons, if_neg h, List.dropWhile_cons, if_neg h, Nat.sub_self]; rfl
  have h2 := List.takeWhile_append_dropWhile (p := (· == '0')) (l := ds.reverse)
  rw [h1, List.length_reverse] at h2
  have h3 := congrArg List.reverse h2
  rw [List.reverse_append, List.reverse_replicate, List.reverse_reverse] at h3
  rw [List.length_reverse]
  exact h3
theorem digits0 (c : Nat) : pointed (Digits.of c (-((0 : Nat) : Int))) 0 false = (Nat.repr c).toList := by
  have hlen : 0 < (Nat.repr c).toList.length := by
    have : (Nat.repr c).toList ≠ [] := by
      intro h
      have h2 : Nat.repr c = "" := String.toList_eq_nil_iff.mp h
      exact Nat.repr_ne_empty h2
    exact List.length_pos_iff.mpr this
  unfold Digits.of pointed padRight zeros
  simp only
  generalize (Nat.repr c).toList = ds at hlen ⊢
  have hle : (ds.reverse.dropWhile (· == '0')).reverse.length ≤ ds.length := by
    rw [List.length_reverse, ← List.length_reverse (as := ds)]
    exact (List.dropWhile_sublist _).length_le
  have hp : ¬ (-((0 : Nat) : Int) + (ds.length : Int) ≤ 0) := by omega
  rw [if_neg hp]
  have ht : (-((0 : Nat) : Int) + (ds.length : Int)).toNat = ds.length := by omega
  rw [ht, List.take_of_length_le hle, strip_pad]
  simp
theorem digits1 : ∀ c : Fin 100, c.val ≠ 0 → pointed (Digits.of (c.val * 10) (-((1 : Nat) : Int))) 1 false = (Nat.repr c.val).toList ++ ['.', '0'] := by decide +kernel
theorem fv_text0 {x : UInt64} {k : Int} (h : FV x k) : text x 'f' 0 false false false = (decide (k < 0), (Nat.repr k.natAbs).toList) := by
  obtain ⟨m, e, hd, hv⟩ := h
  have he := decode_ge hd
  have hf := fv_frac he hv
  have hp := shift_pos m 1 e (by decide)
  unfold text
  rw [hd]
  simp only
  by_cases hm : m = 0
  · have hk : k.natAbs = 0 := by
      rw [hm, Nat.zero_mul] at hv
      exact (Nat.mul_eq_zero.mp hv.symm).resolve_right (Nat.ne_of_gt (Nat.two_pow_pos _))
    have hk0 : k = 0 := by omega
    subst hk0
    subst hm
    simp only [beq_self_eq_true, if_true]
    decide +kernel
  · have hb : (m == 0) = false := by simpa using hm
    have hc1 : ('f' == 'e') = false := by decide
    rw [hb]
    simp only [hc1, Bool.false_eq_true, if_false, beq_self_eq_true, if_true, Bool.false_and, Bool.not_false, Bool.and_true]
    have hx : fixed (shift m 1 e).1 (shift m 1 e).2 0 = Digits.of k.natAbs (-((0 : Nat) : Int)) := by
      unfold fixed shift10
      simp only
      rw [if_pos (by decide)]
      have e1 : (((0 : Nat) : Int)).toNat = 0 := rfl
      rw [e1, Nat.pow_zero, Nat.mul_one, hf, halfEven_exact _ _ hp]
    rw [hx, digits0]
theorem fv_text1 {x : UInt64} {k : Int} (h : FV x k) (h0 : k ≠ 0) (hk : k.natAbs < 100) : text x 'f' 1 false false false = (decide (k < 0), (Nat.repr k.natAbs).toList ++ ['.', '0']) := by
  obtain ⟨m, e, hd, hv⟩ := h
  have he := decode_ge hd
  have hf := fv_frac he hv
  have hp := shift_pos m 1 e (by decide)
  unfold text
  rw [hd]
  simp only
  have hm : m ≠ 0 := by
    intro hm
    rw [hm, Nat.zero_mul] at hv
    have := (Nat.mul_eq_zero.mp hv.symm).resolve_right (Nat.ne_of_gt (Nat.two_pow_pos _))
    omega
  have hb : (m == 0) = false := by simpa using hm
  have hc1 : ('f' == 'e') = false := by decide
  rw [hb]
  simp only [hc1, Bool.false_eq_true, if_false, beq_self_eq_true, if_true, Bool.false_and, Bool.not_false, Bool.and_true]
  have hx : fixed (shift m 1 e).1 (shift m 1 e).2 1 = Digits.of (k.natAbs * 10) (-((1 : Nat) : Int)) := by
    unfold fixed shift10
    simp only
    rw [if_pos (by decide)]
    have e1 : (((1 : Nat) : Int)).toNat = 1 := rfl
    rw [e1, hf, show k.natAbs * (shift m 1 e).2 * 10 ^ 1 = k.natAbs * 10 * (shift m 1 e).2 by rw [Nat.pow_one]; ac_rfl, halfEven_exact _ _ hp]
  rw [hx]
  have hD := digits1 ⟨k.natAbs, hk⟩ (by simpa using h0)
  rw [hD]
end Mine
end

/- part: FmtRun -/
section
open PySem PySem.W PyProof.Rows
set_option Elab.async false
set_option maxRecDepth 100000
set_option linter.unusedVariables false
namespace Mine
open Builtin Builtin.Str
section
variable {prog : Program} {w : World} {A : Around} {E : Value → Shared → Prop} {s : Shared}
theorem conv_float (x : UInt64) (u : Tok) : ∀ (prog : Program) (w : World) (A : Around) (E : Value → Shared → Prop) (s : Shared) (Q : UInt64 → Shared → Prop), (∀ k, Q x { s with toks := k }) → wpAny (model prog w) A (percentFloatOf (.float x u)) Q E s :=
  fun prog w A E s Q h => wpAny_of_eq (a := x) rfl (h s.toks)
theorem conv_int (n : Int) (u : Tok) (hfit : ¬ Float64.isInf (Float64.ofInt n) = true) : ∀ (prog : Program) (w : World) (A : Around) (E : Value → Shared → Prop) (s : Shared) (Q : UInt64 → Shared → Prop), (∀ k, Q (Float64.ofInt n) { s with toks := k }) → wpAny (model prog w) A (percentFloatOf (.int n u)) Q E s := by
  intro prog w A E s Q h
  unfold percentFloatOf
  refine wpAny_bind (wpAny_of_eq (a := none) rfl ?_)
  dsimp only
  refine wpAny_bind ?_
  with_reducible refine wpAny_callSpecial?_slot (typeIs_int s n u) F.slot_int_float ?_
  refine call_gives F.slot_int_float (typeIs_int s n u) F.entry_int_float (F.args_int_float_1 _) (AutoIntG0.int___float___int_1 n u hfit) ?_
  dsimp only [Made.post]
  refine wpAny_bind (wpAny_of_eq (a := some (Float64.ofInt n)) rfl ?_)
  exact wpAny_pure (h _)
end
theorem run_p1 (nv : Value) (x : UInt64) (v t : Tok) (b : Addr) (unit : PySem.Str) (hu : unit.length ≤ 10) (neg : Bool) (body : List Char) (laid : PySem.Str)
   (hconv : ∀ (prog : Program) (w : World) (A : Around) (E : Value → Shared → Prop) (s : Shared) (Q : UInt64 → Shared → Prop), (∀ k, Q x { s with toks := k }) → wpAny (model prog w) A (percentFloatOf nv) Q E s)
   (ht : Float64.text x 'f' 1 false false false = (neg, body))
   (hl : percentField { ljust := false, sign := true, blank := false, alt := false, zero := false, width := none, prec := some 1, type := 102 } true ((if neg then [45] else []) ++ body.map Char.toNat) = some laid.cps.toList) (hn : laid.length ≤ 100) :
   Meets («str.__mod__» ⟨[.str (PySem.Str.mk #[37, 43, 46, 49, 102, 32, 37, 115]) t, .ref b], []⟩) (fun _ R s => IsTup s.heap b #[nv, .str unit v] ∧ ∀ t' k, R (.ok (.ret (.str (laid ++ PySem.Str.ofString " " ++ unit) t'))) { s with toks := k }) := by
  apply KPt.meets_tup
  intro _ _ _ _ _ _ kptH hQ
  obtain ⟨kptO, kptG, kptC, kptN, kptD⟩ := kptH
  rw [KPt.entry_is_r]
  unfold Builtin.Str.percentFormat
  refine wpAny_bind (wpAny_isInstance (T := "tuple") ⟨kptO, kptG, kptC⟩ KPt.sub_tt ?_)
  refine wpAny_bind (KPt.asStr_ref kptG kptD ?_)
  refine wpAny_bind (KPt.fills_ref ⟨kptO, kptG, kptC⟩ ?_)
  intro _
  kpc_if
  refine wpAny_bind (wpAny_seqItems kptG kptD ?_)
  refine wpAny_bind (wpAny_pure ?_)
  refine wpAny_bind ?_
  rw [KPc.range_list]
  refine KPc.start ?_
  intro w0 g0
  refine KPc.turn ?_
  kpc_check
  (repeat kpc_if)
  refine wpAny_bind ?_
  refine wpAny_holding ?_
  (repeat kpc_if)
  refine wpAny_bind (hconv _ _ _ _ _ _ ?_)
  intro kk
  refine wpAny_ite (KPc.ite_no (by decide) ?_)
  refine wpAny_of_eq (a := ((if neg then [45] else []) ++ body.map Char.toNat, none, true)) (by
    show (match Float64.text x 'f' 1 false false false with | (negative, body) => (pure ((if negative then [45] else []) ++ body.map Char.toNat, none, true) : Sem (List Nat × Option Value × Bool))) = _
    rw [ht]) ?_
  refine wpAny_of_eq (a := ForInStep.yield ([Value.str unit v], w0.add ⟨laid.cps.toList.toArray⟩, [32,37,115])) (by
    show (match percentField { ljust := false, sign := true, blank := false, alt := false, zero := false, width := none, prec := some 1, type := 102 } true ((if neg then [45] else []) ++ body.map Char.toNat) with
     | none => (pure (ForInStep.yield ([Value.str unit v], w0.add ⟨((if neg then [45] else []) ++ body.map Char.toNat).toArray⟩ (if [32,37,115].isEmpty then none else none), [32,37,115])) : Sem (ForInStep (List Value × Writer × List Nat)))
     | some laid => pure (ForInStep.yield ([Value.str unit v], w0.add ⟨laid.toArray⟩, [32,37,115]))) = _
    rw [hl]) ?_
  refine KPc.after_str0 g0 hn (KPc.obj_none rfl) ?_
  intro w1 g1
  refine KPc.turn ?_
  kpc_check
  (repeat kpc_if)
  refine wpAny_pure ?_
  refine KPc.after_add g1 (by kpc_text) (by kpc_obj) ?_
  intro w2 g2
  refine KPc.turn ?_
  kpc_check
  (repeat kpc_if)
  refine wpAny_bind ?_; refine wpAny_holding ?_; (repeat kpc_if); kpt_conv; refine wpAny_pure ?_; refine wpAny_pure ?_
  refine KPc.after_str g2 hu (by kpc_obj) ?_
  intro w3 g3
  refine KPc.turn ?_
  kpc_check
  (repeat kpc_if)
  kpc_close

theorem run_n1 (nv : Value) (x : UInt64) (v t : Tok) (b : Addr) (unit : PySem.Str) (hu : unit.length ≤ 10) (neg : Bool) (body : List Char) (laid : PySem.Str)
   (hconv : ∀ (prog : Program) (w : World) (A : Around) (E : Value → Shared → Prop) (s : Shared) (Q : UInt64 → Shared → Prop), (∀ k, Q x { s with toks := k }) → wpAny (model prog w) A (percentFloatOf nv) Q E s)
   (ht : Float64.text x 'f' 1 false false false = (neg, body))
   (hl : percentField { ljust := false, sign := false, blank := false, alt := false, zero := false, width := none, prec := some 1, type := 102 } true ((if neg then [45] else []) ++ body.map Char.toNat) = some laid.cps.toList) (hn : laid.length ≤ 100) :
   Meets («str.__mod__» ⟨[.str (PySem.Str.mk #[37, 46, 49, 102, 32, 37, 115]) t, .ref b], []⟩) (fun _ R s => IsTup s.heap b #[nv, .str unit v] ∧ ∀ t' k, R (.ok (.ret (.str (laid ++ PySem.Str.ofString " " ++ unit) t'))) { s with toks := k }) := by
  apply KPt.meets_tup
  intro _ _ _ _ _ _ kptH hQ
  obtain ⟨kptO, kptG, kptC, kptN, kptD⟩ := kptH
  rw [KPt.entry_is_r]
  unfold Builtin.Str.percentFormat
  refine wpAny_bind (wpAny_isInstance (T := "tuple") ⟨kptO, kptG, kptC⟩ KPt.sub_tt ?_)
  refine wpAny_bind (KPt.asStr_ref kptG kptD ?_)
  refine wpAny_bind (KPt.fills_ref ⟨kptO, kptG, kptC⟩ ?_)
  intro _
  kpc_if
  refine wpAny_bind (wpAny_seqItems kptG kptD ?_)
  refine wpAny_bind (wpAny_pure ?_)
  refine wpAny_bind ?_
  rw [KPc.range_list]
  refine KPc.start ?_
  intro w0 g0
  refine KPc.turn ?_
  kpc_check
  (repeat kpc_if)
  refine wpAny_bind ?_
  refine wpAny_holding ?_
  (repeat kpc_if)
  refine wpAny_bind (hconv _ _ _ _ _ _ ?_)
  intro kk
  refine wpAny_ite (KPc.ite_no (by decide) ?_)
  refine wpAny_of_eq (a := ((if neg then [45] else []) ++ body.map Char.toNat, none, true)) (by
    show (match Float64.text x 'f' 1 false false false with | (negative, body) => (pure ((if negative then [45] else []) ++ body.map Char.toNat, none, true) : Sem (List Nat × Option Value × Bool))) = _
    rw [ht]) ?_
  refine wpAny_of_eq (a := ForInStep.yield ([Value.str unit v], w0.add ⟨laid.cps.toList.toArray⟩, [32,37,115])) (by
    show (match percentField { ljust := false, sign := false, blank := false, alt := false, zero := false, width := none, prec := some 1, type := 102 } true ((if neg then [45] else []) ++ body.map Char.toNat) with
     | none => (pure (ForInStep.yield ([Value.str unit v], w0.add ⟨((if neg then [45] else []) ++ body.map Char.toNat).toArray⟩ (if [32,37,115].isEmpty then none else none), [32,37,115])) : Sem (ForInStep (List Value × Writer × List Nat)))
     | some laid => pure (ForInStep.yield ([Value.str unit v], w0.add ⟨laid.toArray⟩, [32,37,115]))) = _
    rw [hl]) ?_
  refine KPc.after_str0 g0 hn (KPc.obj_none rfl) ?_
  intro w1 g1
  refine KPc.turn ?_
  kpc_check
  (repeat kpc_if)
  refine wpAny_pure ?_
  refine KPc.after_add g1 (by kpc_text) (by kpc_obj) ?_
  intro w2 g2
  refine KPc.turn ?_
  kpc_check
  (repeat kpc_if)
  refine wpAny_bind ?_; refine wpAny_holding ?_; (repeat kpc_if); kpt_conv; refine wpAny_pure ?_; refine wpAny_pure ?_
  refine KPc.after_str g2 hu (by kpc_obj) ?_
  intro w3 g3
  refine KPc.turn ?_
  kpc_check
  (repeat kpc_if)
  kpc_close

theorem run_p0 (nv : Value) (x : UInt64) (v t : Tok) (b : Addr) (unit : PySem.Str) (hu : unit.length ≤ 10) (neg : Bool) (body : List Char) (laid : PySem.Str)
   (hconv : ∀ (prog : Program) (w : World) (A : Around) (E : Value → Shared → Prop) (s : Shared) (Q : UInt64 → Shared → Prop), (∀ k, Q x { s with toks := k }) → wpAny (model prog w) A (percentFloatOf nv) Q E s)
   (ht : Float64.text x 'f' 0 false false false = (neg, body))
   (hl : percentField { ljust := false, sign := true, blank := false, alt := false, zero := false, width := none, prec := some 0, type := 102 } true ((if neg then [45] else []) ++ body.map Char.toNat) = some laid.cps.toList) (hn : laid.length ≤ 100) :
   Meets («str.__mod__» ⟨[.str (PySem.Str.mk #[37, 43, 46, 48, 102, 32, 37, 115]) t, .ref b], []⟩) (fun _ R s => IsTup s.heap b #[nv, .str unit v] ∧ ∀ t' k, R (.ok (.ret (.str (laid ++ PySem.Str.ofString " " ++ unit) t'))) { s with toks := k }) := by
  apply KPt.meets_tup
  intro _ _ _ _ _ _ kptH hQ
  obtain ⟨kptO, kptG, kptC, kptN, kptD⟩ := kptH
  rw [KPt.entry_is_r]
  unfold Builtin.Str.percentFormat
  refine wpAny_bind (wpAny_isInstance (T := "tuple") ⟨kptO, kptG, kptC⟩ KPt.sub_tt ?_)
  refine wpAny_bind (KPt.asStr_ref kptG kptD ?_)
  refine wpAny_bind (KPt.fills_ref ⟨kptO, kptG, kptC⟩ ?_)
  intro _
  kpc_if
  refine wpAny_bind (wpAny_seqItems kptG kptD ?_)
  refine wpAny_bind (wpAny_pure ?_)
  refine wpAny_bind ?_
  rw [KPc.range_list]
  refine KPc.start ?_
  intro w0 g0
  refine KPc.turn ?_
  kpc_check
  (repeat kpc_if)
  refine wpAny_bind ?_
  refine wpAny_holding ?_
  (repeat kpc_if)
  refine wpAny_bind (hconv _ _ _ _ _ _ ?_)
  intro kk
  refine wpAny_ite (KPc.ite_no (by decide) ?_)
  refine wpAny_of_eq (a := ((if neg then [45] else []) ++ body.map Char.toNat, none, true)) (by
    show (match Float64.text x 'f' 0 false false false with | (negative, body) => (pure ((if negative then [45] else []) ++ body.map Char.toNat, none, true) : Sem (List Nat × Option Value × Bool))) = _
    rw [ht]) ?_
  refine wpAny_of_eq (a := ForInStep.yield ([Value.str unit v], w0.add ⟨laid.cps.toList.toArray⟩, [32,37,115])) (by
    show (match percentField { ljust := false, sign := true, blank := false, alt := false, zero := false, width := none, prec := some 0, type := 102 } true ((if neg then [45] else []) ++ body.map Char.toNat) with
     | none => (pure (ForInStep.yield ([Value.str unit v], w0.add ⟨((if neg then [45] else []) ++ body.map Char.toNat).toArray⟩ (if [32,37,115].isEmpty then none else none), [32,37,115])) : Sem (ForInStep (List Value × Writer × List Nat)))
     | some laid => pure (ForInStep.yield ([Value.str unit v], w0.add ⟨laid.toArray⟩, [32,37,115]))) = _
    rw [hl]) ?_
  refine KPc.after_str0 g0 hn (KPc.obj_none rfl) ?_
  intro w1 g1
  refine KPc.turn ?_
  kpc_check
  (repeat kpc_if)
  refine wpAny_pure ?_
  refine KPc.after_add g1 (by kpc_text) (by kpc_obj) ?_
  intro w2 g2
  refine KPc.turn ?_
  kpc_check
  (repeat kpc_if)
  refine wpAny_bind ?_; refine wpAny_holding ?_; (repeat kpc_if); kpt_conv; refine wpAny_pure ?_; refine wpAny_pure ?_
  refine KPc.after_str g2 hu (by kpc_obj) ?_
  intro w3 g3
  refine KPc.turn ?_
  kpc_check
  (repeat kpc_if)
  kpc_close

theorem run_n0 (nv : Value) (x : UInt64) (v t : Tok) (b : Addr) (unit : PySem.Str) (hu : unit.length ≤ 10) (neg : Bool) (body : List Char) (laid : PySem.Str)
   (hconv : ∀ (prog : Program) (w : World) (A : Around) (E : Value → Shared → Prop) (s : Shared) (Q : UInt64 → Shared → Prop), (∀ k, Q x { s with toks := k }) → wpAny (model prog w) A (percentFloatOf nv) Q E s)
   (ht : Float64.text x 'f' 0 false false false = (neg, body))
   (hl : percentField { ljust := false, sign := false, blank := false, alt := false, zero := false, width := none, prec := some 0, type := 102 } true ((if neg then [45] else []) ++ body.map Char.toNat) = some laid.cps.toList) (hn : laid.length ≤ 100) :
   Meets («str.__mod__» ⟨[.str (PySem.Str.mk #[37, 46, 48, 102, 32, 37, 115]) t, .ref b], []⟩) (fun _ R s => IsTup s.heap b #[nv, .str unit v] ∧ ∀ t' k, R (.ok (.ret (.str (laid ++ PySem.Str.ofString " " ++ unit) t'))) { s with toks := k }) := by
  apply KPt.meets_tup
  intro _ _ _ _ _ _ kptH hQ
  obtain ⟨kptO, kptG, kptC, kptN, kptD⟩ := kptH
  rw [KPt.entry_is_r]
  unfold Builtin.Str.percentFormat
  refine wpAny_bind (wpAny_isInstance (T := "tuple") ⟨kptO, kptG, kptC⟩ KPt.sub_tt ?_)
  refine wpAny_bind (KPt.asStr_ref kptG kptD ?_)
  refine wpAny_bind (KPt.fills_ref ⟨kptO, kptG, kptC⟩ ?_)
  intro _
  kpc_if
  refine wpAny_bind (wpAny_seqItems kptG kptD ?_)
  refine wpAny_bind (wpAny_pure ?_)
  refine wpAny_bind ?_
  rw [KPc.range_list]
  refine KPc.start ?_
  intro w0 g0
  refine KPc.turn ?_
  kpc_check
  (repeat kpc_if)
  refine wpAny_bind ?_
  refine wpAny_holding ?_
  (repeat kpc_if)
  refine wpAny_bind (hconv _ _ _ _ _ _ ?_)
  intro kk
  refine wpAny_ite (KPc.ite_no (by decide) ?_)
  refine wpAny_of_eq (a := ((if neg then [45] else []) ++ body.map Char.toNat, none, true)) (by
    show (match Float64.text x 'f' 0 false false false with | (negative, body) => (pure ((if negative then [45] else []) ++ body.map Char.toNat, none, true) : Sem (List Nat × Option Value × Bool))) = _
    rw [ht]) ?_
  refine wpAny_of_eq (a := ForInStep.yield ([Value.str unit v], w0.add ⟨laid.cps.toList.toArray⟩, [32,37,115])) (by
    show (match percentField { ljust := false, sign := false, blank := false, alt := false, zero := false, width := none, prec := some 0, type := 102 } true ((if neg then [45] else []) ++ body.map Char.toNat) with
     | none => (pure (ForInStep.yield ([Value.str unit v], w0.add ⟨((if neg then [45] else []) ++ body.map Char.toNat).toArray⟩ (if [32,37,115].isEmpty then none else none), [32,37,115])) : Sem (ForInStep (List Value × Writer × List Nat)))
     | some laid => pure (ForInStep.yield ([Value.str unit v], w0.add ⟨laid.toArray⟩, [32,37,115]))) = _
    rw [hl]) ?_
  refine KPc.after_str0 g0 hn (KPc.obj_none rfl) ?_
  intro w1 g1
  refine KPc.turn ?_
  kpc_check
  (repeat kpc_if)
  refine wpAny_pure ?_
  refine KPc.after_add g1 (by kpc_text) (by kpc_obj) ?_
  intro w2 g2
  refine KPc.turn ?_
  kpc_check
  (repeat kpc_if)
  refine wpAny_bind ?_; refine wpAny_holding ?_; (repeat kpc_if); kpt_conv; refine wpAny_pure ?_; refine wpAny_pure ?_
  refine KPc.after_str g2 hu (by kpc_obj) ?_
  intro w3 g3
  refine KPc.turn ?_
  kpc_check
  (repeat kpc_if)
  kpc_close

end Mine
end

/- part: FmtLaw -/
section
open PySem PySem.W PyProof.Rows
set_option Elab.async false
set_option maxRecDepth 100000
namespace Mine
open Builtin Builtin.Str
def sgnT (sign : Bool) (k : Int) : PySem.Str := if k < 0 then PySem.Str.ofString "-" else if sign then PySem.Str.ofString "+" else PySem.Str.empty
def pointT (sign : Bool) (k : Int) (unit : PySem.Str) : PySem.Str := sgnT sign k ++ (PySem.Str.ofString (toString ((k.natAbs : Nat) : Int)) ++ PySem.Str.ofString ".0 " ++ unit)
def plainT (sign : Bool) (k : Int) (unit : PySem.Str) : PySem.Str := sgnT sign k ++ (PySem.Str.ofString (toString ((k.natAbs : Nat) : Int)) ++ PySem.Str.ofString " " ++ unit)
def laidL (sign neg : Bool) (body : List Char) : List Nat := (if neg then [45] else if sign then [43] else []) ++ body.map Char.toNat
theorem field_ok {sign : Bool} {prec : Nat} (neg : Bool) {c : Char} {cs : List Char} (hc : c.toNat ≠ 45 ∧ c.toNat ≠ 43) (hp : prec < (c :: cs).length) :
    percentField { ljust := false, sign := sign, blank := false, alt := false, zero := false, width := none, prec := some prec, type := 102 } true ((if neg then [45] else []) ++ (c :: cs).map Char.toNat) = some (laidL sign neg (c :: cs)) := by
  obtain ⟨h1, h2⟩ := hc
  have hlen : ¬ (prec ≥ ((if neg then [45] else []) ++ (c :: cs).map Char.toNat).length) := by
    rw [List.length_append, List.length_map]; omega
  unfold percentField laidL
  have e0 : (Option.all (· ≤ ((if neg then [45] else []) ++ (c :: cs).map Char.toNat).length) (none : Option Nat) && Option.all (· ≥ ((if neg then [45] else []) ++ (c :: cs).map Char.toNat).length) (some prec) && !sign && !false) = false := by
    simp only [Option.all_some, decide_eq_false hlen, Bool.and_false, Bool.false_and]
  rw [e0]
  simp only [Bool.false_eq_true, if_false, Bool.not_true, Bool.false_and, Bool.and_false, Option.getD_none, Nat.zero_sub, List.replicate_zero, List.nil_append]
  have e1 : ((102 : Nat) == 115 || (102 : Nat) == 114 || (102 : Nat) == 97) = false := by decide
  rw [e1]
  simp only [Bool.false_eq_true, if_false]
  cases neg with
  | true => simp
  | false =>
    simp only [Bool.false_eq_true, if_false, List.nil_append, List.map_cons]
    cases sign <;> (split <;> first | (rename_i h; exact absurd (List.cons.inj h).1 h1) | (rename_i h; exact absurd (List.cons.inj h).1 h2) | simp)
theorem repr_head (n : Nat) : ∃ c cs, (Nat.repr n).toList = c :: cs ∧ c.toNat ≠ 45 ∧ c.toNat ≠ 43 := by
  have hd : ∀ c ∈ (Nat.repr n).toList, c.isDigit = true := by
    intro c hc
    rw [Nat.toList_repr] at hc
    exact Nat.isDigit_of_mem_toDigits (by decide) (by decide) hc
  cases h : (Nat.repr n).toList with
  | nil =>
    have h2 : Nat.repr n = "" := String.toList_eq_nil_iff.mp h
    exact absurd h2 Nat.repr_ne_empty
  | cons c cs =>
    have hc := hd c (by rw [h]; exact List.mem_cons_self)
    refine ⟨c, cs, rfl, ?_, ?_⟩ <;>
    · intro e
      have h1 : c.isDigit = (c.toNat ≥ 48 && c.toNat ≤ 57) := rfl
      rw [h1, e] at hc
      revert hc
      decide
theorem toString_nat (n : Nat) : toString ((n : Nat) : Int) = Nat.repr n := rfl
theorem laid_plain (sign : Bool) (k : Int) (unit : PySem.Str) : (⟨(laidL sign (decide (k < 0)) (Nat.repr k.natAbs).toList).toArray⟩ : PySem.Str) ++ PySem.Str.ofString " " ++ unit = plainT sign k unit := by
  unfold plainT laidL sgnT
  rw [toString_nat, Str.append_assoc, Str.append_assoc]
  have e : ∀ l : List Nat, (⟨(l ++ (Nat.repr k.natAbs).toList.map Char.toNat).toArray⟩ : PySem.Str) = ⟨l.toArray⟩ ++ PySem.Str.ofString (Nat.repr k.natAbs) := by
    intro l
    rw [Str.ofString_eq_toList]
    refine Str.ext' ?_
    rw [Str.cps_append]
    simp
  rw [e, Str.append_assoc]
  congr 1
  by_cases h : k < 0
  · rw [decide_eq_true h, if_pos rfl, if_pos h]; decide
  · rw [decide_eq_false h, if_neg (by decide), if_neg h]
    cases sign <;> decide
theorem laid_point (sign : Bool) (k : Int) (unit : PySem.Str) : (⟨(laidL sign (decide (k < 0)) ((Nat.repr k.natAbs).toList ++ ['.', '0'])).toArray⟩ : PySem.Str) ++ PySem.Str.ofString " " ++ unit = pointT sign k unit := by
  unfold pointT laidL sgnT
  rw [toString_nat]
  have e : ∀ l : List Nat, (⟨(l ++ ((Nat.repr k.natAbs).toList ++ ['.', '0']).map Char.toNat).toArray⟩ : PySem.Str) = ⟨l.toArray⟩ ++ (PySem.Str.ofString (Nat.repr k.natAbs) ++ PySem.Str.ofString ".0") := by
    intro l
    rw [Str.ofString_eq_toList]
    refine Str.ext' ?_
    rw [Str.cps_append, Str.cps_append, show (PySem.Str.ofString ".0").cps = #[46, 48] by decide]
    simp
  have e2 : PySem.Str.ofString ".0 " = PySem.Str.ofString ".0" ++ PySem.Str.ofString " " := by decide
  rw [e, e2]
  simp only [Str.append_assoc]
  congr 1
  by_cases h : k < 0
  · rw [decide_eq_true h, if_pos rfl, if_pos h]; decide
  · rw [decide_eq_false h, if_neg (by decide), if_neg h]
    cases sign <;> decide
section
variable {prog : Program} {w : World} {A : Around} {E : Value → Shared → Prop} {s : Shared} {X : PySem.Str} {t u v : Tok} {b L : Addr} {n : Nat} {h₀ : Heap} {news : List (Addr × Obj)} {x : UInt64} {k : Int} {unit : PySem.Str} {Q : Value → Shared → Prop}
theorem laid_len {sign neg : Bool} {m : Nat} {tail : List Char} (hm : m < 10 ^ 10) (ht : tail.length ≤ 2) : (⟨(laidL sign neg ((Nat.repr m).toList ++ tail)).toArray⟩ : PySem.Str).length ≤ 100 := by
  have h := toString_length_le (v := (m : Int)) (k := 10) (by omega) (by decide) (by exact_mod_cast hm)
  rw [toString_nat, PyProof.Rows.ofString_length] at h
  unfold laidL Str.length
  simp only [List.size_toArray, List.length_append, List.length_map]
  cases neg <;> cases sign <;> simp only [Bool.false_eq_true, if_false, if_true, List.length_cons, List.length_nil] <;> omega
theorem mod_point (sign : Bool) (N : News h₀ L s.heap news) (hb : (b, ({ cls := .type "tuple", data := .seq #[.float x u, .str unit v] n } : Obj)) ∈ news) (hx : FV x k) (h0 : k ≠ 0) (h1 : -100 < k) (h2 : k < 100) (hu : unit.length ≤ 10)
    (hX : X = if sign then PySem.Str.ofString "%+.1f %s" else PySem.Str.ofString "%.1f %s") (h : ∀ t' k', Q (.str (pointT sign k unit) t') { s with toks := k' }) : wpAny (model prog w) A (binaryOp .Mod (.str X t) (.ref b)) Q E s := by
  have hT := fv_text1 hx h0 (by omega)
  obtain ⟨c, cs, e1, e2⟩ := repr_head k.natAbs
  have hlen := laid_len (sign := sign) (neg := decide (k < 0)) (m := k.natAbs) (tail := ['.', '0']) (by omega) (by decide)
  cases sign with
  | true =>
    refine KPt.mod_tuple (X' := PySem.Str.mk #[37, 43, 46, 49, 102, 32, 37, 115]) N hb (by rw [hX]; decide) (run_p1 _ x v t b unit hu (decide (k < 0)) _ ⟨(laidL true (decide (k < 0)) ((Nat.repr k.natAbs).toList ++ ['.', '0'])).toArray⟩ (conv_float x u) hT ?_ hlen) ?_
    · rw [e1]
      have := field_ok (sign := true) (prec := 1) (decide (k < 0)) (c := c) (cs := cs ++ ['.', '0']) e2 (by simp)
      rw [show (c :: cs) ++ ['.', '0'] = c :: (cs ++ ['.', '0']) from rfl, this]
    · rw [laid_point]; exact h
  | false =>
    refine KPt.mod_tuple (X' := PySem.Str.mk #[37, 46, 49, 102, 32, 37, 115]) N hb (by rw [hX]; decide) (run_n1 _ x v t b unit hu (decide (k < 0)) _ ⟨(laidL false (decide (k < 0)) ((Nat.repr k.natAbs).toList ++ ['.', '0'])).toArray⟩ (conv_float x u) hT ?_ hlen) ?_
    · rw [e1]
      have := field_ok (sign := false) (prec := 1) (decide (k < 0)) (c := c) (cs := cs ++ ['.', '0']) e2 (by simp)
      rw [show (c :: cs) ++ ['.', '0'] = c :: (cs ++ ['.', '0']) from rfl, this]
    · rw [laid_point]; exact h
theorem mod_plain (sign : Bool) (nv : Value) (hconv : ∀ (prog : Program) (w : World) (A : Around) (E : Value → Shared → Prop) (s : Shared) (Q : UInt64 → Shared → Prop), (∀ k, Q x { s with toks := k }) → wpAny (model prog w) A (percentFloatOf nv) Q E s)
    (N : News h₀ L s.heap news) (hb : (b, ({ cls := .type "tuple", data := .seq #[nv, .str unit v] n } : Obj)) ∈ news) (hx : FV x k) (h1 : -1000000000 < k) (h2 : k < 1000000000) (hu : unit.length ≤ 10)
    (hX : X = if sign then PySem.Str.ofString "%+.0f %s" else PySem.Str.ofString "%.0f %s") (h : ∀ t' k', Q (.str (plainT sign k unit) t') { s with toks := k' }) : wpAny (model prog w) A (binaryOp .Mod (.str X t) (.ref b)) Q E s := by
  have hT := fv_text0 hx
  obtain ⟨c, cs, e1, e2⟩ := repr_head k.natAbs
  have hlen := laid_len (sign := sign) (neg := decide (k < 0)) (m := k.natAbs) (tail := []) (by omega) (by decide)
  rw [List.append_nil] at hlen
  cases sign with
  | true =>
    refine KPt.mod_tuple (X' := PySem.Str.mk #[37, 43, 46, 48, 102, 32, 37, 115]) N hb (by rw [hX]; decide) (run_p0 _ x v t b unit hu (decide (k < 0)) _ ⟨(laidL true (decide (k < 0)) (Nat.repr k.natAbs).toList).toArray⟩ hconv hT ?_ hlen) ?_
    · rw [e1]
      exact field_ok (sign := true) (prec := 0) (decide (k < 0)) (c := c) (cs := cs) e2 (by simp)
    · rw [laid_plain]; exact h
  | false =>
    refine KPt.mod_tuple (X' := PySem.Str.mk #[37, 46, 48, 102, 32, 37, 115]) N hb (by rw [hX]; decide) (run_n0 _ x v t b unit hu (decide (k < 0)) _ ⟨(laidL false (decide (k < 0)) (Nat.repr k.natAbs).toList).toArray⟩ hconv hT ?_ hlen) ?_
    · rw [e1]
      exact field_ok (sign := false) (prec := 0) (decide (k < 0)) (c := c) (cs := cs) e2 (by simp)
    · rw [laid_plain]; exact h
theorem mod_plainF (sign : Bool) (N : News h₀ L s.heap news) (hb : (b, ({ cls := .type "tuple", data := .seq #[.float x u, .str unit v] n } : Obj)) ∈ news) (hx : FV x k) (h1 : -1000000000 < k) (h2 : k < 1000000000) (hu : unit.length ≤ 10)
    (hX : X = if sign then PySem.Str.ofString "%+.0f %s" else PySem.Str.ofString "%.0f %s") (h : ∀ t' k', Q (.str (plainT sign k unit) t') { s with toks := k' }) : wpAny (model prog w) A (binaryOp .Mod (.str X t) (.ref b)) Q E s :=
  mod_plain sign _ (conv_float x u) N hb hx h1 h2 hu hX h
theorem mod_plainI (sign : Bool) (N : News h₀ L s.heap news) (hb : (b, ({ cls := .type "tuple", data := .seq #[.int k u, .str unit v] n } : Obj)) ∈ news) (h1 : -1000000000 < k) (h2 : k < 1000000000) (hu : unit.length ≤ 10)
    (hX : X = if sign then PySem.Str.ofString "%+.0f %s" else PySem.Str.ofString "%.0f %s") (h : ∀ t' k', Q (.str (plainT sign k unit) t') { s with toks := k' }) : wpAny (model prog w) A (binaryOp .Mod (.str X t) (.ref b)) Q E s := by
  have hx := fv_ofInt k (by omega)
  exact mod_plain sign _ (conv_int k u (by rw [fv_fin hx]; decide)) N hb hx h1 h2 hu hX h
theorem idiv_int (h0 : k % 1024 = 0) (h1 : -1000000000000000000 < k) (h2 : k < 1000000000000000000) (h : ∀ (x : UInt64) (j : Int) (t' : Tok) (k' : Nat), k = j * 1024 → FV x j → Q (.float x t') { s with toks := k' }) : wpAny (model prog w) A (inplaceOp .Div (.int k t) (.int 1024 u)) Q E s := by
  have hj : k = (k / 1024) * 1024 := by omega
  have hF := fv_divInt hj (by omega)
  exact AutoIntOps.itruediv_2 (by decide) (by rw [fv_fin hF]; decide) (h _ _ _ _ hj hF)
theorem idiv_float (hx : FV x k) (h0 : k % 1024 = 0) (h1 : -1000000000000000000 < k) (h2 : k < 1000000000000000000) (h : ∀ (y : UInt64) (j : Int) (t' : Tok) (k' : Nat), k = j * 1024 → FV y j → Q (.float y t') { s with toks := k' }) : wpAny (model prog w) A (inplaceOp .Div (.float x t) (.int 1024 u)) Q E s := by
  have hj : k = (k / 1024) * 1024 := by omega
  have hF := fv_divFloat hx hj (by omega)
  exact Flt.itruediv_fi_2 (by decide +kernel) (by decide +kernel) (h _ _ _ _ hj hF)
theorem abs_float (hx : FV x k) (h : ∀ (y : UInt64) (t' : Tok) (k' : Nat), FV y (k.natAbs : Int) → Q (.float y t') { s with toks := k' }) : wpAny (model prog w) A (call (.builtin "abs") [.float x t]) Q E s :=
  Flt.call_abs_float (h _ _ _ (fv_abs hx))
theorem lt_float {i : Int} (hx : FV x k) (h : Q (.bool (decide (k < i))) s) : wpAny (model prog w) A (compareOp .Lt (.float x t) (.int i u)) Q E s := by
  refine lt_fi ?_
  have e : (Float64.cmpInt x i == some Ordering.lt) = decide (k < i) := by
    rw [fv_cmp hx]
    rcases Int.lt_trichotomy k i with g | g | g
    · rw [Int.compare_eq_lt.mpr g, decide_eq_true g]; rfl
    · rw [Int.compare_eq_eq.mpr g, decide_eq_false (by omega)]; rfl
    · rw [Int.compare_eq_gt.mpr g, decide_eq_false (by omega)]; rfl
  rw [e]; exact h
end
end Mine
end

/- part: Claim1 -/
section
open Lean Meta PySem PySem.W PyProof.Rows
set_option Elab.async false
set_option maxRecDepth 100000
set_option maxHeartbeats 1500000
namespace Mine
abbrev PureClaim (prog : Program) (w : World) (K : Frag) (p : Program) (loose : List Str) (mean : ExcName → Option Value) (mg mb : Str → Option Value) (f : Addr) (vs : List Value) (R : Tok → Value) : Prop :=
  ∀ (dp un : Nat) (gd : Option (List Code)) (cn : Str) (cs : Scope) (a : Addr) (ccd : Value) (cl : List (Str × Addr)) (outer : List Env) (A₀ : Around) (base h₀ : Heap) (L : Addr) (m : Str → Option Value) (s : Shared) (Q E : Value → Shared → Prop),
    Below A₀ base outer h₀ → Fr h₀ L s.heap m → K.In h₀ → Top p loose mean mg mb h₀ → cs.kind = .function → dp + 1 < recursionLimit → un + 8 < cLine →
    (∀ (t : Tok) (h' : Heap) (tk' : Nat), Fr h₀ L h' m → (∀ b o, s.heap.get? b = some o → h'.get? b = some o) → Q (R t) { s with heap := h', toks := tk' }) →
      wpAny (model prog w) (ktrTop dp un gd cn cs L a ccd cl outer) (call (.ref f) vs) Q E s
def StopHere (P : Prop) : Prop := P
theorem stop_here {P : Prop} (h : StopHere P) : P := h
theorem wpAny_stop {M : Model} {A : Around} {α : Type} {t : Sem α} {Q : α → Shared → Prop} {E : Value → Shared → Prop} {s : Shared} (h : False) : wpAny M A t Q E s := h.elim
def fmtT (c : Int) (h : Nat) (sign : Bool) : Str :=
  if c = 0 then sgnT sign c ++ Str.ofString "0 B"
  else if c.natAbs < 10 then plainT sign (c * 1024) (Str.ofString (["B", "KiB", "MiB", "GiB", "TiB"].getD (h - 1) ""))
  else if c.natAbs < 100 then pointT sign c (Str.ofString (["B", "KiB", "MiB", "GiB", "TiB"].getD h ""))
  else plainT sign c (Str.ofString (["B", "KiB", "MiB", "GiB", "TiB"].getD h ""))

local macro_rules | `(tactic| walk_at "binaryOp Mod str ref") => `(tactic| (k_here; k_dflt (first
  | (refine' mod_point true ?N ?b ?F ?h0 ?h1 ?h2 ?u ?X ?_; (case X => rfl); (case N => k_asm); (case b => k_mem); (case F => assumption); (case h0 => omega); (case h1 => omega); (case h2 => omega); (case u => decide); intro _ _; (try dsimp only))
  | (refine' mod_point false ?N ?b ?F ?h0 ?h1 ?h2 ?u ?X ?_; (case X => rfl); (case N => k_asm); (case b => k_mem); (case F => assumption); (case h0 => omega); (case h1 => omega); (case h2 => omega); (case u => decide); intro _ _; (try dsimp only))
  | (refine' mod_plainF true ?N ?b ?F ?h1 ?h2 ?u ?X ?_; (case X => rfl); (case N => k_asm); (case b => k_mem); (case F => assumption); (case h1 => omega); (case h2 => omega); (case u => decide); intro _ _; (try dsimp only))
  | (refine' mod_plainF false ?N ?b ?F ?h1 ?h2 ?u ?X ?_; (case X => rfl); (case N => k_asm); (case b => k_mem); (case F => assumption); (case h1 => omega); (case h2 => omega); (case u => decide); intro _ _; (try dsimp only))
  | (refine' mod_plainI true ?N ?b ?h1 ?h2 ?u ?X ?_; (case X => rfl); (case N => k_asm); (case b => k_mem); (case h1 => omega); (case h2 => omega); (case u => decide); intro _ _; (try dsimp only))
  | (refine' mod_plainI false ?N ?b ?h1 ?h2 ?u ?X ?_; (case X => rfl); (case N => k_asm); (case b => k_mem); (case h1 => omega); (case h2 => omega); (case u => decide); intro _ _; (try dsimp only))
  | refine stop_here ?_)))
local macro_rules | `(tactic| walk_at "LeaveK") => `(tactic| (k_dflt (refine' leaveK_ ?k1 ?k2 ?_; (case k1 => k_asm); (case k2 => k_asm); k_whole); intro kF kN; refine stop_here ?_))
theorem pure_ret {h₀ g h' : Heap} {L L' : Addr} {m m' : Str → Option Value} {s : Shared} {Q : Value → Shared → Prop} {x y : Str} {t : Tok} {tk' : Nat}
    (hret : ∀ (t : Tok) (h' : Heap) (tk' : Nat), Fr h₀ L h' m → (∀ b o, s.heap.get? b = some o → h'.get? b = some o) → Q (.str x t) { s with heap := h', toks := tk' })
    (hk : ∀ b o, s.heap.get? b = some o → g.get? b = some o) (kF : Fr h₀ L h' m) (F : Fr g L' h' m') (e : y = x) : Q (.str y t) { s with heap := h', toks := tk' } := by
  subst e
  exact hret t h' tk' kF fun b o z => F.keep b o (hk b o z)
local macro_rules | `(tactic| walk_at "inplaceOp Div int int") => `(tactic| (k_here; (refine idiv_int (by omega) (by omega) (by omega) ?_); intro x' j' t' k' hj' hF'; (try dsimp only)))
local macro_rules | `(tactic| walk_at "inplaceOp Div float int") => `(tactic| (k_here; (refine idiv_float (by assumption) (by omega) (by omega) (by omega) ?_); intro x' j' t' k' hj' hF'; (try dsimp only)))
local macro_rules | `(tactic| walk_at "call builtin:abs") => `(tactic| (k_here; (with_reducible show wpAny _ _ (call (Value.builtin _) [Value.float _ _]) _ _ _); (refine abs_float (by assumption) ?_); intro x' t' k' hF'; (try dsimp only)))
local macro_rules | `(tactic| walk_at "compareOp Lt float int") => `(tactic| (k_here; (refine lt_float (by assumption) ?_); (try dsimp only)))

def unitT (i : Nat) : Str := Str.ofString (["B", "KiB", "MiB", "GiB", "TiB"].getD i "")
theorem fmtE_zero {c k : Int} {h : Nat} {sign sg : Bool} (hs : sign = sg) (hk : k = 0) (hc : c = 0) : plainT sg k (Str.ofString "B") = fmtT c h sign := by
  subst hs hk hc
  unfold fmtT plainT
  rw [if_pos rfl]
  congr 1
theorem fmtE_small {c k : Int} {h : Nat} {sign sg : Bool} {unit : Str} (hs : sign = sg) (hk : k = c * 1024) (h0 : c ≠ 0) (h9 : c.natAbs < 10) (hu : unit = unitT (h - 1)) : plainT sg k unit = fmtT c h sign := by
  subst hs hk hu
  unfold fmtT
  rw [if_neg h0, if_pos h9]; rfl
theorem fmtE_point {c k : Int} {h : Nat} {sign sg : Bool} {unit : Str} (hs : sign = sg) (hk : k = c) (h9 : 10 ≤ c.natAbs) (h99 : c.natAbs < 100) (hu : unit = unitT h) : pointT sg k unit = fmtT c h sign := by
  subst hs hk hu
  unfold fmtT
  rw [if_neg (by omega), if_neg (by omega), if_pos h99]; rfl
theorem fmtE_plain {c k : Int} {h : Nat} {sign sg : Bool} {unit : Str} (hs : sign = sg) (hk : k = c) (h99 : 100 ≤ c.natAbs) (hu : unit = unitT h) : plainT sg k unit = fmtT c h sign := by
  subst hs hk hu
  unfold fmtT
  rw [if_neg (by omega), if_neg (by omega), if_neg (by omega)]; rfl
theorem fmt_1 {w p loose mean mg mb} (c : Int) (hc : -5600 ≤ c ∧ c ≤ 5600) (t : Tok) (sign : Bool) : PureClaim Challenge.rw_dw0061_01.row.prog w (Mine.hd.heap_39 w.params) p loose mean mg mb 21 [.int (c * 1024) t, .bool sign] (fun t => .str (fmtT c 1 sign) t) := by
  k_fill
  dsimp only [PureClaim]; intro dp un gd cn cs a ccd cl outer A₀ base h₀ L m s Q E B F X T hk hd hu hret
  refine wpAny_call ?_
  k_dflt (refine' code_defG (news := []) ?k1 ?k2 ?k3 ?k4 ?k5 ?kA ?kF ?kK ?k6 ?k7 ?k8 ?k9 ?kB ?_ ?c2 ?c3 ?c4 ?c5; (case kA => exact rfl); (case kF => exact rfl); (case kK => assumption); (case k1 => k_asm); (case k2 => k_asm); (case k3 => k_asm); (case k4 => (intro p hp; nomatch hp)); (case k5 => k_asm); (case k6 => k_is); (case k7 => k_is); (case k8 => ktr_room); (case k9 => exact BindsTo.of_eq rfl); (case c5 => decide); (case kB => exact locs rfl); (case c2 => exact rfl); (case c3 => exact rfl); (case c4 => exact rfl); k_whole; intro g' L' h' FG' F' N' B' X' T' GS'; (try dsimp only); (try k_lift B'); (try k_fold))
  have hkeep : ∀ b o, s.heap.get? b = some o → g'.get? b = some o := fun b o e => GS' b o e (by simp)
  clear GS'
  k_steps
  all_goals (unfold StopHere; (refine pure_ret hret hkeep (by assumption) (by assumption) ?_); clear hret; first
    | (with_reducible refine fmtE_zero ?_ ?_ ?_) <;> first | assumption | omega | (simpa using ‹¬ _ = true›; done)
    | (with_reducible refine fmtE_small ?_ ?_ ?_ ?_ ?_) <;> first | assumption | omega | decide | (simpa using ‹¬ _ = true›; done)
    | (with_reducible refine fmtE_point ?_ ?_ ?_ ?_ ?_) <;> first | assumption | omega | decide | (simpa using ‹¬ _ = true›; done)
    | (with_reducible refine fmtE_plain ?_ ?_ ?_ ?_) <;> first | assumption | omega | decide | (simpa using ‹¬ _ = true›; done)
    | (exfalso; omega))
theorem fmt_2 {w p loose mean mg mb} (c : Int) (hc : -5600 ≤ c ∧ c ≤ 5600) (t : Tok) (sign : Bool) : PureClaim Challenge.rw_dw0061_01.row.prog w (Mine.hd.heap_39 w.params) p loose mean mg mb 21 [.int (c * 1048576) t, .bool sign] (fun t => .str (fmtT c 2 sign) t) := by
  k_fill
  dsimp only [PureClaim]; intro dp un gd cn cs a ccd cl outer A₀ base h₀ L m s Q E B F X T hk hd hu hret
  refine wpAny_call ?_
  k_dflt (refine' code_defG (news := []) ?k1 ?k2 ?k3 ?k4 ?k5 ?kA ?kF ?kK ?k6 ?k7 ?k8 ?k9 ?kB ?_ ?c2 ?c3 ?c4 ?c5; (case kA => exact rfl); (case kF => exact rfl); (case kK => assumption); (case k1 => k_asm); (case k2 => k_asm); (case k3 => k_asm); (case k4 => (intro p hp; nomatch hp)); (case k5 => k_asm); (case k6 => k_is); (case k7 => k_is); (case k8 => ktr_room); (case k9 => exact BindsTo.of_eq rfl); (case c5 => decide); (case kB => exact locs rfl); (case c2 => exact rfl); (case c3 => exact rfl); (case c4 => exact rfl); k_whole; intro g' L' h' FG' F' N' B' X' T' GS'; (try dsimp only); (try k_lift B'); (try k_fold))
  have hkeep : ∀ b o, s.heap.get? b = some o → g'.get? b = some o := fun b o e => GS' b o e (by simp)
  clear GS'
  k_steps
  all_goals (unfold StopHere; (refine pure_ret hret hkeep (by assumption) (by assumption) ?_); clear hret; first
    | (with_reducible refine fmtE_zero ?_ ?_ ?_) <;> first | assumption | omega | (simpa using ‹¬ _ = true›; done)
    | (with_reducible refine fmtE_small ?_ ?_ ?_ ?_ ?_) <;> first | assumption | omega | decide | (simpa using ‹¬ _ = true›; done)
    | (with_reducible refine fmtE_point ?_ ?_ ?_ ?_ ?_) <;> first | assumption | omega | decide | (simpa using ‹¬ _ = true›; done)
    | (with_reducible refine fmtE_plain ?_ ?_ ?_ ?_) <;> first | assumption | omega | decide | (simpa using ‹¬ _ = true›; done)
    | (exfalso; omega))
theorem fmt_3 {w p loose mean mg mb} (c : Int) (hc : -5600 ≤ c ∧ c ≤ 5600) (t : Tok) (sign : Bool) : PureClaim Challenge.rw_dw0061_01.row.prog w (Mine.hd.heap_39 w.params) p loose mean mg mb 21 [.int (c * 1073741824) t, .bool sign] (fun t => .str (fmtT c 3 sign) t) := by
  k_fill
  dsimp only [PureClaim]; intro dp un gd cn cs a ccd cl outer A₀ base h₀ L m s Q E B F X T hk hd hu hret
  refine wpAny_call ?_
  k_dflt (refine' code_defG (news := []) ?k1 ?k2 ?k3 ?k4 ?k5 ?kA ?kF ?kK ?k6 ?k7 ?k8 ?k9 ?kB ?_ ?c2 ?c3 ?c4 ?c5; (case kA => exact rfl); (case kF => exact rfl); (case kK => assumption); (case k1 => k_asm); (case k2 => k_asm); (case k3 => k_asm); (case k4 => (intro p hp; nomatch hp)); (case k5 => k_asm); (case k6 => k_is); (case k7 => k_is); (case k8 => ktr_room); (case k9 => exact BindsTo.of_eq rfl); (case c5 => decide); (case kB => exact locs rfl); (case c2 => exact rfl); (case c3 => exact rfl); (case c4 => exact rfl); k_whole; intro g' L' h' FG' F' N' B' X' T' GS'; (try dsimp only); (try k_lift B'); (try k_fold))
  have hkeep : ∀ b o, s.heap.get? b = some o → g'.get? b = some o := fun b o e => GS' b o e (by simp)
  clear GS'
  k_steps
  all_goals (unfold StopHere; (refine pure_ret hret hkeep (by assumption) (by assumption) ?_); clear hret; first
    | (with_reducible refine fmtE_zero ?_ ?_ ?_) <;> first | assumption | omega | (simpa using ‹¬ _ = true›; done)
    | (with_reducible refine fmtE_small ?_ ?_ ?_ ?_ ?_) <;> first | assumption | omega | decide | (simpa using ‹¬ _ = true›; done)
    | (with_reducible refine fmtE_point ?_ ?_ ?_ ?_ ?_) <;> first | assumption | omega | decide | (simpa using ‹¬ _ = true›; done)
    | (with_reducible refine fmtE_plain ?_ ?_ ?_ ?_) <;> first | assumption | omega | decide | (simpa using ‹¬ _ = true›; done)
    | (exfalso; omega))
theorem fmt_4 {w p loose mean mg mb} (c : Int) (hc : -5600 ≤ c ∧ c ≤ 5600) (t : Tok) (sign : Bool) : PureClaim Challenge.rw_dw0061_01.row.prog w (Mine.hd.heap_39 w.params) p loose mean mg mb 21 [.int (c * 1099511627776) t, .bool sign] (fun t => .str (fmtT c 4 sign) t) := by
  k_fill
  dsimp only [PureClaim]; intro dp un gd cn cs a ccd cl outer A₀ base h₀ L m s Q E B F X T hk hd hu hret
  refine wpAny_call ?_
  k_dflt (refine' code_defG (news := []) ?k1 ?k2 ?k3 ?k4 ?k5 ?kA ?kF ?kK ?k6 ?k7 ?k8 ?k9 ?kB ?_ ?c2 ?c3 ?c4 ?c5; (case kA => exact rfl); (case kF => exact rfl); (case kK => assumption); (case k1 => k_asm); (case k2 => k_asm); (case k3 => k_asm); (case k4 => (intro p hp; nomatch hp)); (case k5 => k_asm); (case k6 => k_is); (case k7 => k_is); (case k8 => ktr_room); (case k9 => exact BindsTo.of_eq rfl); (case c5 => decide); (case kB => exact locs rfl); (case c2 => exact rfl); (case c3 => exact rfl); (case c4 => exact rfl); k_whole; intro g' L' h' FG' F' N' B' X' T' GS'; (try dsimp only); (try k_lift B'); (try k_fold))
  have hkeep : ∀ b o, s.heap.get? b = some o → g'.get? b = some o := fun b o e => GS' b o e (by simp)
  clear GS'
  k_steps
  all_goals (unfold StopHere; (refine pure_ret hret hkeep (by assumption) (by assumption) ?_); clear hret; first
    | (with_reducible refine fmtE_zero ?_ ?_ ?_) <;> first | assumption | omega | (simpa using ‹¬ _ = true›; done)
    | (with_reducible refine fmtE_small ?_ ?_ ?_ ?_ ?_) <;> first | assumption | omega | decide | (simpa using ‹¬ _ = true›; done)
    | (with_reducible refine fmtE_point ?_ ?_ ?_ ?_ ?_) <;> first | assumption | omega | decide | (simpa using ‹¬ _ = true›; done)
    | (with_reducible refine fmtE_plain ?_ ?_ ?_ ?_) <;> first | assumption | omega | decide | (simpa using ‹¬ _ = true›; done)
    | (exfalso; omega))
end Mine
end

/- part: Claim2 -/
section
open Lean Meta PySem PySem.W PyProof.Rows
set_option Elab.async false
set_option maxRecDepth 100000
set_option maxHeartbeats 1000000
namespace Mine
def lawT (c : Int) (h : Nat) : Str :=
  if c = 0 then Str.ofString "0 B"
  else if c < 10 then Str.ofString (toString (1024 * c)) ++ Str.ofString " " ++ unitT (h - 1)
  else Str.ofString (toString c) ++ (if c < 100 then Str.ofString ".0 " else Str.ofString " ") ++ unitT h
local macro_rules | `(tactic| walk_at "LeaveK") => `(tactic| (k_dflt (refine' leaveK_ ?k1 ?k2 ?_; (case k1 => k_asm); (case k2 => k_asm); k_whole); intro kF kN; refine stop_here ?_))
theorem law_1 {w p loose mean mg mb} (c : Int) (hc : 0 ≤ c ∧ c ≤ 5600) (t t2 : Tok) : PureClaim Challenge.rw_dw0061_01.row.prog w (Mine.hd.heap_39 w.params) p loose mean mg mb 92 [.int c t,   .int 1 t2] (fun t => .str (lawT c 1) t) := by
  k_fill
  dsimp only [PureClaim]; intro dp un gd cn cs a ccd cl outer A₀ base h₀ L m s Q E B F X T hk hd hu hret
  refine wpAny_call ?_
  k_dflt (refine' code_defG (news := []) ?k1 ?k2 ?k3 ?k4 ?k5 ?kA ?kF ?kK ?k6 ?k7 ?k8 ?k9 ?kB ?_ ?c2 ?c3 ?c4 ?c5; (case kA => exact rfl); (case kF => exact rfl); (case kK => assumption); (case k1 => k_asm); (case k2 => k_asm); (case k3 => k_asm); (case k4 => (intro p hp; nomatch hp)); (case k5 => k_asm); (case k6 => k_is); (case k7 => k_is); (case k8 => ktr_room); (case k9 => exact BindsTo.of_eq rfl); (case c5 => decide); (case kB => exact locs rfl); (case c2 => exact rfl); (case c3 => exact rfl); (case c4 => exact rfl); k_whole; intro g' L' h' FG' F' N' B' X' T' GS'; (try dsimp only); (try k_lift B'); (try k_fold))
  have hkeep : ∀ b o, s.heap.get? b = some o → g'.get? b = some o := fun b o e => GS' b o e (by simp)
  clear GS'
  k_steps
  all_goals (unfold StopHere; (refine pure_ret (s := s) hret hkeep (by assumption) (by assumption) ?_); clear hret; first
    | (rw [lawT, if_pos (by omega)]; done)
    | (rw [lawT, if_neg (by omega), if_pos (by omega)]; rfl)
    | (rw [lawT, if_neg (by omega), if_neg (by omega), if_pos (by omega)]; rfl)
    | (rw [lawT, if_neg (by omega), if_neg (by omega), if_neg (by omega)]; rfl))
theorem law_2 {w p loose mean mg mb} (c : Int) (hc : 0 ≤ c ∧ c ≤ 5600) (t t2 : Tok) : PureClaim Challenge.rw_dw0061_01.row.prog w (Mine.hd.heap_39 w.params) p loose mean mg mb 92 [.int c t,   .int 2 t2] (fun t => .str (lawT c 2) t) := by
  k_fill
  dsimp only [PureClaim]; intro dp un gd cn cs a ccd cl outer A₀ base h₀ L m s Q E B F X T hk hd hu hret
  refine wpAny_call ?_
  k_dflt (refine' code_defG (news := []) ?k1 ?k2 ?k3 ?k4 ?k5 ?kA ?kF ?kK ?k6 ?k7 ?k8 ?k9 ?kB ?_ ?c2 ?c3 ?c4 ?c5; (case kA => exact rfl); (case kF => exact rfl); (case kK => assumption); (case k1 => k_asm); (case k2 => k_asm); (case k3 => k_asm); (case k4 => (intro p hp; nomatch hp)); (case k5 => k_asm); (case k6 => k_is); (case k7 => k_is); (case k8 => ktr_room); (case k9 => exact BindsTo.of_eq rfl); (case c5 => decide); (case kB => exact locs rfl); (case c2 => exact rfl); (case c3 => exact rfl); (case c4 => exact rfl); k_whole; intro g' L' h' FG' F' N' B' X' T' GS'; (try dsimp only); (try k_lift B'); (try k_fold))
  have hkeep : ∀ b o, s.heap.get? b = some o → g'.get? b = some o := fun b o e => GS' b o e (by simp)
  clear GS'
  k_steps
  all_goals (unfold StopHere; (refine pure_ret (s := s) hret hkeep (by assumption) (by assumption) ?_); clear hret; first
    | (rw [lawT, if_pos (by omega)]; done)
    | (rw [lawT, if_neg (by omega), if_pos (by omega)]; rfl)
    | (rw [lawT, if_neg (by omega), if_neg (by omega), if_pos (by omega)]; rfl)
    | (rw [lawT, if_neg (by omega), if_neg (by omega), if_neg (by omega)]; rfl))
theorem law_3 {w p loose mean mg mb} (c : Int) (hc : 0 ≤ c ∧ c ≤ 5600) (t t2 : Tok) : PureClaim Challenge.rw_dw0061_01.row.prog w (Mine.hd.heap_39 w.params) p loose mean mg mb 92 [.int c t,   .int 3 t2] (fun t => .str (lawT c 3) t) := by
  k_fill
  dsimp only [PureClaim]; intro dp un gd cn cs a ccd cl outer A₀ base h₀ L m s Q E B F X T hk hd hu hret
  refine wpAny_call ?_
  k_dflt (refine' code_defG (news := []) ?k1 ?k2 ?k3 ?k4 ?k5 ?kA ?kF ?kK ?k6 ?k7 ?k8 ?k9 ?kB ?_ ?c2 ?c3 ?c4 ?c5; (case kA => exact rfl); (case kF => exact rfl); (case kK => assumption); (case k1 => k_asm); (case k2 => k_asm); (case k3 => k_asm); (case k4 => (intro p hp; nomatch hp)); (case k5 => k_asm); (case k6 => k_is); (case k7 => k_is); (case k8 => ktr_room); (case k9 => exact BindsTo.of_eq rfl); (case c5 => decide); (case kB => exact locs rfl); (case c2 => exact rfl); (case c3 => exact rfl); (case c4 => exact rfl); k_whole; intro g' L' h' FG' F' N' B' X' T' GS'; (try dsimp only); (try k_lift B'); (try k_fold))
  have hkeep : ∀ b o, s.heap.get? b = some o → g'.get? b = some o := fun b o e => GS' b o e (by simp)
  clear GS'
  k_steps
  all_goals (unfold StopHere; (refine pure_ret (s := s) hret hkeep (by assumption) (by assumption) ?_); clear hret; first
    | (rw [lawT, if_pos (by omega)]; done)
    | (rw [lawT, if_neg (by omega), if_pos (by omega)]; rfl)
    | (rw [lawT, if_neg (by omega), if_neg (by omega), if_pos (by omega)]; rfl)
    | (rw [lawT, if_neg (by omega), if_neg (by omega), if_neg (by omega)]; rfl))
theorem law_4 {w p loose mean mg mb} (c : Int) (hc : 0 ≤ c ∧ c ≤ 5600) (t t2 : Tok) : PureClaim Challenge.rw_dw0061_01.row.prog w (Mine.hd.heap_39 w.params) p loose mean mg mb 92 [.int c t,   .int 4 t2] (fun t => .str (lawT c 4) t) := by
  k_fill
  dsimp only [PureClaim]; intro dp un gd cn cs a ccd cl outer A₀ base h₀ L m s Q E B F X T hk hd hu hret
  refine wpAny_call ?_
  k_dflt (refine' code_defG (news := []) ?k1 ?k2 ?k3 ?k4 ?k5 ?kA ?kF ?kK ?k6 ?k7 ?k8 ?k9 ?kB ?_ ?c2 ?c3 ?c4 ?c5; (case kA => exact rfl); (case kF => exact rfl); (case kK => assumption); (case k1 => k_asm); (case k2 => k_asm); (case k3 => k_asm); (case k4 => (intro p hp; nomatch hp)); (case k5 => k_asm); (case k6 => k_is); (case k7 => k_is); (case k8 => ktr_room); (case k9 => exact BindsTo.of_eq rfl); (case c5 => decide); (case kB => exact locs rfl); (case c2 => exact rfl); (case c3 => exact rfl); (case c4 => exact rfl); k_whole; intro g' L' h' FG' F' N' B' X' T' GS'; (try dsimp only); (try k_lift B'); (try k_fold))
  have hkeep : ∀ b o, s.heap.get? b = some o → g'.get? b = some o := fun b o e => GS' b o e (by simp)
  clear GS'
  k_steps
  all_goals (unfold StopHere; (refine pure_ret (s := s) hret hkeep (by assumption) (by assumption) ?_); clear hret; first
    | (rw [lawT, if_pos (by omega)]; done)
    | (rw [lawT, if_neg (by omega), if_pos (by omega)]; rfl)
    | (rw [lawT, if_neg (by omega), if_neg (by omega), if_pos (by omega)]; rfl)
    | (rw [lawT, if_neg (by omega), if_neg (by omega), if_neg (by omega)]; rfl))
end Mine
end

/- part: Claim3 -/
section
open Lean Meta PySem PySem.W PyProof.Rows
set_option Elab.async false
set_option maxRecDepth 100000
namespace Mine
theorem empty_append (x : Str) : Str.empty ++ x = x := by
  refine Str.ext' ?_
  rw [Str.cps_append]
  show #[] ++ x.cps = x.cps
  simp
theorem sgnT_false {k : Int} (h : 0 ≤ k) : sgnT false k = Str.empty := by
  unfold sgnT; rw [if_neg (by omega)]; rfl
theorem sgnT_true (k : Int) : sgnT true k = if k < 0 then Str.ofString "-" else Str.ofString "+" := by
  unfold sgnT; rfl
theorem fmt_abs (d : Int) (h : Nat) (sign : Bool) : fmtT d h sign = sgnT sign d ++ lawT d.natAbs h := by
  unfold fmtT lawT
  by_cases h0 : d = 0
  · have a0 : ((d.natAbs : Nat) : Int) = 0 := by omega
    rw [if_pos h0, if_pos a0]
  · have a0 : ¬ ((d.natAbs : Nat) : Int) = 0 := by omega
    rw [if_neg h0, if_neg a0]
    by_cases h1 : d.natAbs < 10
    · have a1 : ((d.natAbs : Nat) : Int) < 10 := by omega
      rw [if_pos h1, if_pos a1]
      unfold plainT
      have e1 : sgnT sign (d * 1024) = sgnT sign d := by
        unfold sgnT
        by_cases hd : d < 0
        · have hd' : d * 1024 < 0 := by omega
          rw [if_pos hd, if_pos hd']
        · have hd' : ¬ d * 1024 < 0 := by omega
          rw [if_neg hd, if_neg hd']
      have e2 : (((d * 1024).natAbs : Nat) : Int) = 1024 * ((d.natAbs : Nat) : Int) := by omega
      rw [e1, e2]; rfl
    · have a1 : ¬ ((d.natAbs : Nat) : Int) < 10 := by omega
      rw [if_neg h1, if_neg a1]
      by_cases h2 : d.natAbs < 100
      · have a2 : ((d.natAbs : Nat) : Int) < 100 := by omega
        rw [if_pos h2, if_pos a2]; rfl
      · have a2 : ¬ ((d.natAbs : Nat) : Int) < 100 := by omega
        rw [if_neg h2, if_neg a2]; rfl
theorem fmt_law {c : Int} (h : Nat) (hc : 0 ≤ c) : fmtT c h false = lawT c h := by
  rw [fmt_abs, sgnT_false hc, empty_append]
  congr 1
  omega
def markT (now was : Int) : Str := if now < was then Str.ofString "-" else Str.ofString "+"
theorem fmt_mark (now was : Int) (h : Nat) : fmtT (now - was) h true = markT now was ++ lawT ((now - was).natAbs) h := by
  rw [fmt_abs, sgnT_true]
  unfold markT
  by_cases e : now < was
  · rw [if_pos e, if_pos (by omega)]
  · rw [if_neg e, if_neg (by omega)]
theorem fmt_any {w p loose mean mg mb} (h : Nat) (hh : 1 ≤ h ∧ h ≤ 4) (c n : Int) (hn : n = c * 1024 ^ h) (hc : -5600 ≤ c ∧ c ≤ 5600) (t : Tok) (sign : Bool) : PureClaim Challenge.rw_dw0061_01.row.prog w (Mine.hd.heap_39 w.params) p loose mean mg mb 21 [.int n t, .bool sign] (fun t => .str (fmtT c h sign) t) := by
  subst hn
  have : h = 1 ∨ h = 2 ∨ h = 3 ∨ h = 4 := by omega
  rcases this with rfl | rfl | rfl | rfl
  · exact fmt_1 c hc t sign
  · exact fmt_2 c hc t sign
  · exact fmt_3 c hc t sign
  · exact fmt_4 c hc t sign
theorem law_any {w p loose mean mg mb} (h : Nat) (hh : 1 ≤ h ∧ h ≤ 4) (c : Int) (hc : 0 ≤ c ∧ c ≤ 5600) (t t2 : Tok) : PureClaim Challenge.rw_dw0061_01.row.prog w (Mine.hd.heap_39 w.params) p loose mean mg mb 92 [.int c t, .int (h : Int) t2] (fun t => .str (lawT c h) t) := by
  have : h = 1 ∨ h = 2 ∨ h = 3 ∨ h = 4 := by omega
  rcases this with rfl | rfl | rfl | rfl
  · exact law_1 c hc t t2
  · exact law_2 c hc t t2
  · exact law_3 c hc t t2
  · exact law_4 c hc t t2
end Mine
end

/- part: LawDefs -/
section
open Lean Meta PySem PySem.W PyProof.Rows
set_option Elab.async false
set_option maxRecDepth 100000
namespace Mine
def bodyOf : Stmt → List Stmt
  | .FunctionDef _ _ b _ _ _ _ _ _ _ => b
  | .For _ _ b _ _ => b
  | _ => []
def targetOf : Stmt → PySem.Expr
  | .For t _ _ _ _ => t
  | _ => .Name Str.empty ⟨0, 0, 0, 0⟩
def scopeOf : Stmt → Scope
  | .FunctionDef _ _ _ _ _ _ sc _ _ _ => sc
  | _ => { kind := .function, names := [], isGenerator := false, isCoroutine := false, more := [] }
def stmtAt (l : List Stmt) (i : Nat) : Stmt := l.getD i (.Pass ⟨0, 0, 0, 0⟩)
def lawDef : Stmt := stmtAt Challenge.pw_dw0061_01.main.body 6
def lawScope : Scope := scopeOf lawDef
def loop1 : Stmt := stmtAt (bodyOf lawDef) 3
def body1 : List Stmt := bodyOf loop1
def loop2 : Stmt := stmtAt (bodyOf lawDef) 4
def loop3 : Stmt := stmtAt (bodyOf loop2) 0
def body3 : List Stmt := bodyOf loop3
abbrev lawEnv (L fa : Addr) (cd : Value) : Env := envOfC (Str.ofString "law") lawScope L fa cd
/-- less, of addresses, as plain numbers -/
abbrev ltA (a b : Nat) : Prop := a < b
/-- a trace of the ledger: its domain, its units -/
def TrIn (h : Nat) (tl : List (Addr × Obj)) (v : Value) (p : Int × Int) : Prop :=
  ∃ (a : Addr) (t1 t2 : Tok) (b : Addr) (t3 : Tok) (n : Nat), v = .ref a ∧ (a, ({ cls := .type "tuple", data := .seq #[.int p.1 t1, .int (p.2 * 1024 ^ h) t2, .ref b, .int 1 t3] n } : Obj)) ∈ tl
def TrAll (h : Nat) (tl : List (Addr × Obj)) : List Value → List (Int × Int) → Prop
  | [], [] => True
  | v :: vs, p :: ps => TrIn h tl v p ∧ TrAll h tl vs ps
  | _, _ => False
def cnt (ps : List (Int × Int)) (k : Int) : Int := (ps.map fun p => if p.1 = k then p.2 else 0).sum
theorem TrIn.mono {h : Nat} {tl tl' : List (Addr × Obj)} {v p} (hs : ∀ q ∈ tl, q ∈ tl') (x : TrIn h tl v p) : TrIn h tl' v p := by
  obtain ⟨a, t1, t2, b, t3, n, e, hm⟩ := x
  exact ⟨a, t1, t2, b, t3, n, e, hs _ hm⟩
theorem TrAll.mono {h : Nat} {tl tl' : List (Addr × Obj)} (hs : ∀ q ∈ tl, q ∈ tl') : ∀ {vs ps}, TrAll h tl vs ps → TrAll h tl' vs ps
  | [], [], _ => trivial
  | _ :: _, _ :: _, x => ⟨x.1.mono hs, TrAll.mono hs x.2⟩
theorem TrAll.length {h : Nat} {tl : List (Addr × Obj)} : ∀ {vs ps}, TrAll h tl vs ps → vs.length = ps.length
  | [], [], _ => rfl
  | _ :: _, _ :: _, x => by rw [List.length_cons, List.length_cons, TrAll.length x.2]
theorem TrAll.snoc {h : Nat} {tl : List (Addr × Obj)} {v p} (hv : TrIn h tl v p) : ∀ {vs ps}, TrAll h tl vs ps → TrAll h tl (vs ++ [v]) (ps ++ [p])
  | [], [], _ => ⟨hv, trivial⟩
  | _ :: _, _ :: _, x => ⟨x.1, TrAll.snoc hv x.2⟩
theorem TrAll.get {h : Nat} {tl : List (Addr × Obj)} : ∀ {vs ps} (_ : TrAll h tl vs ps) (i : Nat) (v : Value), vs[i]? = some v → ∃ p, ps[i]? = some p ∧ TrIn h tl v p
  | [], [], _, i, v, e => by simp at e
  | _ :: _, p :: _, x, 0, v, e => ⟨p, rfl, by have e' := Option.some.inj e; subst e'; exact x.1⟩
  | _ :: _, _ :: _, x, i + 1, v, e => TrAll.get x.2 i v (by simpa using e)
theorem cnt_snoc (ps : List (Int × Int)) (p : Int × Int) (k : Int) : cnt (ps ++ [p]) k = cnt ps k + if p.1 = k then p.2 else 0 := by
  unfold cnt; simp
/-- what a trace holds -/
def Good1 (p : Int × Int) : Prop := (p.1 = 0 ∨ p.1 = 1 ∨ p.1 = 2) ∧ 1 ≤ p.2 ∧ p.2 ≤ 160
theorem cnt_bound : ∀ {ps : List (Int × Int)}, (∀ p ∈ ps, Good1 p) → 0 ≤ cnt ps 0 ∧ 0 ≤ cnt ps 1 ∧ 0 ≤ cnt ps 2 ∧ cnt ps 0 + cnt ps 1 + cnt ps 2 ≤ 160 * ps.length
  | [], _ => by simp [cnt]
  | p :: ps, hg => by
    have ih := cnt_bound (ps := ps) fun q hq => hg q (List.mem_cons_of_mem _ hq)
    obtain ⟨hd, h1, h2⟩ := hg p List.mem_cons_self
    have e : ∀ k, cnt (p :: ps) k = (if p.1 = k then p.2 else 0) + cnt ps k := fun k => by simp [cnt]
    rw [e, e, e, List.length_cons]
    rcases hd with hd | hd | hd <;> (simp [hd]; omega)
end Mine
end

/- part: End1 -/
section
open Lean Meta PySem PySem.W PyProof.Rows
set_option Elab.async false
set_option maxRecDepth 100000
namespace Mine
structure St1 (h i : Nat) (tl : List (Addr × Obj)) (vs0 vs1 : List Value) (ps0 ps1 : List (Int × Int)) : Prop where
  tr0 : TrAll h tl vs0 ps0
  tr1 : TrAll h tl vs1 ps1
  g0 : ∀ p ∈ ps0, Good1 p
  g1 : ∀ p ∈ ps1, Good1 p
  l0 : ps0.length ≤ (i + 1) / 2
  l1 : ps1.length ≤ i / 2
def Cn (ps : List (Int × Int)) (k0 k1 k2 : Int) : Prop := k0 = cnt ps 0 ∧ k1 = cnt ps 1 ∧ k2 = cnt ps 2
abbrev adr1 (L C c0 c1 S a0 a1 l I : Addr) : List Addr := [C, c1, c0, S, a1, a0, l, I, I + 1, L + 1, L + 1 + 1, L + 1 + 1 + 1]
def HQ1 (h₀ : Heap) (L : Addr) (h i : Nat) (th : Tok) (C c0 c1 S a0 a1 l I : Addr) (w1 w2 w3 o1 o2 lo : Obj) (s : Shared) (Q : Flow → Shared → Prop) : Prop :=
  ∀ (hp : Heap) (tk : Nat) (m : Str → Option Value) (vs0 vs1 : List Value) (n0 n1 : Nat) (ps0 ps1 : List (Int × Int)) (k00 k01 k02 k10 k11 k12 : Int) (t00 t01 t02 t10 t11 t12 : Tok) (tl : List (Addr × Obj)),
    Fr h₀ L hp m → m (Str.ofString "counts") = some (.ref C) → m (Str.ofString "snapshots") = some (.ref S) → m (Str.ofString "high") = some (.int (h : Int) th) →
    News h₀ L hp ((C, listOf #[.ref c0, .ref c1] 0) :: (c1, listOf #[.int k10 t10, .int k11 t11, .int k12 t12] 0) :: (c0, listOf #[.int k00 t00, .int k01 t01, .int k02 t02] 0) ::
      (S, listOf #[.ref a0, .ref a1] 0) :: (a1, listOf vs1.toArray n1) :: (a0, listOf vs0.toArray n0) :: (L + 1 + 1 + 1, w3) :: (L + 1 + 1, w2) :: (L + 1, w1) :: (I + 1, o1) :: (I, o2) :: (l, lo) :: tl) →
    OwnOff tl (adr1 L C c0 c1 S a0 a1 l I) → St1 h (i + 1) tl vs0 vs1 ps0 ps1 → Cn ps0 k00 k01 k02 → Cn ps1 k10 k11 k12 → Q .next { s with heap := hp, toks := tk }
theorem cn_snoc {ps : List (Int × Int)} {k0 k1 k2 d un : Int} (c : Cn ps k0 k1 k2) : Cn (ps ++ [(d, un)]) (k0 + if d = 0 then un else 0) (k1 + if d = 1 then un else 0) (k2 + if d = 2 then un else 0) := by
  obtain ⟨rfl, rfl, rfl⟩ := c
  exact ⟨(cnt_snoc ps (d, un) 0).symm, (cnt_snoc ps (d, un) 1).symm, (cnt_snoc ps (d, un) 2).symm⟩
theorem off_cons {tl : List (Addr × Obj)} {adr : List Addr} {D : Addr} {o : Obj} (h : OwnOff tl adr) (hD : ∀ b ∈ adr, D ≠ b) : OwnOff ((D, o) :: tl) adr := by
  intro p hp b hb
  rcases List.mem_cons.mp hp with rfl | hp
  · exact hD b hb
  · exact h p hp b hb
section
variable {h₀ hp : Heap} {L : Addr} {h i : Nat} {th : Tok} {C c0 c1 S a0 a1 l I : Addr} {w1 w2 w3 o1 o2 lo : Obj} {s : Shared} {Q : Flow → Shared → Prop} {tl : List (Addr × Obj)} {vs0 vs1 : List Value} {ps0 ps1 : List (Int × Int)}
  {k00 k01 k02 k10 k11 k12 : Int} {m : Str → Option Value} {D b : Addr} {t1 t2 t3 t00 t01 t02 t10 t11 t12 : Tok} {e2 e3 : Addr × Obj} {n0 n1 tk : Nat} {j0 j1 j2 : Int}
theorem ltA_ne {a b : Addr} (h : ltA b a) : a ≠ b := by
  intro e; subst e; exact Nat.lt_irrefl _ h
theorem all12 {P : Addr → Prop} {x1 x2 x3 x4 x5 x6 x7 x8 x9 x10 x11 x12 : Addr} (h1 : P x1) (h2 : P x2) (h3 : P x3) (h4 : P x4) (h5 : P x5) (h6 : P x6) (h7 : P x7) (h8 : P x8) (h9 : P x9) (h10 : P x10) (h11 : P x11) (h12 : P x12) :
    ∀ b ∈ [x1, x2, x3, x4, x5, x6, x7, x8, x9, x10, x11, x12], P b := by
  intro b hb
  simp only [List.mem_cons, List.not_mem_nil, or_false] at hb
  rcases hb with rfl | rfl | rfl | rfl | rfl | rfl | rfl | rfl | rfl | rfl | rfl | rfl <;> assumption
abbrev Below12 (L C c0 c1 S a0 a1 l I D : Addr) : Prop := ltA C D ∧ ltA c1 D ∧ ltA c0 D ∧ ltA S D ∧ ltA a1 D ∧ ltA a0 D ∧ ltA l D ∧ ltA I D ∧ ltA (I + 1) D ∧ ltA (L + 1) D ∧ ltA (L + 1 + 1) D ∧ ltA (L + 1 + 1 + 1) D
theorem below_ne (hD : Below12 L C c0 c1 S a0 a1 l I D) : ∀ b ∈ adr1 L C c0 c1 S a0 a1 l I, D ≠ b := by
  obtain ⟨q1, q2, q3, q4, q5, q6, q7, q8, q9, q10, q11, q12⟩ := hD
  exact all12 (P := fun b => D ≠ b) (ltA_ne q1) (ltA_ne q2) (ltA_ne q3) (ltA_ne q4) (ltA_ne q5) (ltA_ne q6) (ltA_ne q7) (ltA_ne q8) (ltA_ne q9) (ltA_ne q10) (ltA_ne q11) (ltA_ne q12)
theorem end_even (H : HQ1 h₀ L h i th C c0 c1 S a0 a1 l I w1 w2 w3 o1 o2 lo s Q) (St : St1 h i tl vs0 vs1 ps0 ps1) (C0 : Cn ps0 k00 k01 k02) (C1 : Cn ps1 k10 k11 k12) (off : OwnOff tl (adr1 L C c0 c1 S a0 a1 l I)) (hp2 : Int.fmod (i : Int) 2 = 0)
    {d un : Int} (hd : d = 0 ∨ d = 1 ∨ d = 2) (hun : 1 ≤ un ∧ un ≤ 160) (F : Fr h₀ L hp m) (m1 : m (Str.ofString "counts") = some (.ref C)) (m2 : m (Str.ofString "snapshots") = some (.ref S)) (m3 : m (Str.ofString "high") = some (.int (h : Int) th))
    (N : News h₀ L hp ((D, { cls := .type "tuple", data := .seq #[.int d t1, .int (un * 1024 ^ (h : Int).toNat) t2, .ref b, .int 1 t3] }) :: e2 :: e3 :: (C, listOf #[.ref c0, .ref c1] 0) :: (c1, listOf #[.int k10 t10, .int k11 t11, .int k12 t12] 0) :: (c0, listOf #[.int j0 t00, .int j1 t01, .int j2 t02] 0) ::
      (S, listOf #[.ref a0, .ref a1] 0) :: (a1, listOf vs1.toArray n1) :: (a0, listOf (vs0 ++ [Value.ref D]).toArray n0) :: (L + 1 + 1 + 1, w3) :: (L + 1 + 1, w2) :: (L + 1, w1) :: (I + 1, o1) :: (I, o2) :: (l, lo) :: tl))
    (hD : Below12 L C c0 c1 S a0 a1 l I D) (hj0 : j0 = k00 + if d = 0 then un else 0) (hj1 : j1 = k01 + if d = 1 then un else 0) (hj2 : j2 = k02 + if d = 2 then un else 0) : Q .next { s with heap := hp, toks := tk } := by
  subst hj0 hj1 hj2
  have sub : ∀ q ∈ tl, q ∈ (D, ({ cls := .type "tuple", data := .seq #[.int d t1, .int (un * 1024 ^ (h : Int).toNat) t2, .ref b, .int 1 t3] } : Obj)) :: tl := fun q hq => List.mem_cons_of_mem _ hq
  rw [Int.fmod_eq_emod_of_nonneg _ (by decide)] at hp2
  refine H hp tk m (vs0 ++ [Value.ref D]) vs1 n0 n1 (ps0 ++ [(d, un)]) ps1 _ _ _ _ _ _ t00 t01 t02 t10 t11 t12 ((D, { cls := .type "tuple", data := .seq #[.int d t1, .int (un * 1024 ^ (h : Int).toNat) t2, .ref b, .int 1 t3] }) :: tl) F m1 m2 m3 ?_ (off_cons off (below_ne hD)) ?_ (cn_snoc C0) C1
  · intro p hp
    refine N p ?_
    simp only [List.mem_cons] at hp ⊢
    rcases hp with e | e | e | e | e | e | e | e | e | e | e | e | e | e <;> simp [e]
  · refine ⟨TrAll.snoc ⟨D, t1, t2, b, t3, _, rfl, by rw [Int.toNat_natCast]; exact List.mem_cons_self⟩ (St.tr0.mono sub), St.tr1.mono sub, ?_, St.g1, ?_, ?_⟩
    · intro p hp
      rcases List.mem_append.mp hp with hp | hp
      · exact St.g0 p hp
      · rw [List.mem_singleton.mp hp]; exact ⟨hd, hun⟩
    · have := St.l0
      rw [List.length_append, List.length_singleton]; omega
    · have := St.l1; omega
theorem end_odd (H : HQ1 h₀ L h i th C c0 c1 S a0 a1 l I w1 w2 w3 o1 o2 lo s Q) (St : St1 h i tl vs0 vs1 ps0 ps1) (C0 : Cn ps0 k00 k01 k02) (C1 : Cn ps1 k10 k11 k12) (off : OwnOff tl (adr1 L C c0 c1 S a0 a1 l I)) (hp2 : Int.fmod (i : Int) 2 = 1)
    {d un : Int} (hd : d = 0 ∨ d = 1 ∨ d = 2) (hun : 1 ≤ un ∧ un ≤ 160) (F : Fr h₀ L hp m) (m1 : m (Str.ofString "counts") = some (.ref C)) (m2 : m (Str.ofString "snapshots") = some (.ref S)) (m3 : m (Str.ofString "high") = some (.int (h : Int) th))
    (N : News h₀ L hp ((D, { cls := .type "tuple", data := .seq #[.int d t1, .int (un * 1024 ^ (h : Int).toNat) t2, .ref b, .int 1 t3] }) :: e2 :: e3 :: (C, listOf #[.ref c0, .ref c1] 0) :: (c1, listOf #[.int j0 t10, .int j1 t11, .int j2 t12] 0) :: (c0, listOf #[.int k00 t00, .int k01 t01, .int k02 t02] 0) ::
      (S, listOf #[.ref a0, .ref a1] 0) :: (a1, listOf (vs1 ++ [Value.ref D]).toArray n1) :: (a0, listOf vs0.toArray n0) :: (L + 1 + 1 + 1, w3) :: (L + 1 + 1, w2) :: (L + 1, w1) :: (I + 1, o1) :: (I, o2) :: (l, lo) :: tl))
    (hD : Below12 L C c0 c1 S a0 a1 l I D) (hj0 : j0 = k10 + if d = 0 then un else 0) (hj1 : j1 = k11 + if d = 1 then un else 0) (hj2 : j2 = k12 + if d = 2 then un else 0) : Q .next { s with heap := hp, toks := tk } := by
  subst hj0 hj1 hj2
  have sub : ∀ q ∈ tl, q ∈ (D, ({ cls := .type "tuple", data := .seq #[.int d t1, .int (un * 1024 ^ (h : Int).toNat) t2, .ref b, .int 1 t3] } : Obj)) :: tl := fun q hq => List.mem_cons_of_mem _ hq
  rw [Int.fmod_eq_emod_of_nonneg _ (by decide)] at hp2
  refine H hp tk m vs0 (vs1 ++ [Value.ref D]) n0 n1 ps0 (ps1 ++ [(d, un)]) _ _ _ _ _ _ t00 t01 t02 t10 t11 t12 ((D, { cls := .type "tuple", data := .seq #[.int d t1, .int (un * 1024 ^ (h : Int).toNat) t2, .ref b, .int 1 t3] }) :: tl) F m1 m2 m3 ?_ (off_cons off (below_ne hD)) ?_ C0 (cn_snoc C1)
  · intro p hp
    refine N p ?_
    simp only [List.mem_cons] at hp ⊢
    rcases hp with e | e | e | e | e | e | e | e | e | e | e | e | e | e <;> simp [e]
  · refine ⟨St.tr0.mono sub, TrAll.snoc ⟨D, t1, t2, b, t3, _, rfl, by rw [Int.toNat_natCast]; exact List.mem_cons_self⟩ (St.tr1.mono sub), St.g0, ?_, ?_, ?_⟩
    · intro p hp
      rcases List.mem_append.mp hp with hp | hp
      · exact St.g1 p hp
      · rw [List.mem_singleton.mp hp]; exact ⟨hd, hun⟩
    · have := St.l0; omega
    · have := St.l1
      rw [List.length_append, List.length_singleton]; omega
end
end Mine
end

/- part: Turn1 -/
section
open Lean Meta Elab Tactic PySem PySem.W PyProof.Rows
set_option Elab.async false
set_option maxRecDepth 100000
set_option maxHeartbeats 1000000
namespace Mine
theorem mod_known {prog : Program} {w : World} {A : Around} {E : Value → Shared → Prop} {s : Shared} {Q : Value → Shared → Prop} {a b q : Int} {t u : Tok} (hq : Int.fmod a b = q) (hb : b ≠ 0)
    (h : Q (.int q s.toks) { s with toks := s.toks + 1 }) : wpAny (model prog w) A (binaryOp .Mod (.int a t) (.int b u)) Q E s := by
  subst hq
  exact mod_int' hb h
local macro_rules | `(tactic| walk_at "binaryOp Mod int int") => `(tactic| (k_here; (with_reducible refine mod_known (by with_reducible assumption) (by decide) ?_); (try dsimp only)))
theorem turn1 {w : World} {h₀ : Heap} {L fa : Addr} {cd : Value} {p loose mean mg mb} (KX : (Mine.hd.heap_39 w.params).In h₀) (T : Top p loose mean mg mb h₀)
    {h : Nat} {x : Int} {tx ti th : Tok} {i : Nat} {u : Str → Option Value} {C c0 c1 S a0 a1 l I : Addr} {o1 o2 lo w1 w2 w3 : Obj} {vs0 vs1 : List Value} {n0 n1 : Nat}
    {k00 k01 k02 k10 k11 k12 : Int} {t00 t01 t02 t10 t11 t12 : Tok} {tl : List (Addr × Obj)} {hp : Heap} {s : Shared} {Q : Flow → Shared → Prop} {E : Value → Shared → Prop}
    (hh : 1 ≤ h ∧ h ≤ 4) (hi : i ≤ 69) (hv0 : vs0.toArray.size ≤ sizeLine) (hv1 : vs1.toArray.size ≤ sizeLine)
    (l1 : ltA (L + 1 + 1 + 1) a0 ∧ ltA a0 a1 ∧ ltA a1 S ∧ ltA S c0 ∧ ltA c0 c1 ∧ ltA c1 C ∧ ltA C l ∧ ltA l I) (hc1 : o1.cls = .type "enumerate") (hc2 : o2.cls = .type "list_iterator")
    (hoff : OwnOff tl [C, c1, c0, S, a1, a0, l, I, I + 1, L + 1, L + 1 + 1, L + 1 + 1 + 1]) {ps0 ps1 : List (Int × Int)} (St : St1 h i tl vs0 vs1 ps0 ps1) (C0 : Cn ps0 k00 k01 k02) (C1 : Cn ps1 k10 k11 k12) (H : HQ1 h₀ L h i th C c0 c1 S a0 a1 l I w1 w2 w3 o1 o2 lo s Q)
    (F' : Fr h₀ L hp (fun y => if y = Str.ofString "x" then some (.int x tx) else if y = Str.ofString "place" then some (.int (i : Int) ti) else if y = Str.ofString "counts" then some (.ref C) else if y = Str.ofString "snapshots" then some (.ref S) else if y = Str.ofString "high" then some (.int (h : Int) th) else u y))
    (N' : News h₀ L hp ((C, listOf #[.ref c0, .ref c1] 0) :: (c1, listOf #[.int k10 t10, .int k11 t11, .int k12 t12] 0) :: (c0, listOf #[.int k00 t00, .int k01 t01, .int k02 t02] 0) ::
      (S, listOf #[.ref a0, .ref a1] 0) :: (a1, listOf vs1.toArray n1) :: (a0, listOf vs0.toArray n0) :: (L + 1 + 1 + 1, w3) :: (L + 1 + 1, w2) :: (L + 1, w1) :: (I + 1, o1) :: (I, o2) :: (l, lo) :: tl)) :
    wpAny (model Challenge.rw_dw0061_01.row.prog w) (callerA.deeper (lawEnv L fa cd)) (execs body1 (lawEnv L fa cd)) Q E { s with heap := hp } := by
  revert KX; k_fill; intro KX; w_top off
  dsimp only [ltA] at l1
  have hb : ∀ b, b = body1 → ∀ sc, sc = lawScope → wpAny (model Challenge.rw_dw0061_01.row.prog w) (callerA.deeper (envOfC (Str.ofString "law") sc L fa cd)) (execs b (envOfC (Str.ofString "law") sc L fa cd)) Q E { s with heap := hp } := by
    intro b e sc e2
    conv at e => rhs; whnf
    conv at e2 => rhs; whnf
    subst e e2
    have hx : Int.fmod x 3 = 0 ∨ Int.fmod x 3 = 1 ∨ Int.fmod x 3 = 2 := by
      rw [Int.fmod_eq_emod_of_nonneg _ (by decide)]; omega
    have hp2 : Int.fmod (i : Int) 2 = 0 ∨ Int.fmod (i : Int) 2 = 1 := by
      rw [Int.fmod_eq_emod_of_nonneg _ (by decide)]; omega
    have hun : 1 ≤ 1 + (x.fdiv 3).fmod 160 ∧ 1 + (x.fdiv 3).fmod 160 ≤ 160 := by
      rw [Int.fmod_eq_emod_of_nonneg _ (by decide : (0 : Int) ≤ 160)]
      have q1 := Int.emod_nonneg (x.fdiv 3) (by decide : (160 : Int) ≠ 0)
      have q2 := Int.emod_lt_of_pos (x.fdiv 3) (by decide : (0 : Int) < 160)
      omega
    rcases hp2 with hp2 | hp2
    · rcases hx with hx | hx | hx
      · k_steps
        (rename News _ _ _ _ => NE)
        (rename Fr _ _ _ _ => FE)
        with_reducible refine end_even H St C0 C1 hoff hp2 (d := 0) (by decide) hun FE ?m1 ?m2 ?m3 NE ?hD ?j0 ?j1 ?j2
        (case m1 => exact rfl)
        (case m2 => exact rfl)
        (case m3 => exact rfl)
        (case hD => dsimp only [Below12, ltA]; refine ⟨?_, ?_, ?_, ?_, ?_, ?_, ?_, ?_, ?_, ?_, ?_, ?_⟩ <;> omega)
        (case j0 => simp)
        (case j1 => simp)
        (case j2 => simp)
      · k_steps
        (rename News _ _ _ _ => NE)
        (rename Fr _ _ _ _ => FE)
        with_reducible refine end_even H St C0 C1 hoff hp2 (d := 1) (by decide) hun FE ?m1 ?m2 ?m3 NE ?hD ?j0 ?j1 ?j2
        (case m1 => exact rfl)
        (case m2 => exact rfl)
        (case m3 => exact rfl)
        (case hD => dsimp only [Below12, ltA]; refine ⟨?_, ?_, ?_, ?_, ?_, ?_, ?_, ?_, ?_, ?_, ?_, ?_⟩ <;> omega)
        (case j0 => simp)
        (case j1 => simp)
        (case j2 => simp)
      · k_steps
        (rename News _ _ _ _ => NE)
        (rename Fr _ _ _ _ => FE)
        with_reducible refine end_even H St C0 C1 hoff hp2 (d := 2) (by decide) hun FE ?m1 ?m2 ?m3 NE ?hD ?j0 ?j1 ?j2
        (case m1 => exact rfl)
        (case m2 => exact rfl)
        (case m3 => exact rfl)
        (case hD => dsimp only [Below12, ltA]; refine ⟨?_, ?_, ?_, ?_, ?_, ?_, ?_, ?_, ?_, ?_, ?_, ?_⟩ <;> omega)
        (case j0 => simp)
        (case j1 => simp)
        (case j2 => simp)
    · rcases hx with hx | hx | hx
      · k_steps
        (rename News _ _ _ _ => NE)
        (rename Fr _ _ _ _ => FE)
        with_reducible refine end_odd H St C0 C1 hoff hp2 (d := 0) (by decide) hun FE ?m1 ?m2 ?m3 NE ?hD ?j0 ?j1 ?j2
        (case m1 => exact rfl)
        (case m2 => exact rfl)
        (case m3 => exact rfl)
        (case hD => dsimp only [Below12, ltA]; refine ⟨?_, ?_, ?_, ?_, ?_, ?_, ?_, ?_, ?_, ?_, ?_, ?_⟩ <;> omega)
        (case j0 => simp)
        (case j1 => simp)
        (case j2 => simp)
      · k_steps
        (rename News _ _ _ _ => NE)
        (rename Fr _ _ _ _ => FE)
        with_reducible refine end_odd H St C0 C1 hoff hp2 (d := 1) (by decide) hun FE ?m1 ?m2 ?m3 NE ?hD ?j0 ?j1 ?j2
        (case m1 => exact rfl)
        (case m2 => exact rfl)
        (case m3 => exact rfl)
        (case hD => dsimp only [Below12, ltA]; refine ⟨?_, ?_, ?_, ?_, ?_, ?_, ?_, ?_, ?_, ?_, ?_, ?_⟩ <;> omega)
        (case j0 => simp)
        (case j1 => simp)
        (case j2 => simp)
      · k_steps
        (rename News _ _ _ _ => NE)
        (rename Fr _ _ _ _ => FE)
        with_reducible refine end_odd H St C0 C1 hoff hp2 (d := 2) (by decide) hun FE ?m1 ?m2 ?m3 NE ?hD ?j0 ?j1 ?j2
        (case m1 => exact rfl)
        (case m2 => exact rfl)
        (case m3 => exact rfl)
        (case hD => dsimp only [Below12, ltA]; refine ⟨?_, ?_, ?_, ?_, ?_, ?_, ?_, ?_, ?_, ?_, ?_, ?_⟩ <;> omega)
        (case j0 => simp)
        (case j1 => simp)
        (case j2 => simp)
  exact hb _ rfl _ rfl
end Mine
end

/- part: Loop1 -/
section
open Lean Meta Elab Tactic PySem PySem.W PyProof.Rows
set_option Elab.async false
set_option maxRecDepth 100000
set_option maxHeartbeats 1000000
namespace Mine
def Inv1 (L : Addr) (h i : Nat) (th : Tok) (C c0 c1 S a0 a1 l I : Addr) (w1 w2 w3 lo : Obj) (m : Str → Option Value) (news : List (Addr × Obj)) : Prop :=
  ∃ (vs0 vs1 : List Value) (n0 n1 : Nat) (ps0 ps1 : List (Int × Int)) (k00 k01 k02 k10 k11 k12 : Int) (t00 t01 t02 t10 t11 t12 : Tok) (tl : List (Addr × Obj)),
    m (Str.ofString "counts") = some (.ref C) ∧ m (Str.ofString "snapshots") = some (.ref S) ∧ m (Str.ofString "high") = some (.int (h : Int) th) ∧
    news = ((C, listOf #[.ref c0, .ref c1] 0) :: (c1, listOf #[.int k10 t10, .int k11 t11, .int k12 t12] 0) :: (c0, listOf #[.int k00 t00, .int k01 t01, .int k02 t02] 0) ::
      (S, listOf #[.ref a0, .ref a1] 0) :: (a1, listOf vs1.toArray n1) :: (a0, listOf vs0.toArray n0) :: (L + 1 + 1 + 1, w3) :: (L + 1 + 1, w2) :: (L + 1, w1) :: (l, lo) :: tl) ∧
    OwnOff tl (adr1 L C c0 c1 S a0 a1 l I) ∧ St1 h i tl vs0 vs1 ps0 ps1 ∧ Cn ps0 k00 k01 k02 ∧ Cn ps1 k10 k11 k12
theorem frame_eq {m : Str → Option Value} {C S : Addr} {v : Value} (h1 : m (Str.ofString "counts") = some (.ref C)) (h2 : m (Str.ofString "snapshots") = some (.ref S)) (h3 : m (Str.ofString "high") = some v) :
    m = fun y => if y = Str.ofString "counts" then some (.ref C) else if y = Str.ofString "snapshots" then some (.ref S) else if y = Str.ofString "high" then some v else m y := by
  funext y
  by_cases e1 : y = Str.ofString "counts"
  · rw [if_pos e1, e1, h1]
  · rw [if_neg e1]
    by_cases e2 : y = Str.ofString "snapshots"
    · rw [if_pos e2, e2, h2]
    · rw [if_neg e2]
      by_cases e3 : y = Str.ofString "high"
      · rw [if_pos e3, e3, h3]
      · rw [if_neg e3]
theorem fits_of {n i : Nat} (h : n ≤ (i + 1) / 2) (hi : i ≤ 69) : n ≤ sizeLine := by
  rw [sizeLine_eq]; omega
theorem asg1 {w : World} {h₀ : Heap} {L fa : Addr} {cd : Value} (KX : (Mine.hd.heap_39 w.params).In h₀) {hp : Heap} {tk : Nat} {s : Shared} {m : Str → Option Value} {news : List (Addr × Obj)} {T : Addr} {i x : Int} {t tx : Tok} {b : List Stmt}
    {Q : Flow → Shared → Prop} {E : Value → Shared → Prop} (hT : IsTup hp T #[.int i t, .int x tx]) (F' : Fr h₀ L hp m) (N' : News h₀ L hp news)
    (k : ∀ h' tk, Fr h₀ L h' (fun y => if y = Str.ofString "x" then some (.int x tx) else if y = Str.ofString "place" then some (.int i t) else m y) → News h₀ L h' news →
      wpAny (model Challenge.rw_dw0061_01.row.prog w) (callerA.deeper (lawEnv L fa cd)) (execs b (lawEnv L fa cd)) Q E { s with heap := h', toks := tk }) :
    wpAny (model Challenge.rw_dw0061_01.row.prog w) (callerA.deeper (lawEnv L fa cd)) (assign (targetOf loop1) (lawEnv L fa cd) (.ref T)) (fun _ s₂ => wpAny (model Challenge.rw_dw0061_01.row.prog w) (callerA.deeper (lawEnv L fa cd)) (execs b (lawEnv L fa cd)) Q E s₂) E { s with heap := hp, toks := tk } := by
  k_fill
  have hb : ∀ tg, tg = targetOf loop1 → ∀ sc, sc = lawScope → (∀ h' tk, Fr h₀ L h' (fun y => if y = Str.ofString "x" then some (.int x tx) else if y = Str.ofString "place" then some (.int i t) else m y) → News h₀ L h' news →
      wpAny (model Challenge.rw_dw0061_01.row.prog w) (callerA.deeper (envOfC (Str.ofString "law") sc L fa cd)) (execs b (envOfC (Str.ofString "law") sc L fa cd)) Q E { s with heap := h', toks := tk }) →
      wpAny (model Challenge.rw_dw0061_01.row.prog w) (callerA.deeper (envOfC (Str.ofString "law") sc L fa cd)) (assign tg (envOfC (Str.ofString "law") sc L fa cd) (.ref T)) (fun _ s₂ => wpAny (model Challenge.rw_dw0061_01.row.prog w) (callerA.deeper (envOfC (Str.ofString "law") sc L fa cd)) (execs b (envOfC (Str.ofString "law") sc L fa cd)) Q E s₂) E { s with heap := hp, toks := tk } := by
    intro tg e sc e2 k
    conv at e => rhs; whnf
    conv at e2 => rhs; whnf
    subst e e2
    k_steps
    exact k _ _ (by assumption) (by assumption)
  exact hb _ rfl _ rfl k
theorem loop1_rest {w : World} {h₀ : Heap} {L fa : Addr} {cd : Value} {p loose mean mg mb} (KX : (Mine.hd.heap_39 w.params).In h₀) (T : Top p loose mean mg mb h₀)
    {h : Nat} {th : Tok} {C c0 c1 S a0 a1 l I : Addr} {lo w1 w2 w3 : Obj} {s : Shared} {Q : Flow → Shared → Prop} {E : Value → Shared → Prop}
    (hh : 1 ≤ h ∧ h ≤ 4) (l1 : ltA (L + 1 + 1 + 1) a0 ∧ ltA a0 a1 ∧ ltA a1 S ∧ ltA S c0 ∧ ltA c0 c1 ∧ ltA c1 C ∧ ltA C l ∧ ltA l I) :
    ∀ (vs : List Value) (ns : List Int) (i : Nat) (m : Str → Option Value) (news : List (Addr × Obj)), IntsAre vs ns → i + vs.length ≤ 69 → Inv1 L h i th C c0 c1 S a0 a1 l I w1 w2 w3 lo m news →
      (∀ hp tk m' news', Inv1 L h (i + vs.length) th C c0 c1 S a0 a1 l I w1 w2 w3 lo m' news' → Fr h₀ L hp m' → News h₀ L hp news' → Q .next { s with heap := hp, toks := tk }) →
      ItemsRest Challenge.rw_dw0061_01.row.prog w (callerA.deeper (lawEnv L fa cd)) E h₀ (lawEnv L fa cd) (targetOf loop1) body1 Q s [(I + 1, "enumerate"), (I, "list_iterator")] [(l, lo)] (enumItems i vs) m news := by
  intro vs
  induction vs with
  | nil => intro ns i m news _ _ inv done hp tk F N; exact done hp tk m news inv F N
  | cons v vs ih =>
    intro ns i m news hI hlen inv done
    cases hI with
    | cons x tx hr =>
    rename_i ns'
    obtain ⟨vs0, vs1, n0, n1, ps0, ps1, k00, k01, k02, k10, k11, k12, t00, t01, t02, t10, t11, t12, tl, m1, m2, m3, rfl, off, St, C0, C1⟩ := inv
    rw [List.length_cons] at hlen
    show ItemsRest _ _ _ _ _ _ _ _ _ _ _ _ (Itm.pair (fun t => Value.int (i : Int) t) (Value.int x tx) :: enumItems (i + 1) vs) _ _
    refine ItemsRest.pair fun T' t' h' tk' hT' F' => ?_
    refine AllObj.cons fun o1 hc1 => AllObj.cons fun o2 hc2 => AllObj.nil fun N' => ?_
    have N1 : News h₀ L h' ((C, listOf #[.ref c0, .ref c1] 0) :: (c1, listOf #[.int k10 t10, .int k11 t11, .int k12 t12] 0) :: (c0, listOf #[.int k00 t00, .int k01 t01, .int k02 t02] 0) ::
      (S, listOf #[.ref a0, .ref a1] 0) :: (a1, listOf vs1.toArray n1) :: (a0, listOf vs0.toArray n0) :: (L + 1 + 1 + 1, w3) :: (L + 1 + 1, w2) :: (L + 1, w1) :: (I + 1, o1) :: (I, o2) :: (l, lo) :: tl) := by
      intro p hp
      refine N' p ?_
      simp only [List.mem_cons, List.cons_append, List.nil_append] at hp ⊢
      rcases hp with e | e | e | e | e | e | e | e | e | e | e | e | e <;> simp [e]
    rw [frame_eq m1 m2 m3] at F'
    refine asg1 KX hT' F' N1 fun h2 tk2 F2 N2 => ?_
    have z0 : vs0.toArray.size ≤ sizeLine := by
      rw [List.size_toArray, St.tr0.length]; exact fits_of St.l0 (by omega)
    have z1 : vs1.toArray.size ≤ sizeLine := by
      rw [List.size_toArray, St.tr1.length]; exact fits_of (i := i) (Nat.le_trans St.l1 (by omega)) (by omega)
    refine turn1 (s := { s with toks := tk2 }) KX T hh (by omega) z0 z1 l1 hc1 hc2 off St C0 C1 ?_ F2 N2
    intro hp tk m' vs0' vs1' n0' n1' ps0' ps1' k00' k01' k02' k10' k11' k12' t00' t01' t02' t10' t11' t12' tl' F3 q1 q2 q3 N3 off3 St3 C03 C13
    refine ⟨hp, tk, m', ((C, listOf #[.ref c0, .ref c1] 0) :: (c1, listOf #[.int k10' t10', .int k11' t11', .int k12' t12'] 0) :: (c0, listOf #[.int k00' t00', .int k01' t01', .int k02' t02'] 0) ::
      (S, listOf #[.ref a0, .ref a1] 0) :: (a1, listOf vs1'.toArray n1') :: (a0, listOf vs0'.toArray n0') :: (L + 1 + 1 + 1, w3) :: (L + 1 + 1, w2) :: (L + 1, w1) :: (l, lo) :: tl'), rfl, F3, ?_, ?_, ⟨by simp, trivial⟩, ?_⟩
    · intro p hp
      refine N3 p ?_
      simp only [List.mem_cons, List.cons_append, List.nil_append] at hp ⊢
      rcases hp with e | e | e | e | e | e | e | e | e | e | e | e | e <;> simp [e]
    · obtain ⟨g1, g2, g3, g4, g5, g6, g7, g8⟩ := l1
      dsimp only [ltA] at g1 g2 g3 g4 g5 g6 g7 g8
      have key : ∀ p ∈ ((C, listOf #[.ref c0, .ref c1] 0) :: (c1, listOf #[.int k10' t10', .int k11' t11', .int k12' t12'] 0) :: (c0, listOf #[.int k00' t00', .int k01' t01', .int k02' t02'] 0) ::
        (S, listOf #[.ref a0, .ref a1] 0) :: (a1, listOf vs1'.toArray n1') :: (a0, listOf vs0'.toArray n0') :: (L + 1 + 1 + 1, w3) :: (L + 1 + 1, w2) :: (L + 1, w1) :: (l, lo) :: tl'), p.1 ≠ I + 1 ∧ p.1 ≠ I := by
        intro p hp
        simp only [List.mem_cons] at hp
        rcases hp with e | e | e | e | e | e | e | e | e | e | e
        all_goals first
          | (subst e; exact ⟨neN (by dsimp only; omega), neN (by dsimp only; omega)⟩)
          | exact ⟨off3 p e _ (by simp [adr1]), off3 p e _ (by simp [adr1])⟩
      intro p hp q hq
      simp only [List.mem_cons, List.not_mem_nil, or_false] at hq
      rcases hq with rfl | rfl
      · exact (key p hp).1
      · exact (key p hp).2
    · refine ih ns' (i + 1) m' _ hr (by omega) ⟨vs0', vs1', n0', n1', ps0', ps1', k00', k01', k02', k10', k11', k12', t00', t01', t02', t10', t11', t12', tl', q1, q2, q3, rfl, off3, St3, C03, C13⟩ ?_
      intro hp tk m' news' inv F N
      exact done hp tk m' news' (by rw [List.length_cons, ← Nat.add_assoc, Nat.add_right_comm]; exact inv) F N
end Mine
end

/- part: Inner -/
section
open Lean Meta Elab Tactic PySem PySem.W PyProof.Rows
set_option Elab.async false
set_option maxRecDepth 100000
set_option maxHeartbeats 1000000
namespace Mine
def valueOf : Stmt → PySem.Expr
  | .Assign _ v _ => v
  | _ => .Name Str.empty ⟨0, 0, 0, 0⟩
def compElt : PySem.Expr → PySem.Expr
  | .ListComp e _ _ _ => e
  | e => e
def compScope : PySem.Expr → Scope
  | .ListComp _ _ sc _ => sc
  | _ => { kind := .function, names := [], isGenerator := false, isCoroutine := false, more := [] }
def compTest : PySem.Expr → PySem.Expr
  | .ListComp e [g] _ _ => g.ifs.getD 0 e
  | e => e
def callArg : PySem.Expr → PySem.Expr
  | .Call _ (a :: _) _ _ => a
  | e => e
def outerC : PySem.Expr := valueOf (stmtAt body3 1)
def innerC : PySem.Expr := callArg (compElt outerC)
def sc2 : Scope := compScope outerC
def sc3 : Scope := compScope innerC
def ct3 : PySem.Expr := compTest innerC
def elt3 : PySem.Expr := compElt innerC
abbrev oneCl (L : Addr) : List (Str × Addr) := [(Str.ofString "one", L + 1 + 1 + 1)]
abbrev env2 (L fa : Addr) (cd : Value) (Cc : Addr) : Env := compEnvC sc2 (oneCl L) Cc (lawEnv L fa cd)
abbrev env3 (L fa : Addr) (cd : Value) (Cc C : Addr) : Env := compEnvC sc3 (oneCl L) C (env2 L fa cd Cc)
abbrev oneDict (w : World) (incl : Bool) (d : Int) (td ta tb : Tok) : Obj := dictOf [{ hash := PyData.keyHash w.params (Str.ofString "inclusive"), key := Value.str (Str.ofString "inclusive") ta, val := Value.bool incl }, { hash := PyData.keyHash w.params (Str.ofString "_domain"), key := Value.str (Str.ofString "_domain") tb, val := Value.int d td }] 2
theorem turn_in {w : World} {h₀ : Heap} {L fa : Addr} {cd : Value} {mean : ExcName → Option Value} {mg mb : Str → Option Value} (KX : (Mine.hd.heap_39 w.params).In h₀) (T : Top hd.view_39 (looseW hd.view_39 [Str.ofString "DomainFilter"]) mean mg mb h₀)
    (K0 : Below callerA h₀ [] h₀)
    (GL : Glob 0 mg mb (List.map itemOf (recsOf hd.view_39)) (scalarsOf [] ++ constsW hd.view_39) [] (namesW hd.view_39 [Str.ofString "DomainFilter"]) h₀)
    {wa : Addr} {wo : Obj} (M : BMod h₀ mainGlobals mg wa wo)
    {m m₂ : Str → Option Value} {C Cc x dd a b : Addr} {oC o3 : Obj} {p1 sz : Int} {t1 t2 t3 td ta tb : Tok} {n : Nat} {d : Int} {incl : Bool}
    {rest : List (Addr × Obj)} {hp : Heap} {s : Shared} {Q1 Q2 : Value → Shared → Prop} {E : Value → Shared → Prop}
    (hC : LCg.NsObj oC m₂) (hx : m₂ (Str.ofString "trace") = some (.ref a)) (ho3 : o3.data = .cell (some (.ref x)))
    (F' : Fr h₀ L hp m)
    (N' : News h₀ L hp ((a, ({ cls := .type "tuple", data := .seq #[.int p1 t1, .int sz t2, .ref b, .int 1 t3] n } : Obj)) :: (C, oC) :: (x, instObj 83 dd) :: (dd, oneDict w incl d td ta tb)   :: (L + 1 + 1 + 1, o3) :: rest))
    (hQ1 : ((p1 == d) != !incl) = true → ∀ h' tk, Fr h₀ L h' m → News h₀ L h' ((a, ({ cls := .type "tuple", data := .seq #[.int p1 t1, .int sz t2, .ref b, .int 1 t3] n } : Obj)) :: (C, oC) :: (x, instObj 83 dd) :: (dd, oneDict w incl d td ta tb) :: (L + 1 + 1 + 1, o3) :: rest) → Q1 (.int sz t2) { s with heap := h', toks := tk })
    (hQ2 : ((p1 == d) != !incl) = false → ∀ h' tk, Fr h₀ L h' m → News h₀ L h' ((a, ({ cls := .type "tuple", data := .seq #[.int p1 t1, .int sz t2, .ref b, .int 1 t3] n } : Obj)) :: (C, oC) :: (x, instObj 83 dd) :: (dd, oneDict w incl d td ta tb) :: (L + 1 + 1 + 1, o3) :: rest) → Q2 .none { s with heap := h', toks := tk }) :
    wpAny (model Challenge.rw_dw0061_01.row.prog w) (callerA.deeper (lawEnv L fa cd)) (isTrue ct3 (env3 L fa cd Cc C) (eval ct3 (env3 L fa cd Cc C)))
      (fun ok s' => if ok = true then wpAny (model Challenge.rw_dw0061_01.row.prog w) (callerA.deeper (lawEnv L fa cd)) (eval elt3 (env3 L fa cd Cc C)) Q1 E s' else Q2 Value.none s') E { s with heap := hp } := by
  revert KX; k_fill; intro KX
  have hb : ∀ t3, t3 = ct3 → ∀ e3, e3 = elt3 → ∀ c3, c3 = sc3 → ∀ c2, c2 = sc2 → ∀ sc, sc = lawScope → 
    wpAny (model Challenge.rw_dw0061_01.row.prog w) (callerA.deeper (envOfC (Str.ofString "law") sc L fa cd)) (isTrue t3 (compEnvC c3 (oneCl L) C (compEnvC c2 (oneCl L) Cc (envOfC (Str.ofString "law") sc L fa cd))) (eval t3 (compEnvC c3 (oneCl L) C (compEnvC c2 (oneCl L) Cc (envOfC (Str.ofString "law") sc L fa cd)))))
      (fun ok s' => if ok = true then wpAny (model Challenge.rw_dw0061_01.row.prog w) (callerA.deeper (envOfC (Str.ofString "law") sc L fa cd)) (eval e3 (compEnvC c3 (oneCl L) C (compEnvC c2 (oneCl L) Cc (envOfC (Str.ofString "law") sc L fa cd)))) Q1 E s' else Q2 Value.none s') E { s with heap := hp } := by
    intro t3 e1 e3 e2 c3 e4 c2 e5 sc e6
    conv at e1 => rhs; whnf
    conv at e2 => rhs; whnf
    conv at e4 => rhs; whnf
    conv at e5 => rhs; whnf
    conv at e6 => rhs; whnf
    subst e1 e2 e4 e5 e6
    k_steps
    · exact hQ1 (by assumption) _ _ (by assumption) (by assumption)
    · exact hQ2 (by assumption) _ _ (by assumption) (by assumption)
  exact hb _ rfl _ rfl _ rfl _ rfl _ rfl
def selI (d : Int) (incl : Bool) (h : Nat) (ps : List (Int × Int)) : List Int := (ps.filter fun p => (p.1 == d) != !incl).map fun p => p.2 * 1024 ^ h
theorem selI_snoc (d : Int) (incl : Bool) (h : Nat) (ps : List (Int × Int)) (p : Int × Int) : selI d incl h (ps ++ [p]) = selI d incl h ps ++ if ((p.1 == d) != !incl) = true then [p.2 * 1024 ^ h] else [] := by
  unfold selI
  rw [List.filter_append, List.map_append]
  by_cases e : ((p.1 == d) != !incl) = true
  · rw [if_pos e]; simp only [List.filter_cons, e, if_true, List.filter_nil, List.map_cons, List.map_nil]
  · rw [if_neg e]; simp only [List.filter_cons, e, List.filter_nil, List.map_nil]; rfl
theorem inner_rest {w : World} {h₀ : Heap} {L fa : Addr} {cd : Value} {mean : ExcName → Option Value} {mg mb : Str → Option Value} (KX : (Mine.hd.heap_39 w.params).In h₀) (T : Top hd.view_39 (looseW hd.view_39 [Str.ofString "DomainFilter"]) mean mg mb h₀)
    (K0 : Below callerA h₀ [] h₀)
    (GL : Glob 0 mg mb (List.map itemOf (recsOf hd.view_39)) (scalarsOf [] ++ constsW hd.view_39) [] (namesW hd.view_39 [Str.ofString "DomainFilter"]) h₀)
    {wa : Addr} {wo : Obj} (M : BMod h₀ mainGlobals mg wa wo)
    {h : Nat} {m : Str → Option Value} {Cc x dd ax : Addr} {o3 : Obj} {td ta tb : Tok} {n : Nat} {d : Int} {incl : Bool} {vs : List Value} {ps : List (Int × Int)}
    {tl news : List (Addr × Obj)} {s : Shared} {Fin : List Value → List (Addr × Obj) → Prop}
    (ho3 : o3.data = .cell (some (.ref x))) (m3 : (L + 1 + 1 + 1, o3) ∈ news) (mx : (x, instObj 83 dd) ∈ news) (md : (dd, oneDict w incl d td ta tb) ∈ news) (ma : (ax, listOf vs.toArray n) ∈ news) (mt : ∀ q ∈ tl, q ∈ news)
    (tr : TrAll h tl vs ps) (fin : ∀ ys, IntsAre ys (selI d incl h ps) → Fin ys news) :
    ∀ (k i : Nat) (ys : List Value), i + k = vs.length → IntsAre ys (selI d incl h (ps.take i)) →
      LCt.CompRestT Challenge.rw_dw0061_01.row.prog w (callerA.deeper (lawEnv L fa cd)) h₀ L m (env2 L fa cd Cc) ct3 elt3 (Str.ofString "trace") sc3 (oneCl L) s (LCg.SrcAt h₀ ax vs.toArray) (fun i v => vs.toArray[i]? = some v) Fin k i ys news := by
  intro k
  induction k with
  | zero =>
    intro i ys e hy
    refine LCt.CompRestT.zero (fin ys ?_)
    have e2 : ps.take i = ps := List.take_of_length_le (by have := tr.length; omega)
    rw [e2] at hy
    exact hy
  | succ k ih =>
    intro i ys e hy
    refine LCt.CompRestT.succ ?_
    intro v I oI C oC D m₂ hp tk E' hv hC hx F N off ne
    obtain ⟨p, hp1, a, t1, t2, b, t3, n1, e1, hm⟩ := tr.get i v (by simpa using hv)
    subst e1
    have hs : ps.take (i + 1) = ps.take i ++ [p] := by
      rw [List.take_add_one, hp1]; rfl
    have sel := selI_snoc d incl h (ps.take i) p
    rw [← hs] at sel
    refine turn_in (p1 := p.1) (sz := p.2 * 1024 ^ h) (b := b) (dd := dd) (d := d) (incl := incl) (n := n1) (t1 := t1) (t2 := t2) (t3 := t3) (td := td) (ta := ta) (tb := tb) (s := { s with toks := tk }) (rest := (I, oI) :: (D, LCg.lst ys) :: news) KX T K0 GL M hC hx ho3 F ?_ ?_ ?_
    · intro q hq
      refine N q ?_
      simp only [List.mem_cons] at hq ⊢
      rcases hq with e | e | e | e | e | e | e | e
      · rw [e]; exact .inr (.inr (.inr (mt _ hm)))
      · exact .inr (.inl e)
      · rw [e]; exact .inr (.inr (.inr mx))
      · rw [e]; exact .inr (.inr (.inr md))
      · rw [e]; exact .inr (.inr (.inr m3))
      · exact .inl e
      · exact .inr (.inr (.inl e))
      · exact .inr (.inr (.inr e))
    · intro ec h' tk' F' N'
      refine LCg.CompEnd.intro F' N' news ?_ off (.inr ⟨_, ma, rfl, n, rfl⟩) (ih (i + 1) _ (by omega) ?_)
      · intro q hq
        simp only [List.mem_cons] at hq ⊢
        rcases hq with e | e | e | e <;> simp [e]
      · rw [sel, if_pos ec]
        exact intsAre_append hy (.cons _ _ .nil)
    · intro ec h' tk' F' N'
      refine LCg.CompEnd.intro F' N' news ?_ off (.inr ⟨_, ma, rfl, n, rfl⟩) (ih (i + 1) _ (by omega) ?_)
      · intro q hq
        simp only [List.mem_cons] at hq ⊢
        rcases hq with e | e | e | e <;> simp [e]
      · rw [sel, if_neg (by rw [ec]; decide), List.append_nil]
        exact hy
theorem inner {w : World} {h₀ : Heap} {L fa : Addr} {cd : Value} {mean : ExcName → Option Value} {mg mb : Str → Option Value} (KX : (Mine.hd.heap_39 w.params).In h₀) (T : Top hd.view_39 (looseW hd.view_39 [Str.ofString "DomainFilter"]) mean mg mb h₀)
    (K0 : Below callerA h₀ [] h₀)
    (GL : Glob 0 mg mb (List.map itemOf (recsOf hd.view_39)) (scalarsOf [] ++ constsW hd.view_39) [] (namesW hd.view_39 [Str.ofString "DomainFilter"]) h₀)
    {wa : Addr} {wo : Obj} (M : BMod h₀ mainGlobals mg wa wo)
    {h : Nat} {m m₂ : Str → Option Value} {Cc x dd ax : Addr} {oC o3 : Obj} {td ta tb : Tok} {n : Nat} {d : Int} {incl : Bool} {vs : List Value} {ps : List (Int × Int)}
    {tl news : List (Addr × Obj)} {s : Shared} {Q : Value → Shared → Prop} {E : Value → Shared → Prop}
    (hC : LCg.NsObj oC m₂) (hx : m₂ (Str.ofString "traces") = some (.ref ax)) (ho3 : o3.data = .cell (some (.ref x))) (F : Fr h₀ L s.heap m) (N : News h₀ L s.heap news)
    (mC : (Cc, oC) ∈ news) (m3 : (L + 1 + 1 + 1, o3) ∈ news) (mx : (x, instObj 83 dd) ∈ news) (md : (dd, oneDict w incl d td ta tb) ∈ news) (ma : (ax, listOf vs.toArray n) ∈ news) (mt : ∀ q ∈ tl, q ∈ news)
    (tr : TrAll h tl vs ps) (hz : vs.toArray.size ≤ sizeLine)
    (hQ : ∀ D h' tk ys, Fr h₀ L h' m → News h₀ L h' ((D, LCg.lst ys) :: news) → LCg.Off1 D news → IntsAre ys (selI d incl h ps) → Q (.ref D) { s with heap := h', toks := tk }) :
    wpAny (model Challenge.rw_dw0061_01.row.prog w) (callerA.deeper (lawEnv L fa cd)) (eval innerC (env2 L fa cd Cc)) Q E s := by
  refine LCt.ListComp_T (x := Str.ofString "trace") (scope := sc3) (cl := oneCl L) (ct := ct3) (elt := elt3) F (by with_unfolding_all rfl) (by decide) (by rfl) (by decide) (by rfl) ?_
  refine LCgL.ld_own N mC hC hx ?_
  refine LCt.CompSrcT.ledger rfl F N ma hz ?_
  intro g
  rw [List.size_toArray]
  exact inner_rest KX T K0 GL M ho3 m3 mx md ma mt tr (fun ys hy D h' tk F' N' o1 => hQ D h' tk ys F' N' o1 hy) _ 0 [] (Nat.zero_add _) .nil
end Mine
end

/- part: PartA -/
section
open Lean Meta Elab Tactic PySem PySem.W PyProof.Rows
set_option Elab.async false
set_option maxRecDepth 100000
set_option maxHeartbeats 1000000
namespace Mine
local macro_rules | `(tactic| walk_at "eval ListComp") => `(tactic| (k_here; lct_look; refine stop_here ?_))
local macro_rules | `(tactic| walk_at "CompEnd") => `(tactic| (refine stop_here ?_))
theorem compEnd1 {h₀ : Heap} {L I C D : Addr} {m : Str → Option Value} {s₁ : Shared} {oI oC oD : Obj} {S : List (Addr × Obj) → Prop} {rest : Value → List (Addr × Obj) → Prop} {y : Value} {h' : Heap} {tk : Nat} {e : Addr × Obj} {news : List (Addr × Obj)}
    (F : Fr h₀ L h' m) (N : News h₀ L h' (e :: (I, oI) :: (C, oC) :: (D, oD) :: news)) (off : LCg.Off3 I C D news) (hS : S news) (r : rest y news) :
    LCg.CompEnd h₀ L m s₁ I oI C oC D oD S rest y { s₁ with heap := h', toks := tk } :=
  LCg.CompEnd.intro F N news (fun _ hp => List.mem_cons_of_mem _ hp) off hS r
theorem partA {w : World} {h₀ : Heap} {L fa : Addr} {cd : Value} {mean : ExcName → Option Value} {mg mb : Str → Option Value} (KX : (Mine.hd.heap_39 w.params).In h₀) (T : Top hd.view_39 (looseW hd.view_39 [Str.ofString "DomainFilter"]) mean mg mb h₀)
    (K0 : Below callerA h₀ [] h₀)
    (GL : Glob 0 mg mb (List.map itemOf (recsOf hd.view_39)) (scalarsOf [] ++ constsW hd.view_39) [] (namesW hd.view_39 [Str.ofString "DomainFilter"]) h₀)
    {wa : Addr} {wo : Obj} (M : BMod h₀ mainGlobals mg wa wo)
    {h : Nat} {th : Tok} {u : Str → Option Value} {C c0 c1 S a0 a1 : Addr} {w1 w2 w3 : Obj} {vs0 vs1 : List Value} {n0 n1 : Nat}
    {k00 k01 k02 k10 k11 k12 : Int} {t00 t01 t02 t10 t11 t12 : Tok} {tl : List (Addr × Obj)} {hp : Heap} {s : Shared} {Q : Flow → Shared → Prop} {E : Value → Shared → Prop}
    {d : Int} {td : Tok} {incl : Bool} {v3 : Option Value} {ps0 ps1 : List (Int × Int)} {r : List Stmt}
    (hw1 : w1.data = .cell (some (.int d td))) (hw2 : w2.data = .cell (some (.bool incl))) (hw3 : w3.data = .cell v3)
    (hv0 : vs0.toArray.size ≤ sizeLine) (hv1 : vs1.toArray.size ≤ sizeLine)
    (l1 : ltA (L + 1 + 1 + 1) a0 ∧ ltA a0 a1 ∧ ltA a1 S ∧ ltA S c0 ∧ ltA c0 c1 ∧ ltA c1 C)
    (hoff : OwnOff tl [C, c1, c0, S, a1, a0, L + 1, L + 1 + 1, L + 1 + 1 + 1]) (tr0 : TrAll h tl vs0 ps0) (tr1 : TrAll h tl vs1 ps1)
    (F' : Fr h₀ L hp (fun y => if y = Str.ofString "counts" then some (.ref C) else if y = Str.ofString "snapshots" then some (.ref S) else if y = Str.ofString "high" then some (.int (h : Int) th) else u y))
    (N' : News h₀ L hp ((C, listOf #[.ref c0, .ref c1] 0) :: (c1, listOf #[.int k10 t10, .int k11 t11, .int k12 t12] 0) :: (c0, listOf #[.int k00 t00, .int k01 t01, .int k02 t02] 0) ::
      (S, listOf #[.ref a0, .ref a1] 0) :: (a1, listOf vs1.toArray n1) :: (a0, listOf vs0.toArray n0) :: (L + 1 + 1 + 1, w3) :: (L + 1 + 1, w2) :: (L + 1, w1) :: tl))
    (H : ∀ h' tk o3 v t t', Fr h₀ L h' (fun y => if y = Str.ofString "new" then some (.int (selI d incl h ps1).sum t') else if y = Str.ofString "old" then some (.int (selI d incl h ps0).sum t) else if y = Str.ofString "counts" then some (.ref C) else if y = Str.ofString "snapshots" then some (.ref S) else if y = Str.ofString "high" then some (.int (h : Int) th) else u y) →
      News h₀ L h' ((C, listOf #[.ref c0, .ref c1] 0) :: (c1, listOf #[.int k10 t10, .int k11 t11, .int k12 t12] 0) :: (c0, listOf #[.int k00 t00, .int k01 t01, .int k02 t02] 0) ::
        (S, listOf #[.ref a0, .ref a1] 0) :: (a1, listOf vs1.toArray n1) :: (a0, listOf vs0.toArray n0) :: (L + 1 + 1 + 1, o3) :: (L + 1 + 1, w2) :: (L + 1, w1) :: tl) → o3.data = .cell (some v) →
      wpAny (model Challenge.rw_dw0061_01.row.prog w) (callerA.deeper (lawEnv L fa cd)) (execs r (lawEnv L fa cd)) Q E { s with heap := h', toks := tk }) :
    wpAny (model Challenge.rw_dw0061_01.row.prog w) (callerA.deeper (lawEnv L fa cd)) (execs (stmtAt body3 0 :: stmtAt body3 1 :: r) (lawEnv L fa cd)) Q E { s with heap := hp } := by
  revert KX; k_fill; intro KX
  dsimp only [ltA] at l1
  have hb : ∀ b1, b1 = stmtAt body3 0 → ∀ b2, b2 = stmtAt body3 1 → ∀ sc, sc = lawScope → wpAny (model Challenge.rw_dw0061_01.row.prog w) (callerA.deeper (envOfC (Str.ofString "law") sc L fa cd)) (execs (b1 :: b2 :: r) (envOfC (Str.ofString "law") sc L fa cd)) Q E { s with heap := hp } := by
    intro b1 e1 b2 e2 sc e3
    conv at e1 => rhs; whnf
    conv at e2 => rhs; whnf
    conv at e3 => rhs; whnf
    subst e1 e2 e3
    k_steps
    unfold StopHere
    refine inner (tl := tl) KX T K0 GL M (by assumption) (by assumption) (by assumption) (by assumption) (by assumption) (by k_mem) (by k_mem) (by k_mem) (by k_mem) (by k_mem) (by intro q hq; repeat (first | exact hq | refine List.mem_cons_of_mem _ ?_)) tr0 hv0 ?_
    intro D1 h1 tk1 ys1 F' N' off1 hI1
    k_steps
    unfold StopHere
    refine compEnd1 (by assumption) (by assumption) (by assumption) (.inr ⟨_, (by k_mem), rfl, _, rfl⟩) ?_
    k_steps
    unfold StopHere
    refine inner (tl := tl) KX T K0 GL M (by assumption) (by assumption) (by assumption) (by assumption) (by assumption) (by k_mem) (by k_mem) (by k_mem) (by k_mem) (by k_mem) (by intro q hq; repeat (first | exact hq | refine List.mem_cons_of_mem _ ?_)) tr1 hv1 ?_
    intro D2 h2 tk2 ys2 F' N' off2 hI2
    k_steps
    unfold StopHere
    refine compEnd1 (by assumption) (by assumption) (by assumption) (.inr ⟨_, (by k_mem), rfl, _, rfl⟩) ?_
    k_steps
    (rename News _ _ _ _ => NE)
    (rename Fr _ _ _ _ => FE)
    exact H _ _ _ _ _ _ FE (fun p hp => NE p (.tail _ (.tail _ (.tail _ (.tail _ (.tail _ hp)))))) (by assumption)
  exact hb _ rfl _ rfl _ rfl
end Mine
end

/- part: PartB -/
section
open Lean Meta Elab Tactic PySem PySem.W PyProof.Rows
set_option Elab.async false
set_option maxRecDepth 100000
set_option maxHeartbeats 1000000
namespace Mine
local macro_rules | `(tactic| walk_at "CompEnd") => `(tactic| (refine stop_here ?_))
theorem compEnd0 {h₀ : Heap} {L I C D : Addr} {m : Str → Option Value} {s₁ : Shared} {oI oC oD : Obj} {S : List (Addr × Obj) → Prop} {rest : Value → List (Addr × Obj) → Prop} {y : Value} {h' : Heap} {tk : Nat} {news : List (Addr × Obj)}
    (F : Fr h₀ L h' m) (N : News h₀ L h' ((I, oI) :: (C, oC) :: (D, oD) :: news)) (off : LCg.Off3 I C D news) (hS : S news) (r : rest y news) :
    LCg.CompEnd h₀ L m s₁ I oI C oC D oD S rest y { s₁ with heap := h', toks := tk } :=
  LCg.CompEnd.intro F N news (fun _ hp => hp) off hS r
def pick (d : Int) (incl : Bool) (k0 k1 k2 : Int) : Int := bif incl then (if d = 0 then k0 else if d = 1 then k1 else k2) else k0 + k1 + k2 - (if d = 0 then k0 else if d = 1 then k1 else k2)
theorem fr_cast {h₀ h : Heap} {L : Addr} {m : Str → Option Value} {x y : Str} {v0 v1 p0 p1 : Int} {t t' : Tok} (F : Fr h₀ L h (fun z => if z = x then some (.int v1 t') else if z = y then some (.int v0 t) else m z)) (e1 : v1 = p1) (e0 : v0 = p0) :
    Fr h₀ L h (fun z => if z = x then some (.int p1 t') else if z = y then some (.int p0 t) else m z) := by
  subst e1 e0; exact F
theorem partB {w : World} {h₀ : Heap} {L fa : Addr} {cd : Value} {mean : ExcName → Option Value} {mg mb : Str → Option Value} (KX : (Mine.hd.heap_39 w.params).In h₀) (T : Top hd.view_39 (looseW hd.view_39 [Str.ofString "DomainFilter"]) mean mg mb h₀)
    (K0 : Below callerA h₀ [] h₀)
    (GL : Glob 0 mg mb (List.map itemOf (recsOf hd.view_39)) (scalarsOf [] ++ constsW hd.view_39) [] (namesW hd.view_39 [Str.ofString "DomainFilter"]) h₀)
    {wa : Addr} {wo : Obj} (M : BMod h₀ mainGlobals mg wa wo)
    {u : Str → Option Value} {C c0 c1 : Addr} {w1 w2 : Obj}
    {k00 k01 k02 k10 k11 k12 : Int} {t00 t01 t02 t10 t11 t12 : Tok} {tl : List (Addr × Obj)} {hp : Heap} {s : Shared} {Q : Flow → Shared → Prop} {E : Value → Shared → Prop}
    {d : Int} {td : Tok} {incl : Bool} {r : List Stmt} (hd3 : d = 0 ∨ d = 1 ∨ d = 2)
    (hw1 : w1.data = .cell (some (.int d td))) (hw2 : w2.data = .cell (some (.bool incl)))
    (hk0 : 0 ≤ k00 ∧ 0 ≤ k01 ∧ 0 ≤ k02 ∧ k00 + k01 + k02 ≤ 5600) (hk1 : 0 ≤ k10 ∧ 0 ≤ k11 ∧ 0 ≤ k12 ∧ k10 + k11 + k12 ≤ 5600)
    (F' : Fr h₀ L hp (fun y => if y = Str.ofString "counts" then some (.ref C) else u y))
    (N' : News h₀ L hp ((C, listOf #[.ref c0, .ref c1] 0) :: (c1, listOf #[.int k10 t10, .int k11 t11, .int k12 t12] 0) :: (c0, listOf #[.int k00 t00, .int k01 t01, .int k02 t02] 0) :: (L + 1 + 1, w2) :: (L + 1, w1) :: tl))
    (H : ∀ h' tk t t', Fr h₀ L h' (fun y => if y = Str.ofString "now" then some (.int (pick d incl k10 k11 k12) t') else if y = Str.ofString "was" then some (.int (pick d incl k00 k01 k02) t) else if y = Str.ofString "counts" then some (.ref C) else u y) →
      News h₀ L h' ((C, listOf #[.ref c0, .ref c1] 0) :: (c1, listOf #[.int k10 t10, .int k11 t11, .int k12 t12] 0) :: (c0, listOf #[.int k00 t00, .int k01 t01, .int k02 t02] 0) :: (L + 1 + 1, w2) :: (L + 1, w1) :: tl) →
      wpAny (model Challenge.rw_dw0061_01.row.prog w) (callerA.deeper (lawEnv L fa cd)) (execs r (lawEnv L fa cd)) Q E { s with heap := h', toks := tk }) :
    wpAny (model Challenge.rw_dw0061_01.row.prog w) (callerA.deeper (lawEnv L fa cd)) (execs (stmtAt body3 2 :: r) (lawEnv L fa cd)) Q E { s with heap := hp } := by
  revert KX; k_fill; intro KX
  have hb : ∀ b1, b1 = stmtAt body3 2 → ∀ sc, sc = lawScope → wpAny (model Challenge.rw_dw0061_01.row.prog w) (callerA.deeper (envOfC (Str.ofString "law") sc L fa cd)) (execs (b1 :: r) (envOfC (Str.ofString "law") sc L fa cd)) Q E { s with heap := hp } := by
    intro b1 e1 sc e3
    conv at e1 => rhs; whnf
    conv at e3 => rhs; whnf
    subst e1 e3
    rcases hd3 with rfl | rfl | rfl
    · cases incl
      · k_steps
        unfold StopHere
        refine compEnd0 (by assumption) (by assumption) (by assumption) (.inr ⟨_, (by k_mem), rfl, _, rfl⟩) ?_
        k_steps
        unfold StopHere
        refine compEnd0 (by assumption) (by assumption) (by assumption) (.inr ⟨_, (by k_mem), rfl, _, rfl⟩) ?_
        k_steps
        (rename News _ _ _ _ => NE)
        (rename Fr _ _ _ _ => FE)
        exact H _ _ _ _ (fr_cast FE (by first | rfl | (simp [pick]; done) | (simp [pick]; omega)) (by first | rfl | (simp [pick]; done) | (simp [pick]; omega))) (fun p hp => NE p (.tail _ hp))
      · k_steps
        unfold StopHere
        refine compEnd0 (by assumption) (by assumption) (by assumption) (.inr ⟨_, (by k_mem), rfl, _, rfl⟩) ?_
        k_steps
        unfold StopHere
        refine compEnd0 (by assumption) (by assumption) (by assumption) (.inr ⟨_, (by k_mem), rfl, _, rfl⟩) ?_
        k_steps
        (rename News _ _ _ _ => NE)
        (rename Fr _ _ _ _ => FE)
        exact H _ _ _ _ (fr_cast FE (by first | rfl | (simp [pick]; done) | (simp [pick]; omega)) (by first | rfl | (simp [pick]; done) | (simp [pick]; omega))) (fun p hp => NE p (.tail _ hp))
    · cases incl
      · k_steps
        unfold StopHere
        refine compEnd0 (by assumption) (by assumption) (by assumption) (.inr ⟨_, (by k_mem), rfl, _, rfl⟩) ?_
        k_steps
        unfold StopHere
        refine compEnd0 (by assumption) (by assumption) (by assumption) (.inr ⟨_, (by k_mem), rfl, _, rfl⟩) ?_
        k_steps
        (rename News _ _ _ _ => NE)
        (rename Fr _ _ _ _ => FE)
        exact H _ _ _ _ (fr_cast FE (by first | rfl | (simp [pick]; done) | (simp [pick]; omega)) (by first | rfl | (simp [pick]; done) | (simp [pick]; omega))) (fun p hp => NE p (.tail _ hp))
      · k_steps
        unfold StopHere
        refine compEnd0 (by assumption) (by assumption) (by assumption) (.inr ⟨_, (by k_mem), rfl, _, rfl⟩) ?_
        k_steps
        unfold StopHere
        refine compEnd0 (by assumption) (by assumption) (by assumption) (.inr ⟨_, (by k_mem), rfl, _, rfl⟩) ?_
        k_steps
        (rename News _ _ _ _ => NE)
        (rename Fr _ _ _ _ => FE)
        exact H _ _ _ _ (fr_cast FE (by first | rfl | (simp [pick]; done) | (simp [pick]; omega)) (by first | rfl | (simp [pick]; done) | (simp [pick]; omega))) (fun p hp => NE p (.tail _ hp))
    · cases incl
      · k_steps
        unfold StopHere
        refine compEnd0 (by assumption) (by assumption) (by assumption) (.inr ⟨_, (by k_mem), rfl, _, rfl⟩) ?_
        k_steps
        unfold StopHere
        refine compEnd0 (by assumption) (by assumption) (by assumption) (.inr ⟨_, (by k_mem), rfl, _, rfl⟩) ?_
        k_steps
        (rename News _ _ _ _ => NE)
        (rename Fr _ _ _ _ => FE)
        exact H _ _ _ _ (fr_cast FE (by first | rfl | (simp [pick]; done) | (simp [pick]; omega)) (by first | rfl | (simp [pick]; done) | (simp [pick]; omega))) (fun p hp => NE p (.tail _ hp))
      · k_steps
        unfold StopHere
        refine compEnd0 (by assumption) (by assumption) (by assumption) (.inr ⟨_, (by k_mem), rfl, _, rfl⟩) ?_
        k_steps
        unfold StopHere
        refine compEnd0 (by assumption) (by assumption) (by assumption) (.inr ⟨_, (by k_mem), rfl, _, rfl⟩) ?_
        k_steps
        (rename News _ _ _ _ => NE)
        (rename Fr _ _ _ _ => FE)
        exact H _ _ _ _ (fr_cast FE (by first | rfl | (simp [pick]; done) | (simp [pick]; omega)) (by first | rfl | (simp [pick]; done) | (simp [pick]; omega))) (fun p hp => NE p (.tail _ hp))
  exact hb _ rfl _ rfl
end Mine
end

/- part: PartC -/
section
open Lean Meta Elab Tactic PySem PySem.W PyProof.Rows
set_option Elab.async false
set_option maxRecDepth 100000
set_option maxHeartbeats 1000000
namespace Mine
theorem fmt_call {w : World} {h₀ : Heap} {L fa : Addr} {cd : Value} {mean : ExcName → Option Value} {mg mb : Str → Option Value} {p : Program} {loose : List Str} (KX : (Mine.hd.heap_39 w.params).In h₀) (T : Top p loose mean mg mb h₀)
    (K0 : Below callerA h₀ [] h₀) {h : Nat} (hh : 1 ≤ h ∧ h ≤ 4) {c n : Int} (hn : n = c * 1024 ^ h) (hc : -5600 ≤ c ∧ c ≤ 5600) {t : Tok} {sign : Bool} {x : Str} (hx : fmtT c h sign = x)
    {m : Str → Option Value} {news : List (Addr × Obj)} {s : Shared} {Q E : Value → Shared → Prop} (F : Fr h₀ L s.heap m) (N : News h₀ L s.heap news)
    (k : ∀ t h' tk', Fr h₀ L h' m → News h₀ L h' news → Q (.str x t) { s with heap := h', toks := tk' }) :
    wpAny (model Challenge.rw_dw0061_01.row.prog w) (callerA.deeper (lawEnv L fa cd)) (call (.ref 21) [.int n t, .bool sign]) Q E s := by
  subst hx
  refine fmt_any h hh c n hn hc t sign _ _ _ _ _ _ _ _ _ _ _ _ _ _ _ _ _ K0 F KX T rfl ?_ ?_ ?_
  · decide
  · decide
  · intro t h' tk' F' keep
    exact k t h' tk' F' (N.grown keep)
theorem law_call {w : World} {h₀ : Heap} {L fa : Addr} {cd : Value} {mean : ExcName → Option Value} {mg mb : Str → Option Value} {p : Program} {loose : List Str} (KX : (Mine.hd.heap_39 w.params).In h₀) (T : Top p loose mean mg mb h₀)
    (K0 : Below callerA h₀ [] h₀) {h : Nat} (hh : 1 ≤ h ∧ h ≤ 4) {c : Int} (hc : 0 ≤ c ∧ c ≤ 5600) {t t2 : Tok}
    {m : Str → Option Value} {news : List (Addr × Obj)} {s : Shared} {Q E : Value → Shared → Prop} (F : Fr h₀ L s.heap m) (N : News h₀ L s.heap news)
    (k : ∀ t h' tk', Fr h₀ L h' m → News h₀ L h' news → Q (.str (lawT c h) t) { s with heap := h', toks := tk' }) :
    wpAny (model Challenge.rw_dw0061_01.row.prog w) (callerA.deeper (lawEnv L fa cd)) (call (.ref 92) [.int c t, .int (h : Int) t2]) Q E s := by
  refine law_any h hh c hc t t2 _ _ _ _ _ _ _ _ _ _ _ _ _ _ _ _ _ K0 F KX T rfl ?_ ?_ ?_
  · decide
  · decide
  · intro t h' tk' F' keep
    exact k t h' tk' F' (N.grown keep)
theorem unit_len {i : Nat} (h : i ≤ 4) : (unitT i).length ≤ 3 := by
  have : i = 0 ∨ i = 1 ∨ i = 2 ∨ i = 3 ∨ i = 4 := by omega
  rcases this with rfl | rfl | rfl | rfl | rfl <;> decide
theorem int_len {a : Int} (h : a.natAbs < 10 ^ 10) : (Str.ofString (toString a)).length ≤ 11 := by
  rw [PySem.ofString_length]
  exact int_text_length_le10 (k := 10) (by decide) h
theorem lawT_len {c : Int} {h : Nat} (hc : 0 ≤ c ∧ c ≤ 5600) (hh : 1 ≤ h ∧ h ≤ 4) : (lawT c h).length ≤ 20 := by
  have u1 : (unitT (h - 1)).length ≤ 3 := unit_len (by omega)
  have u2 : (unitT h).length ≤ 3 := unit_len (by omega)
  have i1 : (Str.ofString (toString (1024 * c))).length ≤ 11 := int_len (by omega)
  have i2 : (Str.ofString (toString c)).length ≤ 11 := int_len (by omega)
  have e1 : (Str.ofString " ").length = 1 := by decide
  have e2 : (Str.ofString ".0 ").length = 3 := by decide
  have e3 : (Str.ofString "0 B").length = 3 := by decide
  unfold lawT
  split
  · omega
  · split
    · rw [Str.length_append, Str.length_append]; omega
    · rw [Str.length_append, Str.length_append]
      split <;> omega
theorem add_law {prog : Program} {w : World} {A : Around} {E : Value → Shared → Prop} {s : Shared} {Q : Value → Shared → Prop} {c : Int} {h : Nat} {x : Str} {t t2 : Tok} (hx : x.length ≤ 1) (hc : 0 ≤ c ∧ c ≤ 5600) (hh : 1 ≤ h ∧ h ≤ 4)
    (k : ∀ t' tk, Q (.str (x ++ lawT c h) t') { s with toks := tk }) : wpAny (model prog w) A (binaryOp .Add (.str x t) (.str (lawT c h) t2)) Q E s := by
  refine PyProof.Rows.add_str k ?_
  have := lawT_len hc hh
  rw [sizeLine_eq]; omega
theorem abs_eq (a : Int) : ((a.natAbs : Nat) : Int) = if a < 0 then -a else a := by
  split <;> omega
local macro_rules | `(tactic| walk_at "binaryOp Add str str") => `(tactic| (k_here; (refine add_law (by decide) (by omega) (by omega) ?_); intro _ _))
local macro_rules | `(tactic| walk_at "call ref") => `(tactic| (k_here; (with_reducible show wpAny _ _ (call (Value.ref _) [_, _]) _ _ _); refine stop_here ?_))
theorem partC {w : World} {h₀ : Heap} {L fa : Addr} {cd : Value} {mean : ExcName → Option Value} {mg mb : Str → Option Value} (KX : (Mine.hd.heap_39 w.params).In h₀) (T : Top hd.view_39 (looseW hd.view_39 [Str.ofString "DomainFilter"]) mean mg mb h₀)
    (K0 : Below callerA h₀ [] h₀)
    (GL : Glob 0 mg mb (List.map itemOf (recsOf hd.view_39)) (scalarsOf [] ++ constsW hd.view_39) [] (namesW hd.view_39 [Str.ofString "DomainFilter"]) h₀)
    {wa : Addr} {wo : Obj} (M : BMod h₀ mainGlobals mg wa wo)
    {h : Nat} {th tn to tw tm : Tok} {u : Str → Option Value} {now was new old : Int} {tl : List (Addr × Obj)} {hp : Heap} {s : Shared} {Q : Flow → Shared → Prop} {E : Value → Shared → Prop}
    (hh : 1 ≤ h ∧ h ≤ 4) (hnow : 0 ≤ now ∧ now ≤ 5600) (hwas : 0 ≤ was ∧ was ≤ 5600) (hnew : new = now * 1024 ^ h) (hold : old = was * 1024 ^ h)
    (F' : Fr h₀ L hp (fun y => if y = Str.ofString "now" then some (.int now tn) else if y = Str.ofString "was" then some (.int was tw) else if y = Str.ofString "new" then some (.int new tm) else if y = Str.ofString "old" then some (.int old to) else if y = Str.ofString "high" then some (.int (h : Int) th) else u y))
    (N' : News h₀ L hp tl)
    (H : ∀ h' tk t m, Fr h₀ L h' (fun y => if y = Str.ofString "mark" then some (.str m t) else if y = Str.ofString "now" then some (.int now tn) else if y = Str.ofString "was" then some (.int was tw) else if y = Str.ofString "new" then some (.int new tm) else if y = Str.ofString "old" then some (.int old to) else if y = Str.ofString "high" then some (.int (h : Int) th) else u y) →
      News h₀ L h' tl → Q .next { s with heap := h', toks := tk }) :
    wpAny (model Challenge.rw_dw0061_01.row.prog w) (callerA.deeper (lawEnv L fa cd)) (execs [stmtAt body3 3, stmtAt body3 4, stmtAt body3 5] (lawEnv L fa cd)) Q E { s with heap := hp } := by
  revert KX; k_fill; intro KX
  have hb : ∀ b1, b1 = stmtAt body3 3 → ∀ b2, b2 = stmtAt body3 4 → ∀ b3, b3 = stmtAt body3 5 → ∀ sc, sc = lawScope → wpAny (model Challenge.rw_dw0061_01.row.prog w) (callerA.deeper (envOfC (Str.ofString "law") sc L fa cd)) (execs [b1, b2, b3] (envOfC (Str.ofString "law") sc L fa cd)) Q E { s with heap := hp } := by
    intro b1 e1 b2 e2 b3 e4 sc e3
    conv at e1 => rhs; whnf
    conv at e2 => rhs; whnf
    conv at e4 => rhs; whnf
    conv at e3 => rhs; whnf
    subst e1 e2 e3 e4
    k_steps
    unfold StopHere
    refine fmt_call (c := now) KX T K0 hh hnew (by omega) (fmt_law h hnow.1) (by assumption) (by assumption) ?_
    intro t1 h1 tk1 F' N'
    k_steps
    unfold StopHere
    refine law_call KX T K0 hh hnow (by assumption) (by assumption) ?_
    intro t2 h2 tk2 F' N'
    k_steps
    · exact absurd (by assumption : (lawT now h != lawT now h) = true) (by simp)
    · unfold StopHere
      have hlt : now < was := by omega
      refine fmt_call (c := now - was) (x := Str.ofString "-" ++ lawT (if now - was < 0 then -(now - was) else now - was) h) KX T K0 hh (by rw [hnew, hold, Int.sub_mul]) (by omega) (by rw [fmt_mark, markT, if_pos hlt, abs_eq]) (by assumption) (by assumption) ?_
      intro t3 h3 tk3 F' N'
      k_steps
      unfold StopHere
      refine law_call KX T K0 hh (by omega) (by assumption) (by assumption) ?_
      intro t4 h4 tk4 F' N'
      k_steps
      · exact absurd (by assumption : (Str.ofString "-" ++ lawT (if now - was < 0 then -(now - was) else now - was) h != Str.ofString "-" ++ lawT (if now - was < 0 then -(now - was) else now - was) h) = true) (by simp)
      · exact H _ _ _ _ (by assumption) (by assumption)
    · unfold StopHere
      have hlt : ¬ now < was := by omega
      refine fmt_call (c := now - was) (x := Str.ofString "+" ++ lawT (if now - was < 0 then -(now - was) else now - was) h) KX T K0 hh (by rw [hnew, hold, Int.sub_mul]) (by omega) (by rw [fmt_mark, markT, if_neg hlt, abs_eq]) (by assumption) (by assumption) ?_
      intro t3 h3 tk3 F' N'
      k_steps
      unfold StopHere
      refine law_call KX T K0 hh (by omega) (by assumption) (by assumption) ?_
      intro t4 h4 tk4 F' N'
      k_steps
      · exact absurd (by assumption : (Str.ofString "+" ++ lawT (if now - was < 0 then -(now - was) else now - was) h != Str.ofString "+" ++ lawT (if now - was < 0 then -(now - was) else now - was) h) = true) (by simp)
      · exact H _ _ _ _ (by assumption) (by assumption)
  exact hb _ rfl _ rfl _ rfl _ rfl
end Mine
end

/- part: Body3 -/
section
open Lean Meta Elab Tactic PySem PySem.W PyProof.Rows
set_option Elab.async false
set_option maxRecDepth 100000
set_option maxHeartbeats 1000000
namespace Mine
theorem selI_sum {d : Int} (hd3 : d = 0 ∨ d = 1 ∨ d = 2) (incl : Bool) (h : Nat) : ∀ {ps : List (Int × Int)}, (∀ p ∈ ps, Good1 p) → (selI d incl h ps).sum = pick d incl (cnt ps 0) (cnt ps 1) (cnt ps 2) * 1024 ^ h
  | [], _ => by
    have e : pick d incl (cnt [] 0) (cnt [] 1) (cnt [] 2) = 0 := by
      rcases hd3 with rfl | rfl | rfl <;> cases incl <;> rfl
    rw [e, Int.zero_mul]; rfl
  | p :: ps, hg => by
    have ih := selI_sum hd3 incl h (ps := ps) fun q hq => hg q (List.mem_cons_of_mem _ hq)
    obtain ⟨hp, _, _⟩ := hg p List.mem_cons_self
    have e : ∀ k, cnt (p :: ps) k = (if p.1 = k then p.2 else 0) + cnt ps k := fun k => by simp [cnt]
    have e1 : (selI d incl h (p :: ps)).sum = (if ((p.1 == d) != !incl) = true then p.2 else 0) * 1024 ^ h + (selI d incl h ps).sum := by
      unfold selI
      by_cases c : ((p.1 == d) != !incl) = true
      · rw [if_pos c, List.filter_cons_of_pos (p := fun p : Int × Int => (p.1 == d) != !incl) c, List.map_cons, List.sum_cons]
      · rw [if_neg c, List.filter_cons_of_neg (p := fun p : Int × Int => (p.1 == d) != !incl) c, Int.zero_mul, Int.zero_add]
    have e2 : pick d incl (cnt (p :: ps) 0) (cnt (p :: ps) 1) (cnt (p :: ps) 2) = (if ((p.1 == d) != !incl) = true then p.2 else 0) + pick d incl (cnt ps 0) (cnt ps 1) (cnt ps 2) := by
      rw [e, e, e]
      obtain ⟨p1, p2⟩ := p
      dsimp only at hp
      rcases hp with rfl | rfl | rfl <;> rcases hd3 with rfl | rfl | rfl <;> cases incl <;> simp [pick] <;> omega
    rw [e1, e2, ih, Int.add_mul]
theorem pick_bound {d : Int} (hd3 : d = 0 ∨ d = 1 ∨ d = 2) (incl : Bool) {k0 k1 k2 : Int} (h : 0 ≤ k0 ∧ 0 ≤ k1 ∧ 0 ≤ k2 ∧ k0 + k1 + k2 ≤ 5600) : 0 ≤ pick d incl k0 k1 k2 ∧ pick d incl k0 k1 k2 ≤ 5600 := by
  rcases hd3 with rfl | rfl | rfl <;> cases incl <;> simp [pick] <;> omega
theorem fr_as {h₀ h : Heap} {L : Addr} {m : Str → Option Value} (x : Str) {v : Value} (F : Fr h₀ L h m) (hx : m x = some v) : Fr h₀ L h (fun y => if y = x then some v else m y) := by
  have e : m = fun y => if y = x then some v else m y := by
    funext y
    by_cases e1 : y = x
    · rw [if_pos e1, e1, hx]
    · rw [if_neg e1]
  rw [e] at F
  exact F
theorem cn_bound {ps : List (Int × Int)} {k0 k1 k2 : Int} (c : Cn ps k0 k1 k2) (hg : ∀ p ∈ ps, Good1 p) (hl : ps.length ≤ 35) : 0 ≤ k0 ∧ 0 ≤ k1 ∧ 0 ≤ k2 ∧ k0 + k1 + k2 ≤ 5600 := by
  obtain ⟨rfl, rfl, rfl⟩ := c
  have := cnt_bound hg
  omega
theorem body3_ok {w : World} {h₀ : Heap} {L fa : Addr} {cd : Value} {mean : ExcName → Option Value} {mg mb : Str → Option Value} (KX : (Mine.hd.heap_39 w.params).In h₀) (T : Top hd.view_39 (looseW hd.view_39 [Str.ofString "DomainFilter"]) mean mg mb h₀)
    (K0 : Below callerA h₀ [] h₀)
    (GL : Glob 0 mg mb (List.map itemOf (recsOf hd.view_39)) (scalarsOf [] ++ constsW hd.view_39) [] (namesW hd.view_39 [Str.ofString "DomainFilter"]) h₀)
    {wa : Addr} {wo : Obj} (M : BMod h₀ mainGlobals mg wa wo)
    {h i : Nat} {th : Tok} {m : Str → Option Value} {C c0 c1 S a0 a1 : Addr} {w1 w2 w3 : Obj} {vs0 vs1 : List Value} {n0 n1 : Nat}
    {k00 k01 k02 k10 k11 k12 : Int} {t00 t01 t02 t10 t11 t12 : Tok} {tl : List (Addr × Obj)} {hp : Heap} {s : Shared} {Q : Flow → Shared → Prop} {E : Value → Shared → Prop}
    {d : Int} {td : Tok} {incl : Bool} {v3 : Option Value} {ps0 ps1 : List (Int × Int)} (hd3 : d = 0 ∨ d = 1 ∨ d = 2) (hh : 1 ≤ h ∧ h ≤ 4) (hi : i ≤ 69)
    (hw1 : w1.data = .cell (some (.int d td))) (hw2 : w2.data = .cell (some (.bool incl))) (hw3 : w3.data = .cell v3)
    (l1 : ltA (L + 1 + 1 + 1) a0 ∧ ltA a0 a1 ∧ ltA a1 S ∧ ltA S c0 ∧ ltA c0 c1 ∧ ltA c1 C)
    (hoff : OwnOff tl [C, c1, c0, S, a1, a0, L + 1, L + 1 + 1, L + 1 + 1 + 1]) (St : St1 h i tl vs0 vs1 ps0 ps1) (C0 : Cn ps0 k00 k01 k02) (C1 : Cn ps1 k10 k11 k12)
    (F' : Fr h₀ L hp m) (m1 : m (Str.ofString "counts") = some (.ref C)) (m2 : m (Str.ofString "snapshots") = some (.ref S)) (m3 : m (Str.ofString "high") = some (.int (h : Int) th))
    (N' : News h₀ L hp ((C, listOf #[.ref c0, .ref c1] 0) :: (c1, listOf #[.int k10 t10, .int k11 t11, .int k12 t12] 0) :: (c0, listOf #[.int k00 t00, .int k01 t01, .int k02 t02] 0) ::
      (S, listOf #[.ref a0, .ref a1] 0) :: (a1, listOf vs1.toArray n1) :: (a0, listOf vs0.toArray n0) :: (L + 1 + 1 + 1, w3) :: (L + 1 + 1, w2) :: (L + 1, w1) :: tl))
    (H : ∀ h' tk m' o3 v, Fr h₀ L h' m' → m' (Str.ofString "counts") = some (.ref C) → m' (Str.ofString "snapshots") = some (.ref S) → m' (Str.ofString "high") = some (.int (h : Int) th) →
      News h₀ L h' ((C, listOf #[.ref c0, .ref c1] 0) :: (c1, listOf #[.int k10 t10, .int k11 t11, .int k12 t12] 0) :: (c0, listOf #[.int k00 t00, .int k01 t01, .int k02 t02] 0) ::
        (S, listOf #[.ref a0, .ref a1] 0) :: (a1, listOf vs1.toArray n1) :: (a0, listOf vs0.toArray n0) :: (L + 1 + 1 + 1, o3) :: (L + 1 + 1, w2) :: (L + 1, w1) :: tl) → o3.data = .cell (some v) →
      Q .next { s with heap := h', toks := tk }) :
    wpAny (model Challenge.rw_dw0061_01.row.prog w) (callerA.deeper (lawEnv L fa cd)) (execs body3 (lawEnv L fa cd)) Q E { s with heap := hp } := by
  have eb : body3 = [stmtAt body3 0, stmtAt body3 1, stmtAt body3 2, stmtAt body3 3, stmtAt body3 4, stmtAt body3 5] := rfl
  rw [eb]
  have z0 : vs0.toArray.size ≤ sizeLine := by
    rw [List.size_toArray, St.tr0.length]; exact fits_of St.l0 hi
  have z1 : vs1.toArray.size ≤ sizeLine := by
    rw [List.size_toArray, St.tr1.length]; exact fits_of (i := i) (Nat.le_trans St.l1 (by omega)) hi
  have b0 := cn_bound C0 St.g0 (by have := St.l0; omega)
  have b1 := cn_bound C1 St.g1 (by have := St.l1; omega)
  have e0 : (selI d incl h ps0).sum = pick d incl k00 k01 k02 * 1024 ^ h := by rw [C0.1, C0.2.1, C0.2.2]; exact selI_sum hd3 incl h St.g0
  have e1 : (selI d incl h ps1).sum = pick d incl k10 k11 k12 * 1024 ^ h := by rw [C1.1, C1.2.1, C1.2.2]; exact selI_sum hd3 incl h St.g1
  refine partA KX T K0 GL M hw1 hw2 hw3 z0 z1 l1 hoff St.tr0 St.tr1 (fr_as _ (fr_as _ (fr_as _ F' m3) (by exact m2)) (by exact m1)) N' ?_
  intro hA tkA o3 v tA tA' FA NA ho3
  refine partB (c0 := c0) (c1 := c1) (t00 := t00) (t01 := t01) (t02 := t02) (t10 := t10) (t11 := t11) (t12 := t12) (s := { s with toks := tkA }) (tl := (S, listOf #[.ref a0, .ref a1] 0) :: (a1, listOf vs1.toArray n1) :: (a0, listOf vs0.toArray n0) :: (L + 1 + 1 + 1, o3) :: tl) KX T K0 GL M hd3 hw1 hw2 b0 b1 (fr_as (Str.ofString "counts") FA rfl) ?_ ?_
  · intro p hp
    refine NA p ?_
    simp only [List.mem_cons] at hp ⊢
    rcases hp with e | e | e | e | e | e | e | e | e | e <;> simp [e]
  intro hB tkB tB tB' FB NB
  refine partC (s := { s with toks := tkB }) KX T K0 GL M hh (pick_bound hd3 incl b1) (pick_bound hd3 incl b0) e1 e0
    (fr_as (Str.ofString "now") (fr_as (Str.ofString "was") (fr_as (Str.ofString "new") (fr_as (Str.ofString "old") (fr_as (Str.ofString "high") FB rfl) rfl) rfl) rfl) rfl) NB ?_
  intro hC tkC tC mC FC NC
  refine H hC tkC _ o3 v FC rfl rfl rfl ?_ ho3
  intro p hp
  refine NC p ?_
  simp only [List.mem_cons] at hp ⊢
  rcases hp with e | e | e | e | e | e | e | e | e | e <;> simp [e]
end Mine
end

/- part: Loop23 -/
section
open Lean Meta Elab Tactic PySem PySem.W PyProof.Rows
set_option Elab.async false
set_option maxRecDepth 100000
set_option maxHeartbeats 1000000
namespace Mine
section
variable {prog : Program} {w : World} {A : Around} {E : Value → Shared → Prop} {s : Shared} {env : Env} {h₀ : Heap} {body : List Stmt} {Q : Flow → Shared → Prop}
theorem iter_rangeTurns {x : Str} {px : Pos} {r : Addr} {a b : Int} {t u v : Tok} {n : Nat} {m₀ : Str → Option Value} {news : List (Addr × Obj)}
    (hh : A.handled = none) (F : Fr h₀ env.locals s.heap m₀) (N : News h₀ env.locals s.heap news) (hr : IsRange s.heap r a b 1 t u v) (hsm : Builtin.Range.small a b 1 = true) (hn : Builtin.Range.rangeSize a b 1 = ((n : Nat) : Int))
    (rest₀ : ∀ I : Addr, (∀ p ∈ news, p.1 < I) → ItemsRest prog w A E h₀ env (.Name x px) body Q s [(I, "range_iterator")] [] ((List.range n).map fun i => .tok fun t => .int (a + ((i : Nat) : Int)) t) m₀ news) :
    wpAny (model prog w) A (pyIter (.ref r)) (fun it s₂ => TurnsAt prog w A h₀ env (.Name x px) body Q E it s₂) E s := by
  refine wpAny_pyIter_range hr hsm ?_
  have W : Walks prog w A s.heap.objs.size [s.heap.objs.size] [s.heap.objs.size] n (fun i v => i < n ∧ ∃ t, v = .int (a + i * 1) t) (fun i h => IsRangeIter h s.heap.objs.size (a + (i : Nat) * 1) ((n : Int) - (i : Nat)) 1) := (Walks.range hh s.heap.objs.size a 1 n).bound
  refine ktu_core (tk0 := s.toks) (keep := []) (KTurns.ofWalks W fun i v s Q E st q => wpAny_pure q) (by simp) (fun i v h hp => ?_) (fun i h st => ?_) (fun b hb => ?_) (fun b hb => by simpa using hb) (fun b hb => ?_) ?_ (fun p hp hI => ?_) ?_ (F.push _) (fun p hp => ⟨Heap.get?_push_of_some _ (N p hp).1, (N p hp).2⟩) trivial (rest₀ _ fun p hp => Heap.lt_size (N p hp).1)
  · obtain ⟨hi, t, e⟩ := hp
    refine ⟨.tok fun t => .int (a + ((i : Nat) : Int)) t, ?_, t, ?_⟩
    · simp [hi]
    · rw [e, Int.mul_one]
  · exact ⟨[(s.heap.objs.size, _)], ⟨⟨rfl, rfl⟩, trivial⟩, fun p hp => by rw [List.mem_singleton.mp hp]; exact st⟩
  · have hb' : b = s.heap.objs.size := by simpa using hb
    rw [hb']
    exact ⟨List.mem_cons_self .., next_is_new F⟩
  · exact .inl (by simpa using hb)
  · intro hI
    exact absurd F.ns.lt ((List.mem_singleton.mp hI) ▸ Nat.lt_irrefl _)
  · exact absurd (Heap.lt_size (N p hp).1) ((List.mem_singleton.mp hI) ▸ Nat.lt_irrefl _)
  · show IsRangeIter _ _ _ _ _
    rw [hn]
    simpa using Heap.get?_push_size _ rfl
end
def iterOf : Stmt → PySem.Expr
  | .For _ i _ _ _ => i
  | _ => .Name Str.empty ⟨0, 0, 0, 0⟩
theorem asg3 {w : World} {h₀ : Heap} {L fa : Addr} {cd : Value} (KX : (Mine.hd.heap_39 w.params).In h₀) {hp : Heap} {tk : Nat} {s : Shared} {m : Str → Option Value} {tl : List (Addr × Obj)} {b : Bool} {st : List Stmt} {w2 : Obj} {v2 : Option Value}
    {Q : Flow → Shared → Prop} {E : Value → Shared → Prop} (hw2 : w2.data = .cell v2) (hoff : OwnOff tl [L + 1 + 1]) (F' : Fr h₀ L hp m) (N' : News h₀ L hp ((L + 1 + 1, w2) :: tl))
    (k : ∀ h' tk o2, Fr h₀ L h' m → News h₀ L h' ((L + 1 + 1, o2) :: tl) → o2.data = .cell (some (.bool b)) →
      wpAny (model Challenge.rw_dw0061_01.row.prog w) (callerA.deeper (lawEnv L fa cd)) (execs st (lawEnv L fa cd)) Q E { s with heap := h', toks := tk }) :
    wpAny (model Challenge.rw_dw0061_01.row.prog w) (callerA.deeper (lawEnv L fa cd)) (assign (targetOf loop3) (lawEnv L fa cd) (.bool b)) (fun _ s₂ => wpAny (model Challenge.rw_dw0061_01.row.prog w) (callerA.deeper (lawEnv L fa cd)) (execs st (lawEnv L fa cd)) Q E s₂) E { s with heap := hp, toks := tk } := by
  revert KX; k_fill; intro KX
  have hb : ∀ tg, tg = targetOf loop3 → ∀ sc, sc = lawScope → (∀ h' tk o2, Fr h₀ L h' m → News h₀ L h' ((L + 1 + 1, o2) :: tl) → o2.data = .cell (some (.bool b)) →
      wpAny (model Challenge.rw_dw0061_01.row.prog w) (callerA.deeper (envOfC (Str.ofString "law") sc L fa cd)) (execs st (envOfC (Str.ofString "law") sc L fa cd)) Q E { s with heap := h', toks := tk }) →
      wpAny (model Challenge.rw_dw0061_01.row.prog w) (callerA.deeper (envOfC (Str.ofString "law") sc L fa cd)) (assign tg (envOfC (Str.ofString "law") sc L fa cd) (.bool b)) (fun _ s₂ => wpAny (model Challenge.rw_dw0061_01.row.prog w) (callerA.deeper (envOfC (Str.ofString "law") sc L fa cd)) (execs st (envOfC (Str.ofString "law") sc L fa cd)) Q E s₂) E { s with heap := hp, toks := tk } := by
    intro tg e sc e2 k
    conv at e => rhs; whnf
    conv at e2 => rhs; whnf
    subst e e2
    k_steps
    exact k _ _ _ (by assumption) (by assumption) (by assumption)
  exact hb _ rfl _ rfl k
theorem asg2 {w : World} {h₀ : Heap} {L fa : Addr} {cd : Value} (KX : (Mine.hd.heap_39 w.params).In h₀) {hp : Heap} {tk : Nat} {s : Shared} {m : Str → Option Value} {tl : List (Addr × Obj)} {d : Int} {td : Tok} {st : List Stmt} {w1 : Obj} {v1 : Option Value}
    {Q : Flow → Shared → Prop} {E : Value → Shared → Prop} (hw1 : w1.data = .cell v1) (hoff : OwnOff tl [L + 1]) (F' : Fr h₀ L hp m) (N' : News h₀ L hp ((L + 1, w1) :: tl))
    (k : ∀ h' tk o1, Fr h₀ L h' m → News h₀ L h' ((L + 1, o1) :: tl) → o1.data = .cell (some (.int d td)) →
      wpAny (model Challenge.rw_dw0061_01.row.prog w) (callerA.deeper (lawEnv L fa cd)) (execs st (lawEnv L fa cd)) Q E { s with heap := h', toks := tk }) :
    wpAny (model Challenge.rw_dw0061_01.row.prog w) (callerA.deeper (lawEnv L fa cd)) (assign (targetOf loop2) (lawEnv L fa cd) (.int d td)) (fun _ s₂ => wpAny (model Challenge.rw_dw0061_01.row.prog w) (callerA.deeper (lawEnv L fa cd)) (execs st (lawEnv L fa cd)) Q E s₂) E { s with heap := hp, toks := tk } := by
  revert KX; k_fill; intro KX
  have hb : ∀ tg, tg = targetOf loop2 → ∀ sc, sc = lawScope → (∀ h' tk o1, Fr h₀ L h' m → News h₀ L h' ((L + 1, o1) :: tl) → o1.data = .cell (some (.int d td)) →
      wpAny (model Challenge.rw_dw0061_01.row.prog w) (callerA.deeper (envOfC (Str.ofString "law") sc L fa cd)) (execs st (envOfC (Str.ofString "law") sc L fa cd)) Q E { s with heap := h', toks := tk }) →
      wpAny (model Challenge.rw_dw0061_01.row.prog w) (callerA.deeper (envOfC (Str.ofString "law") sc L fa cd)) (assign tg (envOfC (Str.ofString "law") sc L fa cd) (.int d td)) (fun _ s₂ => wpAny (model Challenge.rw_dw0061_01.row.prog w) (callerA.deeper (envOfC (Str.ofString "law") sc L fa cd)) (execs st (envOfC (Str.ofString "law") sc L fa cd)) Q E s₂) E { s with heap := hp, toks := tk } := by
    intro tg e sc e2 k
    conv at e => rhs; whnf
    conv at e2 => rhs; whnf
    subst e e2
    k_steps
    exact k _ _ _ (by assumption) (by assumption) (by assumption)
  exact hb _ rfl _ rfl k
theorem iter3_ok {w : World} {h₀ : Heap} {L fa : Addr} {cd : Value} (KX : (Mine.hd.heap_39 w.params).In h₀) {s : Shared} {m : Str → Option Value} {tl : List (Addr × Obj)}
    {Q : Value → Shared → Prop} {E : Value → Shared → Prop} (F' : Fr h₀ L s.heap m) (N' : News h₀ L s.heap tl)
    (k : ∀ l h' tk, Fr h₀ L h' m → News h₀ L h' ((l, listOf #[.bool true, .bool false] 0) :: tl) → (∀ p ∈ tl, p.1 < l) → Q (.ref l) { s with heap := h', toks := tk }) :
    wpAny (model Challenge.rw_dw0061_01.row.prog w) (callerA.deeper (lawEnv L fa cd)) (eval (iterOf loop3) (lawEnv L fa cd)) Q E s := by
  revert KX; k_fill; intro KX
  have hb : ∀ it, it = iterOf loop3 → ∀ sc, sc = lawScope → 
      wpAny (model Challenge.rw_dw0061_01.row.prog w) (callerA.deeper (envOfC (Str.ofString "law") sc L fa cd)) (eval it (envOfC (Str.ofString "law") sc L fa cd)) Q E s := by
    intro tg e sc e2
    conv at e => rhs; whnf
    conv at e2 => rhs; whnf
    subst e e2
    k_steps
    exact k _ _ _ (by assumption) (by assumption) (by assumption)
  exact hb _ rfl _ rfl
theorem iter2_ok {w : World} {h₀ : Heap} {L fa : Addr} {cd : Value} {mean : ExcName → Option Value} {mg mb : Str → Option Value} {p : Program} {loose : List Str} (KX : (Mine.hd.heap_39 w.params).In h₀) (T : Top p loose mean mg mb h₀) {s : Shared} {m : Str → Option Value} {tl : List (Addr × Obj)}
    {Q : Value → Shared → Prop} {E : Value → Shared → Prop} (F' : Fr h₀ L s.heap m) (N' : News h₀ L s.heap tl)
    (k : ∀ l h' tk t u v, Fr h₀ L h' m → News h₀ L h' tl → IsRange h' l 0 3 1 t u v → Q (.ref l) { s with heap := h', toks := tk }) :
    wpAny (model Challenge.rw_dw0061_01.row.prog w) (callerA.deeper (lawEnv L fa cd)) (eval (iterOf loop2) (lawEnv L fa cd)) Q E s := by
  revert KX; k_fill; intro KX
  have hb : ∀ it, it = iterOf loop2 → ∀ sc, sc = lawScope → 
      wpAny (model Challenge.rw_dw0061_01.row.prog w) (callerA.deeper (envOfC (Str.ofString "law") sc L fa cd)) (eval it (envOfC (Str.ofString "law") sc L fa cd)) Q E s := by
    intro tg e sc e2
    conv at e => rhs; whnf
    conv at e2 => rhs; whnf
    subst e e2
    k_steps
    exact k _ _ _ _ _ _ (by assumption) (by assumption) (by assumption)
  exact hb _ rfl _ rfl
end Mine
end

/- part: Rest2 -/
section
open Lean Meta Elab Tactic PySem PySem.W PyProof.Rows
set_option Elab.async false
set_option maxRecDepth 100000
set_option maxHeartbeats 1000000
namespace Mine
theorem St1.mono {h i : Nat} {tl tl' : List (Addr × Obj)} {vs0 vs1 : List Value} {ps0 ps1 : List (Int × Int)} (S : St1 h i tl vs0 vs1 ps0 ps1) (hs : ∀ q ∈ tl, q ∈ tl') : St1 h i tl' vs0 vs1 ps0 ps1 :=
  ⟨S.tr0.mono hs, S.tr1.mono hs, S.g0, S.g1, S.l0, S.l1⟩
def posOf : Stmt → Pos
  | .For _ _ _ _ p => p
  | _ => ⟨0, 0, 0, 0⟩
def MOk (m : Str → Option Value) (C S : Addr) (h : Nat) (th : Tok) : Prop := m (Str.ofString "counts") = some (.ref C) ∧ m (Str.ofString "snapshots") = some (.ref S) ∧ m (Str.ofString "high") = some (.int (h : Int) th)
abbrev adr9 (L C c0 c1 S a0 a1 : Addr) : List Addr := [C, c1, c0, S, a1, a0, L + 1, L + 1 + 1, L + 1 + 1 + 1]
abbrev LO3 : Obj := listOf #[.bool true, .bool false] 0
section
variable {w : World} {h₀ : Heap} {L fa : Addr} {cd : Value} {mean : ExcName → Option Value} {mg mb : Str → Option Value} {wa : Addr} {wo : Obj}
  {h i : Nat} {th : Tok} {C c0 c1 S a0 a1 : Addr} {vs0 vs1 : List Value} {n0 n1 : Nat} {k00 k01 k02 k10 k11 k12 : Int} {t00 t01 t02 t10 t11 t12 : Tok} {ps0 ps1 : List (Int × Int)}
abbrev Led9 (L C c0 c1 S a0 a1 : Addr) (vs0 vs1 : List Value) (n0 n1 : Nat) (k00 k01 k02 k10 k11 k12 : Int) (t00 t01 t02 t10 t11 t12 : Tok) (w1 w2 w3 : Obj) (tl : List (Addr × Obj)) : List (Addr × Obj) :=
  (C, listOf #[.ref c0, .ref c1] 0) :: (c1, listOf #[.int k10 t10, .int k11 t11, .int k12 t12] 0) :: (c0, listOf #[.int k00 t00, .int k01 t01, .int k02 t02] 0) ::
    (S, listOf #[.ref a0, .ref a1] 0) :: (a1, listOf vs1.toArray n1) :: (a0, listOf vs0.toArray n0) :: (L + 1 + 1 + 1, w3) :: (L + 1 + 1, w2) :: (L + 1, w1) :: tl
theorem led9_mem {w1 w2 w3 : Obj} {tl : List (Addr × Obj)} {p : Addr × Obj} (hp : p ∈ Led9 L C c0 c1 S a0 a1 vs0 vs1 n0 n1 k00 k01 k02 k10 k11 k12 t00 t01 t02 t10 t11 t12 w1 w2 w3 tl) : p.1 ∈ adr9 L C c0 c1 S a0 a1 ∨ p ∈ tl := by
  simp only [List.mem_cons] at hp ⊢
  rcases hp with e | e | e | e | e | e | e | e | e | e <;> simp [e]
theorem adr9_led {w1 w2 w3 : Obj} {tl : List (Addr × Obj)} {b : Addr} (hb : b ∈ adr9 L C c0 c1 S a0 a1) : ∃ o, (b, o) ∈ Led9 L C c0 c1 S a0 a1 vs0 vs1 n0 n1 k00 k01 k02 k10 k11 k12 t00 t01 t02 t10 t11 t12 w1 w2 w3 tl := by
  simp only [List.mem_cons, List.not_mem_nil, or_false] at hb
  rcases hb with e | e | e | e | e | e | e | e | e <;> subst e
  · exact ⟨_, by k_mem⟩
  · exact ⟨_, by k_mem⟩
  · exact ⟨_, by k_mem⟩
  · exact ⟨_, by k_mem⟩
  · exact ⟨_, by k_mem⟩
  · exact ⟨_, by k_mem⟩
  · exact ⟨_, by k_mem⟩
  · exact ⟨_, by k_mem⟩
  · exact ⟨_, by k_mem⟩
theorem loop3_rest (KX : (Mine.hd.heap_39 w.params).In h₀) (T : Top hd.view_39 (looseW hd.view_39 [Str.ofString "DomainFilter"]) mean mg mb h₀)
    (K0 : Below callerA h₀ [] h₀)
    (GL : Glob 0 mg mb (List.map itemOf (recsOf hd.view_39)) (scalarsOf [] ++ constsW hd.view_39) [] (namesW hd.view_39 [Str.ofString "DomainFilter"]) h₀) (M : BMod h₀ mainGlobals mg wa wo)
    {d : Int} {td : Tok} {w1 : Obj} {tl : List (Addr × Obj)} {s : Shared} {Q : Flow → Shared → Prop} {E : Value → Shared → Prop} {lx I : Addr}
    (hd3 : d = 0 ∨ d = 1 ∨ d = 2) (hh : 1 ≤ h ∧ h ≤ 4) (hi : i ≤ 69) (hw1 : w1.data = .cell (some (.int d td)))
    (l1 : ltA (L + 1 + 1 + 1) a0 ∧ ltA a0 a1 ∧ ltA a1 S ∧ ltA S c0 ∧ ltA c0 c1 ∧ ltA c1 C) (hoff : OwnOff tl (adr9 L C c0 c1 S a0 a1)) (St : St1 h i tl vs0 vs1 ps0 ps1) (C0 : Cn ps0 k00 k01 k02) (C1 : Cn ps1 k10 k11 k12)
    (hI : ∀ b ∈ adr9 L C c0 c1 S a0 a1, I ≠ b) (hIx : I ≠ lx) (hIt : ∀ p ∈ tl, p.1 ≠ I) (hx : ∀ b ∈ adr9 L C c0 c1 S a0 a1, lx ≠ b)
    (done : ∀ hp tk m' w2' w3' v2' v3', w2'.data = .cell v2' → w3'.data = .cell v3' → MOk m' C S h th → Fr h₀ L hp m' → News h₀ L hp (Led9 L C c0 c1 S a0 a1 vs0 vs1 n0 n1 k00 k01 k02 k10 k11 k12 t00 t01 t02 t10 t11 t12 w1 w2' w3' tl) → Q .next { s with heap := hp, toks := tk }) :
    ∀ (bs : List Bool) (m : Str → Option Value) (w2 w3 : Obj) (v2 v3 : Option Value), w2.data = .cell v2 → w3.data = .cell v3 → MOk m C S h th →
      ItemsRest Challenge.rw_dw0061_01.row.prog w (callerA.deeper (lawEnv L fa cd)) E h₀ (lawEnv L fa cd) (targetOf loop3) body3 Q s [(I, "list_iterator")] [(lx, LO3)] (bs.map fun b => .val (.bool b)) m
        (Led9 L C c0 c1 S a0 a1 vs0 vs1 n0 n1 k00 k01 k02 k10 k11 k12 t00 t01 t02 t10 t11 t12 w1 w2 w3 ((lx, LO3) :: tl)) := by
  intro bs
  induction bs with
  | nil =>
    intro m w2 w3 v2 v3 hw2 hw3 hm
    refine ItemsRest.zero fun hp tk F N => done hp tk m w2 w3 v2 v3 hw2 hw3 hm F ?_
    intro p hp
    refine N p ?_
    simp only [List.mem_cons] at hp ⊢
    rcases hp with e | e | e | e | e | e | e | e | e | e <;> simp [e]
  | cons b bs ih =>
    intro m w2 w3 v2 v3 hw2 hw3 hm
    show ItemsRest _ _ _ _ _ _ _ _ _ _ _ _ (Itm.val (Value.bool b) :: bs.map fun b => .val (.bool b)) _ _
    refine ItemsRest.val fun h' tk' F' => ?_
    refine AllObj.cons fun o hc => AllObj.nil fun N' => ?_
    have g := l1
    obtain ⟨g1, g2, g3, g4, g5, g6⟩ := g
    dsimp only [ltA] at g1 g2 g3 g4 g5 g6
    refine asg3 (tl := (I, o) :: (C, listOf #[.ref c0, .ref c1] 0) :: (c1, listOf #[.int k10 t10, .int k11 t11, .int k12 t12] 0) :: (c0, listOf #[.int k00 t00, .int k01 t01, .int k02 t02] 0) ::
      (S, listOf #[.ref a0, .ref a1] 0) :: (a1, listOf vs1.toArray n1) :: (a0, listOf vs0.toArray n0) :: (L + 1 + 1 + 1, w3) :: (L + 1, w1) :: (lx, LO3) :: tl) KX hw2 ?_ F' ?_ ?_
    · intro p hp b hb
      rw [List.mem_singleton.mp hb]
      simp only [List.mem_cons] at hp
      rcases hp with e | e | e | e | e | e | e | e | e | e | e
      · subst e; exact hI _ (by simp)
      · subst e; exact neN (by dsimp only; omega)
      · subst e; exact neN (by dsimp only; omega)
      · subst e; exact neN (by dsimp only; omega)
      · subst e; exact neN (by dsimp only; omega)
      · subst e; exact neN (by dsimp only; omega)
      · subst e; exact neN (by dsimp only; omega)
      · subst e; exact neN (by dsimp only; omega)
      · subst e; exact neN (by dsimp only; omega)
      · subst e; exact hx _ (by simp)
      · exact hoff p e _ (by simp)
    · intro p hp
      refine N' p ?_
      simp only [List.mem_cons, List.cons_append, List.nil_append] at hp ⊢
      rcases hp with e | e | e | e | e | e | e | e | e | e | e | e <;> simp [e]
    intro h2 tk2 o2 F2 N2 ho2
    refine body3_ok (s := { s with toks := tk2 }) (tl := (I, o) :: (lx, LO3) :: tl) (c0 := c0) (c1 := c1) (S := S) (a0 := a0) (a1 := a1) (vs0 := vs0) (vs1 := vs1) (n0 := n0) (n1 := n1) (t00 := t00) (t01 := t01) (t02 := t02) (t10 := t10) (t11 := t11) (t12 := t12) (w3 := w3) KX T K0 GL M hd3 hh hi hw1 ho2 hw3 l1
      (off_cons (off_cons hoff hx) hI) (St.mono fun q hq => .tail _ (.tail _ hq)) C0 C1 F2 hm.1 hm.2.1 hm.2.2 ?_ ?_
    · intro p hp
      refine N2 p ?_
      simp only [List.mem_cons] at hp ⊢
      rcases hp with e | e | e | e | e | e | e | e | e | e | e | e <;> simp [e]
    intro h3 tk3 m3 o3 v F3 q1 q2 q3 N3 ho3
    refine ⟨h3, tk3, m3, Led9 L C c0 c1 S a0 a1 vs0 vs1 n0 n1 k00 k01 k02 k10 k11 k12 t00 t01 t02 t10 t11 t12 w1 o2 o3 ((lx, LO3) :: tl), rfl, F3, ?_, ?_, ⟨by simp, trivial⟩, ih m3 o2 o3 _ _ ho2 ho3 ⟨q1, q2, q3⟩⟩
    · intro p hp
      refine N3 p ?_
      simp only [List.mem_cons, List.cons_append, List.nil_append] at hp ⊢
      rcases hp with e | e | e | e | e | e | e | e | e | e | e | e <;> simp [e]
    · intro p hp q hq
      rw [List.mem_singleton.mp hq]
      rcases led9_mem hp with e | e
      · exact fun e2 => hI _ e e2.symm
      · rcases List.mem_cons.mp e with e | e
        · rw [e]; exact fun e2 => hIx e2.symm
        · exact hIt p e
end
end Mine
end

/- part: Rest3 -/
section
open Lean Meta Elab Tactic PySem PySem.W PyProof.Rows
set_option Elab.async false
set_option maxRecDepth 100000
set_option maxHeartbeats 1000000
namespace Mine
section
variable {w : World} {h₀ : Heap} {L fa : Addr} {cd : Value} {mean : ExcName → Option Value} {mg mb : Str → Option Value} {wa : Addr} {wo : Obj}
  {h i : Nat} {th : Tok} {C c0 c1 S a0 a1 : Addr} {vs0 vs1 : List Value} {n0 n1 : Nat} {k00 k01 k02 k10 k11 k12 : Int} {t00 t01 t02 t10 t11 t12 : Tok} {ps0 ps1 : List (Int × Int)}
theorem loop3_ok (KX : (Mine.hd.heap_39 w.params).In h₀) (T : Top hd.view_39 (looseW hd.view_39 [Str.ofString "DomainFilter"]) mean mg mb h₀)
    (K0 : Below callerA h₀ [] h₀)
    (GL : Glob 0 mg mb (List.map itemOf (recsOf hd.view_39)) (scalarsOf [] ++ constsW hd.view_39) [] (namesW hd.view_39 [Str.ofString "DomainFilter"]) h₀) (M : BMod h₀ mainGlobals mg wa wo)
    {d : Int} {td : Tok} {w1 w2 w3 : Obj} {v2 v3 : Option Value} {m : Str → Option Value} {tl : List (Addr × Obj)} {s : Shared} {Q : Flow → Shared → Prop} {E : Value → Shared → Prop}
    (hE : PassesOwn (model Challenge.rw_dw0061_01.row.prog w) (callerA.deeper (lawEnv L fa cd)) (lawEnv L fa cd) E)
    (hd3 : d = 0 ∨ d = 1 ∨ d = 2) (hh : 1 ≤ h ∧ h ≤ 4) (hi : i ≤ 69) (hw1 : w1.data = .cell (some (.int d td))) (hw2 : w2.data = .cell v2) (hw3 : w3.data = .cell v3) (hm : MOk m C S h th)
    (l1 : ltA (L + 1 + 1 + 1) a0 ∧ ltA a0 a1 ∧ ltA a1 S ∧ ltA S c0 ∧ ltA c0 c1 ∧ ltA c1 C) (hoff : OwnOff tl (adr9 L C c0 c1 S a0 a1)) (St : St1 h i tl vs0 vs1 ps0 ps1) (C0 : Cn ps0 k00 k01 k02) (C1 : Cn ps1 k10 k11 k12)
    (F : Fr h₀ L s.heap m) (N : News h₀ L s.heap (Led9 L C c0 c1 S a0 a1 vs0 vs1 n0 n1 k00 k01 k02 k10 k11 k12 t00 t01 t02 t10 t11 t12 w1 w2 w3 tl))
    (done : ∀ hp tk m' w2' w3' v2' v3', w2'.data = .cell v2' → w3'.data = .cell v3' → MOk m' C S h th → Fr h₀ L hp m' → News h₀ L hp (Led9 L C c0 c1 S a0 a1 vs0 vs1 n0 n1 k00 k01 k02 k10 k11 k12 t00 t01 t02 t10 t11 t12 w1 w2' w3' tl) → Q .next { s with heap := hp, toks := tk }) :
    wpAny (model Challenge.rw_dw0061_01.row.prog w) (callerA.deeper (lawEnv L fa cd)) (exec loop3 (lawEnv L fa cd)) Q E s := by
  have e : loop3 = .For (targetOf loop3) (iterOf loop3) body3 [] (posOf loop3) := rfl
  rw [e]
  refine For_turns F ?_ (by intro _; rfl) hE
  refine iter3_ok KX F N ?_
  intro lx h' tk F' N' hlt
  have N2 : News h₀ L h' (Led9 L C c0 c1 S a0 a1 vs0 vs1 n0 n1 k00 k01 k02 k10 k11 k12 t00 t01 t02 t10 t11 t12 w1 w2 w3 ((lx, LO3) :: tl)) := by
    intro p hp
    refine N' p ?_
    simp only [List.mem_cons] at hp ⊢
    rcases hp with e | e | e | e | e | e | e | e | e | e | e <;> simp [e]
  refine iter_listTurns (s := { s with heap := h', toks := tk }) (lo := LO3) (vs := [.bool true, .bool false]) (n := 0) rfl F' N2 (by k_mem) rfl rfl ?_
  intro I hI
  refine loop3_rest (s := { s with heap := h', toks := tk }) KX T K0 GL M hd3 hh hi hw1 l1 hoff St C0 C1 ?_ ?_ ?_ ?_ done [true, false] m w2 w3 v2 v3 hw2 hw3 hm
  · intro b hb
    obtain ⟨o, ho⟩ := adr9_led (vs0 := vs0) (vs1 := vs1) (n0 := n0) (n1 := n1) (k00 := k00) (k01 := k01) (k02 := k02) (k10 := k10) (k11 := k11) (k12 := k12) (t00 := t00) (t01 := t01) (t02 := t02) (t10 := t10) (t11 := t11) (t12 := t12) (w1 := w1) (w2 := w2) (w3 := w3) (tl := (lx, LO3) :: tl) hb
    exact (Nat.ne_of_lt (hI _ ho)).symm
  · exact (Nat.ne_of_lt (hI (lx, LO3) (by k_mem))).symm
  · intro p hp
    refine Nat.ne_of_lt (hI p ?_)
    simp [hp]
  · intro b hb
    obtain ⟨o, ho⟩ := adr9_led (vs0 := vs0) (vs1 := vs1) (n0 := n0) (n1 := n1) (k00 := k00) (k01 := k01) (k02 := k02) (k10 := k10) (k11 := k11) (k12 := k12) (t00 := t00) (t01 := t01) (t02 := t02) (t10 := t10) (t11 := t11) (t12 := t12) (w1 := w1) (w2 := w2) (w3 := w3) (tl := tl) hb
    exact (Nat.ne_of_lt (hlt _ ho)).symm
theorem loop2_rest (KX : (Mine.hd.heap_39 w.params).In h₀) (T : Top hd.view_39 (looseW hd.view_39 [Str.ofString "DomainFilter"]) mean mg mb h₀)
    (K0 : Below callerA h₀ [] h₀)
    (GL : Glob 0 mg mb (List.map itemOf (recsOf hd.view_39)) (scalarsOf [] ++ constsW hd.view_39) [] (namesW hd.view_39 [Str.ofString "DomainFilter"]) h₀) (M : BMod h₀ mainGlobals mg wa wo)
    {tl : List (Addr × Obj)} {s : Shared} {Q : Flow → Shared → Prop} {E : Value → Shared → Prop} {I : Addr}
    (hE : PassesOwn (model Challenge.rw_dw0061_01.row.prog w) (callerA.deeper (lawEnv L fa cd)) (lawEnv L fa cd) E) (hh : 1 ≤ h ∧ h ≤ 4) (hi : i ≤ 69)
    (l1 : ltA (L + 1 + 1 + 1) a0 ∧ ltA a0 a1 ∧ ltA a1 S ∧ ltA S c0 ∧ ltA c0 c1 ∧ ltA c1 C) (hoff : OwnOff tl (adr9 L C c0 c1 S a0 a1)) (St : St1 h i tl vs0 vs1 ps0 ps1) (C0 : Cn ps0 k00 k01 k02) (C1 : Cn ps1 k10 k11 k12)
    (hI : ∀ b ∈ adr9 L C c0 c1 S a0 a1, I ≠ b) (hIt : ∀ p ∈ tl, p.1 ≠ I)
    (done : ∀ hp tk m', Fr h₀ L hp m' → Q .next { s with heap := hp, toks := tk }) :
    ∀ (js : List Nat), (∀ j ∈ js, j < 3) → ∀ (m : Str → Option Value) (w1 w2 w3 : Obj) (v1 v2 v3 : Option Value), w1.data = .cell v1 → w2.data = .cell v2 → w3.data = .cell v3 → MOk m C S h th →
      ItemsRest Challenge.rw_dw0061_01.row.prog w (callerA.deeper (lawEnv L fa cd)) E h₀ (lawEnv L fa cd) (targetOf loop2) [loop3] Q s [(I, "range_iterator")] [] (js.map fun j => .tok fun t => .int (0 + ((j : Nat) : Int)) t) m
        (Led9 L C c0 c1 S a0 a1 vs0 vs1 n0 n1 k00 k01 k02 k10 k11 k12 t00 t01 t02 t10 t11 t12 w1 w2 w3 tl) := by
  intro js
  induction js with
  | nil =>
    intro _ m w1 w2 w3 v1 v2 v3 hw1 hw2 hw3 hm
    exact ItemsRest.zero fun hp tk F N => done hp tk m F
  | cons j js ih =>
    intro hj m w1 w2 w3 v1 v2 v3 hw1 hw2 hw3 hm
    have hj3 := hj j List.mem_cons_self
    show ItemsRest _ _ _ _ _ _ _ _ _ _ _ _ (Itm.tok (fun t => Value.int (0 + ((j : Nat) : Int)) t) :: js.map fun j => .tok fun t => .int (0 + ((j : Nat) : Int)) t) _ _
    refine ItemsRest.tok fun td h' tk' F' => ?_
    refine AllObj.cons fun o hc => AllObj.nil fun N' => ?_
    have g := l1
    obtain ⟨g1, g2, g3, g4, g5, g6⟩ := g
    dsimp only [ltA] at g1 g2 g3 g4 g5 g6
    refine asg2 (tl := (I, o) :: (C, listOf #[.ref c0, .ref c1] 0) :: (c1, listOf #[.int k10 t10, .int k11 t11, .int k12 t12] 0) :: (c0, listOf #[.int k00 t00, .int k01 t01, .int k02 t02] 0) ::
      (S, listOf #[.ref a0, .ref a1] 0) :: (a1, listOf vs1.toArray n1) :: (a0, listOf vs0.toArray n0) :: (L + 1 + 1 + 1, w3) :: (L + 1 + 1, w2) :: tl) KX hw1 ?_ F' ?_ ?_
    · intro p hp b hb
      rw [List.mem_singleton.mp hb]
      simp only [List.mem_cons] at hp
      rcases hp with e | e | e | e | e | e | e | e | e | e
      · subst e; exact hI _ (by simp)
      · subst e; exact neN (by dsimp only; omega)
      · subst e; exact neN (by dsimp only; omega)
      · subst e; exact neN (by dsimp only; omega)
      · subst e; exact neN (by dsimp only; omega)
      · subst e; exact neN (by dsimp only; omega)
      · subst e; exact neN (by dsimp only; omega)
      · subst e; exact neN (by dsimp only; omega)
      · subst e; exact neN (by dsimp only; omega)
      · exact hoff p e _ (by simp)
    · intro p hp
      refine N' p ?_
      simp only [List.mem_cons, List.cons_append, List.nil_append] at hp ⊢
      rcases hp with e | e | e | e | e | e | e | e | e | e | e <;> simp [e]
    intro h2 tk2 o1 F2 N2 ho1
    refine wpAny_execs_cons ?_
    refine loop3_ok (s := { s with heap := h2, toks := tk2 }) (tl := (I, o) :: tl) (c0 := c0) (c1 := c1) (S := S) (a0 := a0) (a1 := a1) (vs0 := vs0) (vs1 := vs1) (n0 := n0) (n1 := n1) (t00 := t00) (t01 := t01) (t02 := t02) (t10 := t10) (t11 := t11) (t12 := t12) (w2 := w2) (w3 := w3) KX T K0 GL M hE (by omega) hh hi ho1 hw2 hw3 hm l1
      (off_cons hoff hI) (St.mono fun q hq => .tail _ hq) C0 C1 F2 ?_ ?_
    · intro p hp
      refine N2 p ?_
      simp only [List.mem_cons] at hp ⊢
      rcases hp with e | e | e | e | e | e | e | e | e | e | e <;> simp [e]
    intro h3 tk3 m3 w2' w3' v2' v3' hw2' hw3' hm3 F3 N3
    refine wpAny_execs_nil ?_
    refine ⟨h3, tk3, m3, Led9 L C c0 c1 S a0 a1 vs0 vs1 n0 n1 k00 k01 k02 k10 k11 k12 t00 t01 t02 t10 t11 t12 o1 w2' w3' tl, rfl, F3, ?_, ?_, trivial, ih (fun j hj' => hj j (List.mem_cons_of_mem _ hj')) m3 o1 w2' w3' _ _ _ ho1 hw2' hw3' hm3⟩
    · intro p hp
      refine N3 p ?_
      simp only [List.mem_cons, List.cons_append, List.nil_append] at hp ⊢
      rcases hp with e | e | e | e | e | e | e | e | e | e | e <;> simp [e]
    · intro p hp q hq
      rw [List.mem_singleton.mp hq]
      rcases led9_mem hp with e | e
      · exact fun e2 => hI _ e e2.symm
      · exact hIt p e
theorem loop2_ok (KX : (Mine.hd.heap_39 w.params).In h₀) (T : Top hd.view_39 (looseW hd.view_39 [Str.ofString "DomainFilter"]) mean mg mb h₀)
    (K0 : Below callerA h₀ [] h₀)
    (GL : Glob 0 mg mb (List.map itemOf (recsOf hd.view_39)) (scalarsOf [] ++ constsW hd.view_39) [] (namesW hd.view_39 [Str.ofString "DomainFilter"]) h₀) (M : BMod h₀ mainGlobals mg wa wo)
    {w1 w2 w3 : Obj} {v1 v2 v3 : Option Value} {m : Str → Option Value} {tl : List (Addr × Obj)} {s : Shared} {Q : Flow → Shared → Prop} {E : Value → Shared → Prop}
    (hE : PassesOwn (model Challenge.rw_dw0061_01.row.prog w) (callerA.deeper (lawEnv L fa cd)) (lawEnv L fa cd) E)
    (hh : 1 ≤ h ∧ h ≤ 4) (hi : i ≤ 69) (hw1 : w1.data = .cell v1) (hw2 : w2.data = .cell v2) (hw3 : w3.data = .cell v3) (hm : MOk m C S h th)
    (l1 : ltA (L + 1 + 1 + 1) a0 ∧ ltA a0 a1 ∧ ltA a1 S ∧ ltA S c0 ∧ ltA c0 c1 ∧ ltA c1 C) (hoff : OwnOff tl (adr9 L C c0 c1 S a0 a1)) (St : St1 h i tl vs0 vs1 ps0 ps1) (C0 : Cn ps0 k00 k01 k02) (C1 : Cn ps1 k10 k11 k12)
    (F : Fr h₀ L s.heap m) (N : News h₀ L s.heap (Led9 L C c0 c1 S a0 a1 vs0 vs1 n0 n1 k00 k01 k02 k10 k11 k12 t00 t01 t02 t10 t11 t12 w1 w2 w3 tl))
    (done : ∀ hp tk m', Fr h₀ L hp m' → Q .next { s with heap := hp, toks := tk }) :
    wpAny (model Challenge.rw_dw0061_01.row.prog w) (callerA.deeper (lawEnv L fa cd)) (exec loop2 (lawEnv L fa cd)) Q E s := by
  have e : loop2 = .For (targetOf loop2) (iterOf loop2) [loop3] [] (posOf loop2) := rfl
  rw [e]
  refine For_turns F ?_ (by intro _; rfl) hE
  refine iter2_ok KX T F N ?_
  intro r h' tk t u v F' N' hr
  refine iter_rangeTurns (s := { s with heap := h', toks := tk }) (n := 3) rfl F' N' hr (by decide) (by decide) ?_
  intro I hI
  refine loop2_rest (s := { s with heap := h', toks := tk }) KX T K0 GL M hE hh hi l1 hoff St C0 C1 ?_ ?_ done [0, 1, 2] (by decide) m w1 w2 w3 v1 v2 v3 hw1 hw2 hw3 hm
  · intro b hb
    obtain ⟨o, ho⟩ := adr9_led (vs0 := vs0) (vs1 := vs1) (n0 := n0) (n1 := n1) (k00 := k00) (k01 := k01) (k02 := k02) (k10 := k10) (k11 := k11) (k12 := k12) (t00 := t00) (t01 := t01) (t02 := t02) (t10 := t10) (t11 := t11) (t12 := t12) (w1 := w1) (w2 := w2) (w3 := w3) (tl := tl) hb
    exact (Nat.ne_of_lt (hI _ ho)).symm
  · intro p hp
    refine Nat.ne_of_lt (hI p ?_)
    simp [hp]
theorem ret_ok (KX : (Mine.hd.heap_39 w.params).In h₀) {m : Str → Option Value} {s : Shared} {Q : Flow → Shared → Prop} {E : Value → Shared → Prop} (F' : Fr h₀ L s.heap m) (k : ∀ hp tk m', Fr h₀ L hp m' → Q (.ret (.bool true)) { s with heap := hp, toks := tk }) :
    wpAny (model Challenge.rw_dw0061_01.row.prog w) (callerA.deeper (lawEnv L fa cd)) (execs [stmtAt (bodyOf lawDef) 5] (lawEnv L fa cd)) Q E s := by
  revert KX; k_fill; intro KX
  have hb : ∀ st, st = stmtAt (bodyOf lawDef) 5 → ∀ sc, sc = lawScope → wpAny (model Challenge.rw_dw0061_01.row.prog w) (callerA.deeper (envOfC (Str.ofString "law") sc L fa cd)) (execs [st] (envOfC (Str.ofString "law") sc L fa cd)) Q E s := by
    intro st e sc e2
    conv at e => rhs; whnf
    conv at e2 => rhs; whnf
    subst e e2
    k_steps
    exact k _ _ _ (by assumption)
  exact hb _ rfl _ rfl
end
end Mine
end

/- part: Tail -/
section
open Lean Meta Elab Tactic PySem PySem.W PyProof.Rows
set_option Elab.async false
set_option maxRecDepth 100000
set_option maxHeartbeats 1000000
namespace Mine
theorem law_tail {w : World} {h₀ : Heap} {L fa : Addr} {cd : Value} {mean : ExcName → Option Value} {mg mb : Str → Option Value} {wa : Addr} {wo : Obj}
    (KX : (Mine.hd.heap_39 w.params).In h₀) (T : Top hd.view_39 (looseW hd.view_39 [Str.ofString "DomainFilter"]) mean mg mb h₀)
    (K0 : Below callerA h₀ [] h₀)
    (GL : Glob 0 mg mb (List.map itemOf (recsOf hd.view_39)) (scalarsOf [] ++ constsW hd.view_39) [] (namesW hd.view_39 [Str.ofString "DomainFilter"]) h₀) (M : BMod h₀ mainGlobals mg wa wo)
    {h : Nat} {th : Tok} {C c0 c1 S a0 a1 l : Addr} {t00 t01 t02 t10 t11 t12 : Tok} {w1 w2 w3 : Obj} {v1 v2 v3 : Option Value} {m : Str → Option Value} {e2 e3 : Addr × Obj} {vs : List Value} {ns : List Int}
    {s : Shared} {qk : Flow → Shared → Prop} {ek : Value → Shared → Prop}
    (hE : PassesOwn (model Challenge.rw_dw0061_01.row.prog w) (callerA.deeper (lawEnv L fa cd)) (lawEnv L fa cd) ek)
    (hh : 1 ≤ h ∧ h ≤ 4) (hI : IntsAre vs ns) (hlen : ns.length ≤ 69) (hw1 : w1.data = .cell v1) (hw2 : w2.data = .cell v2) (hw3 : w3.data = .cell v3) (hm : MOk m C S h th)
    (F : Fr h₀ L s.heap m)
    (N : News h₀ L s.heap [(l, listOf vs.toArray 0), e2, e3, (C, listOf #[.ref c0, .ref c1] 0), (c1, listOf #[.int 0 t10, .int 0 t11, .int 0 t12] 0), (c0, listOf #[.int 0 t00, .int 0 t01, .int 0 t02] 0),
      (S, listOf #[.ref a0, .ref a1] 0), (a1, listOf #[] 0), (a0, listOf #[] 0), (L + 1 + 1 + 1, w3), (L + 1 + 1, w2), (L + 1, w1)])
    (l1 : ltA (L + 1 + 1 + 1) a0 ∧ ltA a0 a1 ∧ ltA a1 S ∧ ltA S c0 ∧ ltA c0 c1 ∧ ltA c1 C ∧ ltA C l)
    (hQ : ∀ hp tk m', Fr h₀ L hp m' → qk (.ret (.bool true)) { s with heap := hp, toks := tk }) :
    wpAny (model Challenge.rw_dw0061_01.row.prog w) (callerA.deeper (lawEnv L fa cd)) (call (.type "enumerate") [.ref l])
      (fun xv s₁ => wpAny (model Challenge.rw_dw0061_01.row.prog w) (callerA.deeper (lawEnv L fa cd)) (pyIter xv) (fun it s₂ => TurnsAt Challenge.rw_dw0061_01.row.prog w (callerA.deeper (lawEnv L fa cd)) h₀ (lawEnv L fa cd) (targetOf loop1) body1
        (fun f s' => match f with
          | .next => wpAny (model Challenge.rw_dw0061_01.row.prog w) (callerA.deeper (lawEnv L fa cd)) (execs [loop2, stmtAt (bodyOf lawDef) 5] (lawEnv L fa cd)) qk ek s'
          | f => qk f s') ek it s₂) ek s₁) ek s := by
  have hvl : vs.length = ns.length := hI.length
  have N2 : News h₀ L s.heap ((C, listOf #[.ref c0, .ref c1] 0) :: (c1, listOf #[.int 0 t10, .int 0 t11, .int 0 t12] 0) :: (c0, listOf #[.int 0 t00, .int 0 t01, .int 0 t02] 0) ::
      (S, listOf #[.ref a0, .ref a1] 0) :: (a1, listOf ([] : List Value).toArray 0) :: (a0, listOf ([] : List Value).toArray 0) :: (L + 1 + 1 + 1, w3) :: (L + 1 + 1, w2) :: (L + 1, w1) :: (l, listOf vs.toArray 0) :: []) := by
    intro p hp
    refine N p ?_
    simp only [List.mem_cons] at hp ⊢
    rcases hp with e | e | e | e | e | e | e | e | e | e | e <;> simp [e]
  refine ktu_enum (lo := listOf vs.toArray 0) (vs := vs) (n := 0) (m₀ := m) rfl F N2 (by k_mem) rfl rfl rfl ?_
  intro I hIlt
  have lI : ltA l I := hIlt (l, listOf vs.toArray 0) (by k_mem)
  obtain ⟨g1, g2, g3, g4, g5, g6, g7⟩ := l1
  refine loop1_rest KX T hh ⟨g1, g2, g3, g4, g5, g6, g7, lI⟩ vs ns 0 m _ hI (by omega) ⟨[], [], 0, 0, [], [], 0, 0, 0, 0, 0, 0, t00, t01, t02, t10, t11, t12, [], hm.1, hm.2.1, hm.2.2, rfl, fun _ hp => (nomatch hp), ?_, ⟨rfl, rfl, rfl⟩, ⟨rfl, rfl, rfl⟩⟩ ?_
  · exact ⟨trivial, trivial, fun _ hp => (nomatch hp), fun _ hp => (nomatch hp), Nat.zero_le _, Nat.zero_le _⟩
  intro hp tk m' news' inv F' N'
  obtain ⟨vs0, vs1, n0, n1, ps0, ps1, k00, k01, k02, k10, k11, k12, s00, s01, s02, s10, s11, s12, tl, q1, q2, q3, rfl, off, St, C0, C1⟩ := inv
  have off9 : OwnOff tl (adr9 L C c0 c1 S a0 a1) := by
    intro p hp b hb
    refine off p hp b ?_
    simp only [List.mem_cons, List.not_mem_nil, or_false] at hb ⊢
    rcases hb with e | e | e | e | e | e | e | e | e <;> simp [e]
  refine wpAny_execs_cons ?_
  refine loop2_ok (s := { s with heap := hp, toks := tk }) (tl := tl) (c0 := c0) (c1 := c1) (a0 := a0) (a1 := a1) (vs0 := vs0) (vs1 := vs1) (n0 := n0) (n1 := n1) (t00 := s00) (t01 := s01) (t02 := s02) (t10 := s10) (t11 := s11) (t12 := s12) KX T K0 GL M hE hh (i := 0 + vs.length) (by omega) hw1 hw2 hw3 ⟨q1, q2, q3⟩ ⟨g1, g2, g3, g4, g5, g6⟩ off9 St C0 C1 F' ?_ ?_
  · intro p hp
    refine N' p ?_
    simp only [List.mem_cons] at hp ⊢
    rcases hp with e | e | e | e | e | e | e | e | e | e <;> simp [e]
  intro hp2 tk2 m2 F2
  refine ret_ok KX F2 ?_
  intro hp3 tk3 m3 F3
  exact hQ hp3 tk3 m3 F3
end Mine
end

/- part: Final -/
section
open Lean Meta Elab Tactic PySem PySem.W PyProof.Rows
set_option Elab.async false
set_option maxRecDepth 100000
set_option maxHeartbeats 1000000
namespace Mine
local macro_rules | `(tactic| walk_at "exec For Tuple Call cons nil") => `(tactic| (k_here; (rename Fr _ _ _ _ => lF'); (with_unfolding_all refine' For_turns lF' ?_)))
local macro_rules | `(tactic| walk_at "call type:enumerate") => `(tactic| (k_here; refine stop_here ?_))
theorem high_eq (n : Nat) : (1 + ((n : Int)).fmod 4) = ((1 + n % 4 : Nat) : Int) := by
  rw [Int.fmod_eq_emod_of_nonneg _ (by decide)]; omega
theorem mok_of {m : Str → Option Value} {C S : Addr} {n : Nat} {v : Int} {th : Tok} (e : v = 1 + ((n : Int)).fmod 4) (h1 : m (Str.ofString "counts") = some (.ref C)) (h2 : m (Str.ofString "snapshots") = some (.ref S)) (h3 : m (Str.ofString "high") = some (.int v th)) : MOk m C S (1 + n % 4) th := by
  rw [e, high_eq] at h3
  exact ⟨h1, h2, h3⟩
theorem go1 : PySem.Challenge.rw_dw0061_01.Holds := hd (by
  k_go0; (all_goals try k_fold); k_steps
  unfold StopHere
  rename Fr _ _ _ _ => FF
  rename News _ _ _ _ => NN
  refine law_tail (by assumption) (by assumption) (by assumption) (by assumption) (by assumption) (by passes_own) ?hh (by assumption) ?hlen (by assumption) (by assumption) (by assumption) (mok_of rfl rfl rfl rfl) FF NN ?l1 ?hQ
  case hh => omega
  case hlen =>
    rw [List.length_append, List.length_take]
    exact Nat.le_trans (Nat.add_le_add_left (Nat.min_le_left _ _) _) (by decide)
  case l1 => dsimp only [ltA]; refine ⟨?_, ?_, ?_, ?_, ?_, ?_, ?_⟩ <;> omega
  case hQ =>
    intro hp tk m' F'
    k_steps)
end Mine
end
theorem PySem.Challenge.cw_dw0061_01_holds : PySem.Challenge.rw_dw0061_01.Holds := by
  exact Mine.go1
