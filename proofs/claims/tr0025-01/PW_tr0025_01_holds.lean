import PyProof.Rows.All
import Wide.All
import OpenK.AllK
import Wide.FinOn
import Lean
import PySem.Challenge.RW_tr0025_01
open PySem PySem.W PySem.Calls PyProof.Rows
set_option Elab.async false
set_option maxRecDepth 100000
namespace Mine
local macro_rules | `(tactic| walk_at $s:str) => `(tactic| k_extra $s)
section
set_option maxHeartbeats 8000000
open_top hd for PySem.Challenge.rw_tr0025_01

end
section
open PySem.Float64 in
section
@[irreducible] def fl (n : Int) : UInt64 := Float64.ofFrac (decide (n < 0)) n.natAbs 32
theorem fl_def (n : Int) : fl n = Float64.ofFrac (decide (n < 0)) n.natAbs 32 := by unfold fl; rfl
theorem V_inj {s t : Nat} (h : V s = V t) : s = t := by
  rcases Nat.lt_trichotomy s t with k | k | k
  · exact absurd h (Nat.ne_of_lt (V_lt k))
  · exact k
  · exact absurd h.symm (Nat.ne_of_lt (V_lt k))
theorem V_rep {n : Nat} (h0 : 0 < n) (hn : n < 2 ^ 20) : ∃ t, t < infMag ∧ V t = n * 2 ^ 1069 := by
  have hl : n.log2 < 20 := (Nat.log2_lt (by omega)).mpr hn
  have h1 : 2 ^ n.log2 ≤ n := Nat.log2_self_le (by omega)
  have h2 : n < 2 ^ (n.log2 + 1) := Nat.lt_log2_self
  generalize n.log2 = l at *
  refine ⟨(1017 + l) * 2 ^ 52 + n * 2 ^ (52 - l), ?_, ?_⟩
  · have : n * 2 ^ (52 - l) < 2 ^ (l + 1) * 2 ^ (52 - l) := Nat.mul_lt_mul_of_pos_right h2 (Nat.two_pow_pos _)
    rw [← Nat.pow_add] at this
    have e : l + 1 + (52 - l) = 53 := by omega
    rw [e] at this
    unfold infMag
    omega
  · have e1 : n * 2 ^ (52 - l) ≤ 2 ^ 53 := by
      have : n * 2 ^ (52 - l) < 2 ^ (l + 1) * 2 ^ (52 - l) := Nat.mul_lt_mul_of_pos_right h2 (Nat.two_pow_pos _)
      rw [← Nat.pow_add] at this
      have e : l + 1 + (52 - l) = 53 := by omega
      rw [e] at this
      omega
    have e2 : 2 ^ 52 ≤ n * 2 ^ (52 - l) := by
      have : 2 ^ l * 2 ^ (52 - l) ≤ n * 2 ^ (52 - l) := Nat.mul_le_mul_right _ h1
      rw [← Nat.pow_add] at this
      have e : l + (52 - l) = 52 := by omega
      rwa [e] at this
    rw [V_at e1 (.inl e2), Nat.mul_assoc, ← Nat.pow_add]
    congr 2
    omega
theorem dist_zero {a b : Nat} (h : dist a b ≤ 0) : a = b := by unfold dist at h; omega
theorem right_exact {r : UInt64} {neg : Bool} {W D t : Nat} (hD : 0 < D) (h : Right r neg W D) (ht : t < infMag) (e : W = D * V t) : r = pack neg t := by
  obtain ⟨t', rfl, hle, hinf, hr⟩ := h
  have hlt : t' < infMag := by
    rcases Nat.lt_or_ge t' infMag with q | q
    · exact q
    · exfalso
      have q' : t' = infMag := by omega
      have := hinf.mp q'
      have hV : V t ≤ V (infMag - 1) := V_mono (by omega)
      have hVv : 2 * V (infMag - 1) < (2 ^ 54 - 1) * 2 ^ 2045 := by
        rw [show infMag - 1 = 2046 * 2 ^ 52 + (2 ^ 52 - 1) by unfold infMag; omega]
        unfold V
        decide +kernel
      have h3 : 2 * V t < (2 ^ 54 - 1) * 2 ^ 2045 := by omega
      generalize (2 ^ 54 - 1) * 2 ^ 2045 = Z at *
      rw [e, ← Nat.mul_assoc, Nat.mul_comm 2 D, Nat.mul_assoc] at this
      exact absurd (Nat.le_of_mul_le_mul_left this hD) (by omega)
  have := (hr hlt t).1
  rw [e] at this
  have z : dist (D * V t) (D * V t) = 0 := by unfold dist; omega
  rw [z] at this
  have := dist_zero this
  have := Nat.eq_of_mul_eq_mul_left hD this
  rw [V_inj this]
theorem fl_pack {n : Int} (hn : n.natAbs < 2 ^ 20) : ∃ t, t < infMag ∧ V t = n.natAbs * 2 ^ 1069 ∧ fl n = pack (decide (n < 0)) t := by
  rcases Nat.eq_zero_or_pos n.natAbs with h0 | h0
  · refine ⟨0, by unfold infMag; omega, by rw [V_zero, h0]; omega, ?_⟩
    have : n = 0 := by omega
    subst this
    rw [fl_def]
    decide +kernel
  · obtain ⟨t, h1, h2⟩ := V_rep h0 hn
    refine ⟨t, h1, h2, ?_⟩
    rw [fl_def]
    refine right_exact (W := n.natAbs * 2 ^ 1074) (D := 32) (by omega) (ofFrac_right (by omega) (by simp) (by omega)) h1 ?_
    rw [h2, show (1074 : Nat) = 5 + 1069 from rfl, Nat.pow_add]
    generalize (2 : Nat) ^ 1069 = K
    rw [show (2 : Nat) ^ 5 = 32 from rfl]
    ac_rfl
theorem fl_dec {n : Int} (hn : n.natAbs < 2 ^ 20) : ∃ m e, decode (fl n) = .fin (decide (n < 0)) m e ∧ val (fl n) = n * 2 ^ 1069 := by
  obtain ⟨t, h1, h2, h3⟩ := fl_pack hn
  obtain ⟨m, e, h4, h5⟩ := decode_pack (decide (n < 0)) h1
  refine ⟨m, e, by rw [h3, h4], ?_⟩
  rw [h3, val_pack _ h1, h2]
  unfold sgn
  have hpow : ((2 ^ 1069 : Nat) : Int) = (2 : Int) ^ 1069 := by simp
  by_cases hneg : n < 0
  · have : (n.natAbs : Int) = -n := by omega
    simp only [hneg, decide_true, if_true, Int.natCast_mul, this]
    rw [hpow]
    generalize (2 : Int) ^ 1069 = K
    rw [Int.neg_mul, Int.neg_neg]
  · have : (n.natAbs : Int) = n := by omega
    simp only [hneg, decide_false, Int.natCast_mul, this]
    rw [hpow]
    simp
theorem pow1069 : (0 : Int) < 2 ^ 1069 := by
  have : (0 : Int) < ((2 ^ 1069 : Nat) : Int) := Int.ofNat_lt.mpr (Nat.two_pow_pos _)
  simpa using this
theorem neg_iff (c : Int) : (c * 2 ^ 1069 < 0) ↔ c < 0 := by
  have hp := pow1069
  constructor
  · intro h
    rcases Int.lt_or_le c 0 with q | q
    · exact q
    · exact absurd h (Int.not_lt.mpr (Int.mul_nonneg q (Int.le_of_lt hp)))
  · intro h
    exact Int.mul_neg_of_neg_of_pos h hp
theorem zero_iff (c : Int) : (c * 2 ^ 1069 = 0) ↔ c = 0 := by
  have hp := pow1069
  constructor
  · intro h
    rcases Int.mul_eq_zero.mp h with q | q
    · exact q
    · exact absurd q (Int.ne_of_gt hp)
  · intro h; rw [h, Int.zero_mul]
theorem fl_of_right {r : UInt64} {c : Int} (hc : c.natAbs < 2 ^ 20) (h : Right r (decide (c * 2 ^ 1069 < 0)) (c * 2 ^ 1069).natAbs 1) : r = fl c := by
  obtain ⟨t, h1, h2, h3⟩ := fl_pack hc
  have e : decide (c * 2 ^ 1069 < 0) = decide (c < 0) := decide_eq_decide.mpr (neg_iff c)
  rw [e] at h
  have hK : (2 ^ 1069 : Int).natAbs = 2 ^ 1069 := by rw [Int.natAbs_pow]; rfl
  rw [h3, ← right_exact (by omega) h h1 (by rw [h2, Nat.one_mul, Int.natAbs_mul, hK])]
theorem fl_zero : fl 0 = 0 := by rw [fl_def]; decide +kernel
theorem fit_add {a b : Int} (ha : a.natAbs < 262144) (hb : b.natAbs < 262144) : (a + b).natAbs < 2 ^ 20 :=
  Nat.lt_of_le_of_lt (Int.natAbs_add_le a b) (Nat.lt_trans (Nat.add_lt_add ha hb) (by decide))
theorem fit_sub {a b : Int} (ha : a.natAbs < 262144) (hb : b.natAbs < 262144) : (a - b).natAbs < 2 ^ 20 :=
  Nat.lt_of_le_of_lt (Int.natAbs_sub_le a b) (Nat.lt_trans (Nat.add_lt_add ha hb) (by decide))
theorem fl_add {a b : Int} (ha : a.natAbs < 262144) (hb : b.natAbs < 262144) : add (fl a) (fl b) = fl (a + b) := by
  obtain ⟨m, e, h1, h2⟩ := fl_dec (n := a) (by omega)
  obtain ⟨k, f, h3, h4⟩ := fl_dec (n := b) (by omega)
  obtain ⟨q0, q1⟩ := add_right h1 h3
  rw [h2, h4, ← Int.add_mul] at q0 q1
  by_cases hz : a + b = 0
  · rw [q0 (by rw [hz, Int.zero_mul]), hz, fl_zero]
    have : (decide (a < 0) && decide (b < 0)) = false := by
      rw [Bool.and_eq_false_iff, decide_eq_false_iff_not, decide_eq_false_iff_not]; omega
    rw [this]; decide +kernel
  · exact fl_of_right (fit_add ha hb) (q1 fun h => hz ((zero_iff _).mp h))
theorem fl_sub {a b : Int} (ha : a.natAbs < 262144) (hb : b.natAbs < 262144) : sub (fl a) (fl b) = fl (a - b) := by
  obtain ⟨m, e, h1, h2⟩ := fl_dec (n := a) (by omega)
  obtain ⟨k, f, h3, h4⟩ := fl_dec (n := b) (by omega)
  obtain ⟨q0, q1⟩ := sub_right h1 h3
  rw [h2, h4, ← Int.sub_mul] at q0 q1
  by_cases hz : a - b = 0
  · rw [q0 (by rw [hz, Int.zero_mul]), hz, fl_zero]
    have : (decide (a < 0) && !decide (b < 0)) = false := by
      have : a = b := by omega
      subst this; simp
    rw [this]; decide +kernel
  · exact fl_of_right (fit_sub ha hb) (q1 fun h => hz ((zero_iff _).mp h))
theorem compare_scaled (a b K : Int) (hK : 0 < K) : compare (a * K) (b * K) = compare a b := by
  rcases Int.lt_trichotomy a b with h | h | h
  · rw [Int.compare_eq_lt.mpr h, Int.compare_eq_lt.mpr (Int.mul_lt_mul_of_pos_right h hK)]
  · subst h; simp
  · rw [Int.compare_eq_gt.mpr h, Int.compare_eq_gt.mpr (Int.mul_lt_mul_of_pos_right h hK)]
theorem fl_cmp {a b : Int} (ha : a.natAbs < 262144) (hb : b.natAbs < 262144) : cmp (fl a) (fl b) = some (compare a b) := by
  obtain ⟨m, e, h1, h2⟩ := fl_dec (n := a) (by omega)
  obtain ⟨k, f, h3, h4⟩ := fl_dec (n := b) (by omega)
  rw [cmp_right h1 h3, h2, h4, compare_scaled _ _ _ pow1069]
theorem fl_isZero {a : Int} (ha : a.natAbs < 262144) : isZero (fl a) = decide (a = 0) := by
  have h := fl_cmp ha (b := 0) (by omega)
  rw [fl_zero, PySem.Flt.cmp_zero_r] at h
  rw [PySem.Flt.isZero_eq, h]
  rcases Int.lt_trichotomy a 0 with q | q | q
  · rw [Int.compare_eq_lt.mpr q]; simp [Int.ne_of_lt q]
  · subst q; rfl
  · rw [Int.compare_eq_gt.mpr q]; simp [Int.ne_of_gt q]
end
-- small tables
theorem fl_two : ∀ a : Fin 31, Float64.mul 0x4000000000000000 (fl (a.val : Int)) = fl (2 * (a.val : Int)) := by decide +kernel
theorem fl_half : ∀ a : Fin 31, Float64.div (fl (2 * (a.val : Int))) 0x4000000000000000 = fl (a.val : Int) := by decide +kernel
theorem fl_16 : ∀ a : Fin 16, Float64.mul 0x4030000000000000 (fl (2 * (a.val : Int))) = fl (32 * (a.val : Int)) := by decide +kernel
theorem fl_of16 : ∀ a : Fin 16, Float64.ofFrac false a.val 16 = fl (2 * (a.val : Int)) := by decide +kernel
theorem fl_ofInt : ∀ a : Fin 16, Float64.ofInt (a.val : Int) = fl (32 * (a.val : Int)) := by decide +kernel

end
section
def FillG (_ : OpenLaw) (_ : Params → Frag) (P : Prop) : Prop := P
theorem fillG (l : OpenLaw) (K : Params → Frag) {P : Prop} (h : FillG l K P) : P := h
noncomputable abbrev L0 : List Str := looseW hd.view_39 [Str.ofString "COMPILER_FLAG_NAMES"]
def Room (dp un k : Nat) : Prop := dp + k < recursionLimit ∧ un + 16 * k < cLine
theorem Room.deep {dp un k k' : Nat} (h : Room dp un k) (e : k' + 1 ≤ k) : Room (dp + 1) (un + 3) k' := ⟨Nat.lt_of_le_of_lt (by omega) h.1, Nat.lt_of_le_of_lt (by omega) h.2⟩
theorem Room.lt {dp un k : Nat} (h : Room dp un k) : dp < recursionLimit := Nat.lt_of_le_of_lt (by omega) h.1
/-- the contract of the def at f: what it hands back and what the ledger holds behind -/
def Ctr (w : World) (k : Nat) (f : Addr) (vs : List Value) (news : List (Addr × Obj)) (Post : Value → List (Addr × Obj) → Prop) : Prop :=
  ∀ (mean : ExcName → Option Value) (mg mb : Str → Option Value) (dp un : Nat) (gd : Option (List Code)) (cn : Str) (cs : Scope) (a : Addr) (ccd : Value) (cl : List (Str × Addr)) (outer : List Env) (A₀ : Around) (base h₀ : Heap) (L : Addr) (m : Str → Option Value) (s : Shared) (Q E : Value → Shared → Prop),
    Below A₀ base outer h₀ → Fr h₀ L s.heap m → (hd.heap_39 w.params).In h₀ → News h₀ L s.heap news → Top hd.view_39 L0 mean mg mb h₀ → cs.kind = .function → Room dp un k →
    (∀ r news' h' tk', Fr h₀ L h' m → News h₀ L h' news' → Post r news' → Q r { s with heap := h', toks := tk' }) →
    wpAny (model PySem.Challenge.rw_tr0025_01.row.prog w) (ktrTop dp un gd cn cs L a ccd cl outer) (call (.ref f) vs) Q E s
theorem ctr_use {w : World} {k : Nat} {f : Addr} {vs : List Value} {news : List (Addr × Obj)} {Post : Value → List (Addr × Obj) → Prop} (C : Ctr w k f vs news Post)
    {mean : ExcName → Option Value} {mg mb : Str → Option Value} {dp un : Nat} {gd : Option (List Code)} {cn : Str} {cs : Scope} {a : Addr} {ccd : Value} {cl : List (Str × Addr)} {outer : List Env} {A₀ : Around} {base h₀ : Heap} {L : Addr} {m : Str → Option Value} {s : Shared} {Q E : Value → Shared → Prop}
    (B : Below A₀ base outer h₀) (F : Fr h₀ L s.heap m) (X : (hd.heap_39 w.params).In h₀) (N : News h₀ L s.heap news) (T : Top hd.view_39 L0 mean mg mb h₀) (hk : cs.kind = .function) (hr : Room dp un k)
    (ret : ∀ r news' h' tk', Fr h₀ L h' m → News h₀ L h' news' → Post r news' → Q r { s with heap := h', toks := tk' }) :
    wpAny (model PySem.Challenge.rw_tr0025_01.row.prog w) (ktrTop dp un gd cn cs L a ccd cl outer) (call (.ref f) vs) Q E s := C _ _ _ _ _ _ _ _ _ _ _ _ _ _ _ _ _ _ _ _ B F X N T hk hr ret

-- float steps
theorem lit_0 : (0x0 : UInt64) = fl 0 := fl_zero.symm
theorem lit_05 : (0x3fe0000000000000 : UInt64) = fl 16 := by rw [fl_def]; decide +kernel
theorem lit_1 : (0x3ff0000000000000 : UInt64) = fl 32 := by rw [fl_def]; decide +kernel
theorem lit_2 : (0x4000000000000000 : UInt64) = fl 64 := by rw [fl_def]; decide +kernel
theorem lit_6 : (0x4018000000000000 : UInt64) = fl 192 := by rw [fl_def]; decide +kernel
theorem mz_0 : Float64.mul 0x3fee4cdbef721b32 0 = fl 0 := by rw [fl_def]; decide +kernel
theorem mz_1 : Float64.mul 0x3fe3f42ceedac0be 0 = fl 0 := by rw [fl_def]; decide +kernel
theorem mz_2 : Float64.mul 0x3fd1961eec8cbb3a 0 = fl 0 := by rw [fl_def]; decide +kernel
theorem mz_3 : Float64.mul 0x3fe45794d16efff3 0 = fl 0 := by rw [fl_def]; decide +kernel
theorem mz_4 : Float64.mul 0x3ff1bc99b7dee436 0 = fl 0 := by rw [fl_def]; decide +kernel
theorem mz_5 : Float64.mul 0x3ffb5817a6224a7f 0 = fl 0 := by rw [fl_def]; decide +kernel
section
variable {prog : Program} {w : World} {A : Around} {E Q : Value → Shared → Prop} {s : Shared} {x y : UInt64} {a b : Int} {t u : Tok}
theorem s_add (hx : x = fl a) (hy : y = fl b) (h : a.natAbs < 262144 ∧ b.natAbs < 262144) (k : ∀ t, Q (.float (fl (a + b)) t) { s with toks := s.toks + 1 }) : wpAny (model prog w) A (binaryOp .Add (.float x t) (.float y u)) Q E s := by
  subst hx hy; refine add_float ?_; rw [fl_add h.1 h.2]; exact k _
theorem s_sub (hx : x = fl a) (hy : y = fl b) (h : a.natAbs < 262144 ∧ b.natAbs < 262144) (k : ∀ t, Q (.float (fl (a - b)) t) { s with toks := s.toks + 1 }) : wpAny (model prog w) A (binaryOp .Sub (.float x t) (.float y u)) Q E s := by
  subst hx hy; refine sub_float ?_; rw [fl_sub h.1 h.2]; exact k _
theorem s_add0 (hx : x = fl a) (hy : y = fl 0) (h : a.natAbs < 262144) (k : ∀ t, Q (.float (fl a) t) { s with toks := s.toks + 1 }) : wpAny (model prog w) A (binaryOp .Add (.float x t) (.float y u)) Q E s := by
  refine s_add hx hy ⟨h, by decide⟩ ?_; rw [Int.add_zero]; exact k
theorem s_sub0 (hx : x = fl a) (hy : y = fl 0) (h : a.natAbs < 262144) (k : ∀ t, Q (.float (fl a) t) { s with toks := s.toks + 1 }) : wpAny (model prog w) A (binaryOp .Sub (.float x t) (.float y u)) Q E s := by
  refine s_sub hx hy ⟨h, by decide⟩ ?_; rw [Int.sub_zero]; exact k
theorem s_div (hA : A.handled = none) (hy : y = fl b) (h : b.natAbs < 262144 ∧ b ≠ 0) (k : ∀ t, Q (.float (Float64.div x (fl b)) t) { s with toks := s.toks + 1 }) : wpAny (model prog w) A (binaryOp .Div (.float x t) (.float y u)) Q E s := by
  subst hy
  have hz : ¬ Float64.isZero (fl b) = true := by rw [fl_isZero h.1]; simpa using h.2
  exact truediv_float_or hA (fun q => absurd q hz) (fun _ => k _)
theorem s_mod (hA : A.handled = none) (hy : y = fl b) (h : b.natAbs < 262144 ∧ b ≠ 0) (k : ∀ z t, Q (.float z t) { s with toks := s.toks + 1 }) : wpAny (model prog w) A (binaryOp .Mod (.float x t) (.float y u)) Q E s := by
  subst hy
  have hz : ¬ Float64.isZero (fl b) = true := by rw [fl_isZero h.1]; simpa using h.2
  exact PySem.Flt.mod_ff hA (fun q => absurd q hz) (fun _ => k _ _)
theorem s_half (hA : A.handled = none) (hx : x = fl a) (hy : y = fl 64) (h : 0 ≤ a ∧ a ≤ 60 ∧ a % 2 = 0) (k : ∀ t, Q (.float (fl (a / 2)) t) { s with toks := s.toks + 1 }) : wpAny (model prog w) A (binaryOp .Div (.float x t) (.float y u)) Q E s := by
  refine s_div hA hy (by omega) fun t => ?_
  have e := fl_half ⟨(a / 2).toNat, by omega⟩
  have e1 : ((a / 2).toNat : Int) = a / 2 := Int.toNat_of_nonneg (by omega)
  have e2 : 2 * (a / 2) = a := by omega
  simp only [e1, e2] at e
  rw [hx, ← lit_2, e]
  exact k _
theorem s_two (hx : x = fl 64) (hy : y = fl a) (h : 0 ≤ a ∧ a ≤ 30) (k : ∀ t, Q (.float (fl (2 * a)) t) { s with toks := s.toks + 1 }) : wpAny (model prog w) A (binaryOp .Mult (.float x t) (.float y u)) Q E s := by
  refine mul_float ?_
  have e := fl_two ⟨a.toNat, by omega⟩
  have e1 : (a.toNat : Int) = a := Int.toNat_of_nonneg (by omega)
  simp only [e1] at e
  rw [hx, hy, ← lit_2, e]
  exact k _
theorem s_16 (hx : x = 0x4030000000000000) (hy : y = fl a) (h : 0 ≤ a ∧ a ≤ 30 ∧ a % 2 = 0) (k : ∀ t, Q (.float (fl (16 * a)) t) { s with toks := s.toks + 1 }) : wpAny (model prog w) A (binaryOp .Mult (.float x t) (.float y u)) Q E s := by
  refine mul_float ?_
  have e := fl_16 ⟨(a / 2).toNat, by omega⟩
  have e1 : ((a / 2).toNat : Int) = a / 2 := Int.toNat_of_nonneg (by omega)
  have e2 : 2 * (a / 2) = a := by omega
  have e3 : 32 * (a / 2) = 16 * a := by omega
  simp only [e1, e2, e3] at e
  rw [hx, hy, e]
  exact k _
theorem s_subint {n : Int} (hx : x = fl a) (h : a.natAbs < 262144 ∧ 0 ≤ n ∧ n ≤ 15) (k : ∀ t, Q (.float (fl (a - 32 * n)) t) { s with toks := s.toks + 1 }) : wpAny (model prog w) A (binaryOp .Sub (.float x t) (.int n u)) Q E s := by
  refine sub_fi_fits (by omega) ?_
  have e := fl_ofInt ⟨n.toNat, by omega⟩
  have e1 : (n.toNat : Int) = n := Int.toNat_of_nonneg (by omega)
  simp only [e1] at e
  rw [hx, e, fl_sub h.1 (by omega)]
  exact k _
theorem s_mulint {n : Int} (hn : n = 16) (hy : y = fl a) (h : 0 ≤ a ∧ a ≤ 30 ∧ a % 2 = 0) (k : ∀ t, Q (.float (fl (16 * a)) t) { s with toks := s.toks + 1 }) : wpAny (model prog w) A (binaryOp .Mult (.int n u) (.float y t)) Q E s := by
  refine mul_if_fits (by omega) ?_
  have e := fl_16 ⟨(a / 2).toNat, by omega⟩
  have e1 : ((a / 2).toNat : Int) = a / 2 := Int.toNat_of_nonneg (by omega)
  have e2 : 2 * (a / 2) = a := by omega
  have e3 : 32 * (a / 2) = 16 * a := by omega
  simp only [e1, e2, e3] at e
  have e4 : Float64.ofInt 16 = 0x4030000000000000 := by decide +kernel
  rw [hn, hy, e4, e]
  exact k _
theorem s_divint {n k' : Int} (hA : A.handled = none) (hk : k' = 16) (h : 0 ≤ n ∧ n ≤ 15) (k : ∀ t, Q (.float (fl (2 * n)) t) { s with toks := s.toks + 1 }) : wpAny (model prog w) A (binaryOp .Div (.int n t) (.int k' u)) Q E s := by
  subst hk
  refine PySem.Flt.div_ii_fits hA (by omega) (fun q => absurd q (by decide)) fun _ _ => ?_
  have e := fl_of16 ⟨n.toNat, by omega⟩
  have e1 : (n.toNat : Int) = n := Int.toNat_of_nonneg (by omega)
  simp only [e1] at e
  have e2 : (decide (n < 0) != decide ((16 : Int) < 0)) = false := by
    rw [decide_eq_false (by omega : ¬ n < 0)]; rfl
  have e3 : n.natAbs = n.toNat := by omega
  rw [e2, e3, show Int.natAbs 16 = 16 from rfl, e]
  exact k _
theorem s_mulz (hz : Float64.mul x y = fl 0) (k : ∀ t, Q (.float (fl 0) t) { s with toks := s.toks + 1 }) : wpAny (model prog w) A (binaryOp .Mult (.float x t) (.float y u)) Q E s := by
  refine mul_float ?_; rw [hz]; exact k _
theorem cmp_lt {a b : Int} (ha : a.natAbs < 262144) (hb : b.natAbs < 262144) : (Float64.cmp (fl a) (fl b) == some .lt) = decide (a < b) := by
  rw [fl_cmp ha hb]
  rcases Int.lt_trichotomy a b with q | q | q
  · rw [Int.compare_eq_lt.mpr q]; simp [q]
  · subst q; simp
  · rw [Int.compare_eq_gt.mpr q]; simp [Int.not_lt.mpr (Int.le_of_lt q)]
theorem cmp_gt {a b : Int} (ha : a.natAbs < 262144) (hb : b.natAbs < 262144) : (Float64.cmp (fl a) (fl b) == some .gt) = decide (b < a) := by
  rw [fl_cmp ha hb]
  rcases Int.lt_trichotomy a b with q | q | q
  · rw [Int.compare_eq_lt.mpr q]; simp [Int.not_lt.mpr (Int.le_of_lt q)]
  · subst q; simp
  · rw [Int.compare_eq_gt.mpr q]; simp [q]
theorem cmp_eq {a b : Int} (ha : a.natAbs < 262144) (hb : b.natAbs < 262144) : (Float64.cmp (fl a) (fl b) == some .eq) = decide (a = b) := by
  rw [fl_cmp ha hb]
  rcases Int.lt_trichotomy a b with q | q | q
  · rw [Int.compare_eq_lt.mpr q]; simp [Int.ne_of_lt q]
  · subst q; simp
  · rw [Int.compare_eq_gt.mpr q]; simp [Int.ne_of_gt q]
theorem s_lt (hx : x = fl a) (hy : y = fl b) (h : a.natAbs < 262144 ∧ b.natAbs < 262144) (k1 : a < b → Q (.bool true) s) (k0 : ¬ a < b → Q (.bool false) s) : wpAny (model prog w) A (compareOp .Lt (.float x t) (.float y u)) Q E s := by
  subst hx hy; refine AutoFloatOps.lt_0 ?_; rw [cmp_lt h.1 h.2]
  by_cases q : a < b
  · rw [decide_eq_true q]; exact k1 q
  · rw [decide_eq_false q]; exact k0 q
theorem s_gt (hx : x = fl a) (hy : y = fl b) (h : a.natAbs < 262144 ∧ b.natAbs < 262144) (k1 : b < a → Q (.bool true) s) (k0 : ¬ b < a → Q (.bool false) s) : wpAny (model prog w) A (compareOp .Gt (.float x t) (.float y u)) Q E s := by
  subst hx hy; refine AutoFloatOps.gt_0 ?_; rw [cmp_gt h.1 h.2]
  by_cases q : b < a
  · rw [decide_eq_true q]; exact k1 q
  · rw [decide_eq_false q]; exact k0 q
theorem s_eq (hx : x = fl a) (hy : y = fl b) (h : a.natAbs < 262144 ∧ b.natAbs < 262144) (k1 : a = b → Q (.bool true) s) (k0 : ¬ a = b → Q (.bool false) s) : wpAny (model prog w) A (compareOp .Eq (.float x t) (.float y u)) Q E s := by
  subst hx hy; refine AutoFloatOps.eq_0 ?_; rw [cmp_eq h.1 h.2]
  by_cases q : a = b
  · rw [decide_eq_true q]; exact k1 q
  · rw [decide_eq_false q]; exact k0 q
theorem s_ne (hx : x = fl a) (hy : y = fl b) (h : a.natAbs < 262144 ∧ b.natAbs < 262144) (k1 : ¬ a = b → Q (.bool true) s) (k0 : a = b → Q (.bool false) s) : wpAny (model prog w) A (compareOp .NotEq (.float x t) (.float y u)) Q E s := by
  subst hx hy; refine AutoFloatOps.ne_0 ?_; rw [show (Float64.cmp (fl a) (fl b) != some .eq) = !(Float64.cmp (fl a) (fl b) == some .eq) from rfl, cmp_eq h.1 h.2]
  by_cases q : a = b
  · rw [decide_eq_true q]; exact k0 q
  · rw [decide_eq_false q]; exact k1 q
theorem s_le (hx : x = fl a) (hy : y = fl b) (h : a.natAbs < 262144 ∧ b.natAbs < 262144) (k1 : a ≤ b → Q (.bool true) s) (k0 : ¬ a ≤ b → Q (.bool false) s) : wpAny (model prog w) A (compareOp .LtE (.float x t) (.float y u)) Q E s := by
  subst hx hy; refine AutoFloatOps.le_0 ?_; rw [cmp_eq h.1 h.2, cmp_lt h.1 h.2]
  by_cases q : a ≤ b
  · rw [show (decide (a < b) || decide (a = b)) = true by simp; omega]; exact k1 q
  · rw [show (decide (a < b) || decide (a = b)) = false by simp; omega]; exact k0 q
end
abbrev tup3 (a b c : Value) : Obj := { cls := .type "tuple", data := .seq #[a, b, c] }

section
open PySem.Flt
variable {prog : Program} {w : World} {A : Around} {E Q : Value → Shared → Prop} {s : Shared} {h₀ : Heap} {L : Addr} {m : Str → Option Value} {news : List (Addr × Obj)} {a b c : Int} {t u v : Tok}
theorem ltV_fl {a b : Int} {t u : Tok} (ha : a.natAbs < 262144) (hb : b.natAbs < 262144) : ltV (.float (fl a) t) (.float (fl b) u) = decide (a < b) := cmp_lt ha hb
theorem max3_fl (hh : A.handled = none) (F : Fr h₀ L s.heap m) (N : News h₀ L s.heap news) (ha : a.natAbs < 262144) (hb : b.natAbs < 262144) (hc : c.natAbs < 262144)
    (h : ∀ h' tk t, Fr h₀ L h' m → News h₀ L h' news → Q (.float (fl (max (max a b) c)) t) { s with heap := h', toks := tk }) :
    wpAny (model prog w) A (call (.builtin "max") [.float (fl a) t, .float (fl b) u, .float (fl c) v]) Q E s := by
  have hT : (s.heap.push { cls := .type "tuple", data := .seq #[.float (fl a) t, .float (fl b) u, .float (fl c) v] }).IsTuple s.heap.objs.size #[.float (fl a) t, .float (fl b) u, .float (fl c) v] := ⟨_, Heap.get?_push_size _ rfl, rfl, 0, rfl⟩
  refine call_max_three (wpAny_pyIter_tuple hT ?_)
  have hsz : (s.heap.push { cls := .type "tuple", data := .seq #[.float (fl a) t, .float (fl b) u, .float (fl c) v] }).objs.size = s.heap.objs.size + 1 := Heap.size_push ..
  refine ⟨_, [_, s.heap.objs.size], [_], _, _, _, _, rfl, Walks.tuple (A := A.in1) hh _ s.heap.objs.size (by rw [hsz]; exact Nat.ne_of_lt (Nat.lt_succ_self _)) #[.float (fl a) t, .float (fl b) u, .float (fl c) v],
    ⟨⟨_, Heap.get?_push_size _ rfl, rfl, rfl⟩, hT.push _⟩, fun d hd => ?_, by simp, cmpOf_gt #[.float (fl a) t, .float (fl b) u, .float (fl c) v] (by simp [NumV.float]), fun x h' tk hP hk => ?_⟩
  · show d < ((s.heap.push _).push _).objs.size
    rw [Heap.size_push, hsz]
    simp only [List.mem_cons, List.not_mem_nil, or_false] at hd
    rcases hd with e | e
    · rw [hsz] at e; rw [e]; exact Nat.lt_succ_self _
    · rw [e]; exact Nat.lt_succ_of_lt (Nat.lt_succ_self _)
  · have kp : ∀ d o, s.heap.get? d = some o → h'.get? d = some o := fun d o e => by
      have hl := Heap.lt_size e
      refine hk d o (fun hm => ?_) (Heap.get?_push_of_some _ (Heap.get?_push_of_some _ e))
      simp only [List.mem_cons, List.not_mem_nil, or_false] at hm
      rw [hm, hsz] at hl; exact Nat.lt_irrefl _ (Nat.lt_of_succ_lt hl)
    have fin : ∃ t, x = .float (fl (max (max a b) c)) t := by
      by_cases q1 : a < b
      · by_cases q2 : b < c
        · simp [argBest, ltV_fl ha hb, ltV_fl hb hc, q1, q2] at hP
          exact ⟨v, by rw [← hP, Int.max_eq_right (Int.le_of_lt q1), Int.max_eq_right (Int.le_of_lt q2)]⟩
        · simp [argBest, ltV_fl ha hb, ltV_fl hb hc, q1, q2] at hP
          exact ⟨u, by rw [← hP, Int.max_eq_right (Int.le_of_lt q1), Int.max_eq_left (Int.not_lt.mp q2)]⟩
      · by_cases q2 : a < c
        · simp [argBest, ltV_fl ha hb, ltV_fl ha hc, q1, q2] at hP
          exact ⟨v, by rw [← hP, Int.max_eq_left (Int.not_lt.mp q1), Int.max_eq_right (Int.le_of_lt q2)]⟩
        · simp [argBest, ltV_fl ha hb, ltV_fl ha hc, q1, q2] at hP
          exact ⟨t, by rw [← hP, Int.max_eq_left (Int.not_lt.mp q1), Int.max_eq_left (Int.not_lt.mp q2)]⟩
    obtain ⟨t', e⟩ := fin
    rw [e]; exact h h' tk t' (F.grownK kp) (N.grown kp)
theorem min3_fl (hh : A.handled = none) (F : Fr h₀ L s.heap m) (N : News h₀ L s.heap news) (ha : a.natAbs < 262144) (hb : b.natAbs < 262144) (hc : c.natAbs < 262144)
    (h : ∀ h' tk t, Fr h₀ L h' m → News h₀ L h' news → Q (.float (fl (min (min a b) c)) t) { s with heap := h', toks := tk }) :
    wpAny (model prog w) A (call (.builtin "min") [.float (fl a) t, .float (fl b) u, .float (fl c) v]) Q E s := by
  have hT : (s.heap.push { cls := .type "tuple", data := .seq #[.float (fl a) t, .float (fl b) u, .float (fl c) v] }).IsTuple s.heap.objs.size #[.float (fl a) t, .float (fl b) u, .float (fl c) v] := ⟨_, Heap.get?_push_size _ rfl, rfl, 0, rfl⟩
  refine call_min_three (wpAny_pyIter_tuple hT ?_)
  have hsz : (s.heap.push { cls := .type "tuple", data := .seq #[.float (fl a) t, .float (fl b) u, .float (fl c) v] }).objs.size = s.heap.objs.size + 1 := Heap.size_push ..
  refine ⟨_, [_, s.heap.objs.size], [_], _, _, _, _, rfl, Walks.tuple (A := A.in1) hh _ s.heap.objs.size (by rw [hsz]; exact Nat.ne_of_lt (Nat.lt_succ_self _)) #[.float (fl a) t, .float (fl b) u, .float (fl c) v],
    ⟨⟨_, Heap.get?_push_size _ rfl, rfl, rfl⟩, hT.push _⟩, fun d hd => ?_, by simp, cmpOf_lt #[.float (fl a) t, .float (fl b) u, .float (fl c) v] (by simp [NumV.float]), fun x h' tk hP hk => ?_⟩
  · show d < ((s.heap.push _).push _).objs.size
    rw [Heap.size_push, hsz]
    simp only [List.mem_cons, List.not_mem_nil, or_false] at hd
    rcases hd with e | e
    · rw [hsz] at e; rw [e]; exact Nat.lt_succ_self _
    · rw [e]; exact Nat.lt_succ_of_lt (Nat.lt_succ_self _)
  · have kp : ∀ d o, s.heap.get? d = some o → h'.get? d = some o := fun d o e => by
      have hl := Heap.lt_size e
      refine hk d o (fun hm => ?_) (Heap.get?_push_of_some _ (Heap.get?_push_of_some _ e))
      simp only [List.mem_cons, List.not_mem_nil, or_false] at hm
      rw [hm, hsz] at hl; exact Nat.lt_irrefl _ (Nat.lt_of_succ_lt hl)
    have fin : ∃ t, x = .float (fl (min (min a b) c)) t := by
      by_cases q1 : b < a
      · by_cases q2 : c < b
        · simp [argBest, ltV_fl hb ha, ltV_fl hc hb, q1, q2] at hP
          exact ⟨v, by rw [← hP, Int.min_eq_right (Int.le_of_lt q1), Int.min_eq_right (Int.le_of_lt q2)]⟩
        · simp [argBest, ltV_fl hb ha, ltV_fl hc hb, q1, q2] at hP
          exact ⟨u, by rw [← hP, Int.min_eq_right (Int.le_of_lt q1), Int.min_eq_left (Int.not_lt.mp q2)]⟩
      · by_cases q2 : c < a
        · simp [argBest, ltV_fl hb ha, ltV_fl hc ha, q1, q2] at hP
          exact ⟨v, by rw [← hP, Int.min_eq_left (Int.not_lt.mp q1), Int.min_eq_right (Int.le_of_lt q2)]⟩
        · simp [argBest, ltV_fl hb ha, ltV_fl hc ha, q1, q2] at hP
          exact ⟨t, by rw [← hP, Int.min_eq_left (Int.not_lt.mp q1), Int.min_eq_left (Int.not_lt.mp q2)]⟩
    obtain ⟨t', e⟩ := fin
    rw [e]; exact h h' tk t' (F.grownK kp) (N.grown kp)
end

@[irreducible] def lo3 (a b c : Int) : Int := min (min a b) c
@[irreducible] def hi3 (a b c : Int) : Int := max (max a b) c
theorem mxc (a b : Int) : max a b = a ∨ max a b = b := by
  rcases Int.le_total a b with h | h
  · exact .inr (Int.max_eq_right h)
  · exact .inl (Int.max_eq_left h)
theorem mnc (a b : Int) : min a b = a ∨ min a b = b := by
  rcases Int.le_total a b with h | h
  · exact .inl (Int.min_eq_left h)
  · exact .inr (Int.min_eq_right h)
theorem mid_in {a b c l h : Int} (la : l ≤ a) (lb : l ≤ b) (lc : l ≤ c) (ah : a ≤ h) (bh : b ≤ h) (ch : c ≤ h) (hh : h = a ∨ h = b ∨ h = c) (hl : l = a ∨ l = b ∨ l = c) : a + b + c - h - l ≤ h ∧ l ≤ a + b + c - h - l := by omega
theorem lohi {a b c m M : Int} (ha : m ≤ a ∧ a ≤ M) (hb : m ≤ b ∧ b ≤ M) (hc : m ≤ c ∧ c ≤ M) : m ≤ lo3 a b c ∧ lo3 a b c ≤ hi3 a b c ∧ hi3 a b c ≤ M ∧ lo3 a b c ≤ a ∧ lo3 a b c ≤ b ∧ lo3 a b c ≤ c ∧ a ≤ hi3 a b c ∧ b ≤ hi3 a b c ∧ c ≤ hi3 a b c ∧ a + b + c - hi3 a b c - lo3 a b c ≤ hi3 a b c ∧ lo3 a b c ≤ a + b + c - hi3 a b c - lo3 a b c := by
  have la : lo3 a b c ≤ a := by unfold lo3; exact Int.le_trans (Int.min_le_left ..) (Int.min_le_left ..)
  have lb : lo3 a b c ≤ b := by unfold lo3; exact Int.le_trans (Int.min_le_left ..) (Int.min_le_right ..)
  have lc : lo3 a b c ≤ c := by unfold lo3; exact Int.min_le_right ..
  have ah : a ≤ hi3 a b c := by unfold hi3; exact Int.le_trans (Int.le_max_left ..) (Int.le_max_left ..)
  have bh : b ≤ hi3 a b c := by unfold hi3; exact Int.le_trans (Int.le_max_right ..) (Int.le_max_left ..)
  have ch : c ≤ hi3 a b c := by unfold hi3; exact Int.le_max_right ..
  refine ⟨by unfold lo3; exact Int.le_min.mpr ⟨Int.le_min.mpr ⟨ha.1, hb.1⟩, hc.1⟩, Int.le_trans la ah, by unfold hi3; exact Int.max_le.mpr ⟨Int.max_le.mpr ⟨ha.2, hb.2⟩, hc.2⟩, la, lb, lc, ah, bh, ch, ?_⟩
  have hh : hi3 a b c = a ∨ hi3 a b c = b ∨ hi3 a b c = c := by
    unfold hi3
    rcases mxc (max a b) c with e | e <;> rw [e]
    · rcases mxc a b with e | e <;> rw [e]
      · exact .inl rfl
      · exact .inr (.inl rfl)
    · exact .inr (.inr rfl)
  have hl : lo3 a b c = a ∨ lo3 a b c = b ∨ lo3 a b c = c := by
    unfold lo3
    rcases mnc (min a b) c with e | e <;> rw [e]
    · rcases mnc a b with e | e <;> rw [e]
      · exact .inl rfl
      · exact .inr (.inl rfl)
    · exact .inr (.inr rfl)
  exact mid_in la lb lc ah bh ch hh hl
theorem mx2 (a b : Int) : max (2 * a) (2 * b) = 2 * max a b := by
  rcases Int.le_total a b with h | h
  · rw [Int.max_eq_right h, Int.max_eq_right (Int.mul_le_mul_of_nonneg_left h (by decide))]
  · rw [Int.max_eq_left h, Int.max_eq_left (Int.mul_le_mul_of_nonneg_left h (by decide))]
theorem mn2 (a b : Int) : min (2 * a) (2 * b) = 2 * min a b := by
  rcases Int.le_total a b with h | h
  · rw [Int.min_eq_left h, Int.min_eq_left (Int.mul_le_mul_of_nonneg_left h (by decide))]
  · rw [Int.min_eq_right h, Int.min_eq_right (Int.mul_le_mul_of_nonneg_left h (by decide))]
theorem bd2 {a : Int} (h : 0 ≤ a ∧ a ≤ 16) : (2 * a).natAbs ≤ 32 := by omega
theorem bd3 {a : Int} (h : 0 ≤ a ∧ a ≤ 16) : (2 * a).natAbs < 262144 := Nat.lt_of_le_of_lt (bd2 h) (by decide)
theorem max3_hi {prog : Program} {w : World} {A : Around} {E Q : Value → Shared → Prop} {s : Shared} {h₀ : Heap} {L : Addr} {m : Str → Option Value} {news : List (Addr × Obj)} {a b c : Int} {t u v : Tok} (hh : A.handled = none) (F : Fr h₀ L s.heap m) (N : News h₀ L s.heap news) (ha : 0 ≤ a ∧ a ≤ 16) (hb : 0 ≤ b ∧ b ≤ 16) (hc : 0 ≤ c ∧ c ≤ 16)
    (h : ∀ h' tk t, Fr h₀ L h' m → News h₀ L h' news → Q (.float (fl (2 * hi3 a b c)) t) { s with heap := h', toks := tk }) :
    wpAny (model prog w) A (call (.builtin "max") [.float (fl (2 * a)) t, .float (fl (2 * b)) u, .float (fl (2 * c)) v]) Q E s := by
  have e : max (max (2 * a) (2 * b)) (2 * c) = 2 * hi3 a b c := by unfold hi3; rw [mx2, mx2]
  exact max3_fl hh F N (bd3 ha) (bd3 hb) (bd3 hc) (e ▸ h)
theorem min3_lo {prog : Program} {w : World} {A : Around} {E Q : Value → Shared → Prop} {s : Shared} {h₀ : Heap} {L : Addr} {m : Str → Option Value} {news : List (Addr × Obj)} {a b c : Int} {t u v : Tok} (hh : A.handled = none) (F : Fr h₀ L s.heap m) (N : News h₀ L s.heap news) (ha : 0 ≤ a ∧ a ≤ 16) (hb : 0 ≤ b ∧ b ≤ 16) (hc : 0 ≤ c ∧ c ≤ 16)
    (h : ∀ h' tk t, Fr h₀ L h' m → News h₀ L h' news → Q (.float (fl (2 * lo3 a b c)) t) { s with heap := h', toks := tk }) :
    wpAny (model prog w) A (call (.builtin "min") [.float (fl (2 * a)) t, .float (fl (2 * b)) u, .float (fl (2 * c)) v]) Q E s := by
  have e : min (min (2 * a) (2 * b)) (2 * c) = 2 * lo3 a b c := by unfold lo3; rw [mn2, mn2]
  exact min3_fl hh F N (bd3 ha) (bd3 hb) (bd3 hc) (e ▸ h)
theorem bsub {a b : Int} {i j : Nat} (ha : a.natAbs ≤ i) (hb : b.natAbs ≤ j) : (a - b).natAbs ≤ i + j := Nat.le_trans (Int.natAbs_sub_le a b) (Nat.add_le_add ha hb)
theorem badd {a b : Int} {i j : Nat} (ha : a.natAbs ≤ i) (hb : b.natAbs ≤ j) : (a + b).natAbs ≤ i + j := Nat.le_trans (Int.natAbs_add_le a b) (Nat.add_le_add ha hb)
theorem bfit {a b : Int} {i j : Nat} (ha : a.natAbs ≤ i) (hb : b.natAbs ≤ j) (h : i < 262144 ∧ j < 262144) : a.natAbs < 262144 ∧ b.natAbs < 262144 := ⟨Nat.lt_of_le_of_lt ha h.1, Nat.lt_of_le_of_lt hb h.2⟩
theorem up16 {a : Int} (h : 0 ≤ a ∧ a ≤ 15) : 0 ≤ a ∧ a ≤ 16 := ⟨h.1, Int.le_trans h.2 (by decide)⟩
/-- the least and the greatest of three, as bounds -/
theorem lohiB {a b c : Int} (ha : 0 ≤ a ∧ a ≤ 16) (hb : 0 ≤ b ∧ b ≤ 16) (hc : 0 ≤ c ∧ c ≤ 16) : (0 ≤ lo3 a b c ∧ lo3 a b c ≤ hi3 a b c ∧ hi3 a b c ≤ 16) ∧ (2 * hi3 a b c).natAbs ≤ 32 ∧ (2 * lo3 a b c).natAbs ≤ 32 := by
  obtain ⟨h0, h1, h2, _⟩ := lohi ha hb hc
  exact ⟨⟨h0, h1, h2⟩, bd2 ⟨Int.le_trans h0 h1, h2⟩, bd2 ⟨h0, Int.le_trans h1 h2⟩⟩
theorem lohi15 {a b c : Int} (ha : 0 ≤ a ∧ a ≤ 15) (hb : 0 ≤ b ∧ b ≤ 15) (hc : 0 ≤ c ∧ c ≤ 15) : hi3 a b c ≤ 15 := (lohi ha hb hc).2.2.1
section
variable {prog : Program} {w : World} {A : Around} {E Q : Value → Shared → Prop} {s : Shared} {h₀ : Heap} {L D : Addr} {news : List (Addr × Obj)}
theorem s_item {its : Array Value} {n : Nat} {k : Int} {v : Value} {u : Tok} {value slice : PySem.Expr} (N : News h₀ L s.heap news) (hm : (D, listOf its n) ∈ news) (h0 : 0 ≤ k ∧ k < 2 ^ 63) (hx : its.toList[k.toNat]? = some v) (h : Q v s)
    (hs : subscripted slice false (.ref D) (.int k u) = operate [.ref D, .int k u] (getItem (.ref D) (.int k u)) := by with_unfolding_all rfl) : wpAny (model prog w) A (subscriptTail value slice (.ref D) (.int k u)) Q E s :=
  tail_any (N.isList hm).typeIs slot_list_getitem.lookup (wpAny_getItem_list (N.isList hm) h0.1 h0.2 (by rw [← Array.getElem?_toList]; exact hx) h) hs
end
theorem ltn {D a : Nat} {o : Obj} {l : List (Addr × Obj)} (h : ∀ p ∈ l, p.1 < D) (hm : (a, o) ∈ l) : a ≠ D := Nat.ne_of_lt (h _ hm)
/-- a branching that stores one float under one name: what follows is walked once -/
theorem joinIf {prog : Program} {w : World} {A : Around} {env : Env} {Q : Flow → Shared → Prop} {E : Value → Shared → Prop} {hp : Heap} {gs : Array GenState} {dr : Drawn} {tk0 : Nat} {os : OsState} {h₀ : Heap} {L : Addr} {m : Str → Option Value} {news : List (Addr × Obj)} {c e : Expr} {x : Str} {px pa pi : Pos} {el rest : List Stmt} {r1 : Stmt}
    (F : Fr h₀ L hp m) (N : News h₀ L hp news)
    (use : ∀ h tk z t, Fr h₀ L h (fun y => if y = x then some (.float z t) else m y) → News h₀ L h news → wpAny (model prog w) A (execs (r1 :: rest) env) Q E { heap := h, gens := gs, drawn := dr, toks := tk, os := os })
    (br : ∀ K : Flow → Shared → Prop, (∀ h tk z t, Fr h₀ L h (fun y => if y = x then some (.float z t) else m y) → News h₀ L h news → K .next { heap := h, gens := gs, drawn := dr, toks := tk, os := os }) → Fr h₀ L hp m → News h₀ L hp news → wpAny (model prog w) A (exec (.If c [.Assign [.Name x px] e pa] el pi) env) K E { heap := hp, gens := gs, drawn := dr, toks := tk0, os := os }) :
    wpAny (model prog w) A (execs (.If c [.Assign [.Name x px] e pa] el pi :: r1 :: rest) env) Q E { heap := hp, gens := gs, drawn := dr, toks := tk0, os := os } :=
  wpAny_execs_cons (br _ use F N)

end
example : True := by
  k_with_none
  w_top off
  trivial
example : True := by
  (k_with "lit" => (first | exact rfl | exact lit_0 | exact lit_1 | exact lit_2 | exact lit_6 | exact lit_05))
  (k_with "bd" => (first | assumption | (refine' bsub ?_ ?_ <;> walk_at "bd") | (refine' badd ?_ ?_ <;> walk_at "bd") | exact Nat.le_refl _))
  (k_with "bf" => (first | ((refine' bfit ?b1z3 ?b2z3 ?b3z3); (case b1z3 => walk_at "bd"); (case b2z3 => walk_at "bd"); (case b3z3 => decide)) | omega))
  (k_with "binaryOp Add float float" => (with_plain (refine' s_add ?fxz4 ?fyz4 ?fbz4 ?_; (case fxz4 => walk_at "lit"); (case fyz4 => walk_at "lit"); (case fbz4 => walk_at "bf"); intro t9z4; (try dsimp only))))
  (k_with "binaryOp Sub float float" => (with_plain (refine' s_sub ?fxz5 ?fyz5 ?fbz5 ?_; (case fxz5 => walk_at "lit"); (case fyz5 => walk_at "lit"); (case fbz5 => walk_at "bf"); intro t9z5; (try dsimp only))))
  (k_with "binaryOp Sub float float" => (with_plain (refine' s_sub0 ?fxz6 ?fyz6 ?fbz6 ?_; (case fxz6 => exact rfl); (case fyz6 => walk_at "lit"); (case fbz6 => (refine' Nat.lt_of_le_of_lt ?b1z6 ?b3z6; (case b1z6 => assumption); (case b3z6 => decide))); intro t9z6; (try dsimp only))))
  (k_with "binaryOp Add float float" => (with_plain (refine' s_add0 ?fxz7 ?fyz7 ?fbz7 ?_; (case fxz7 => exact rfl); (case fyz7 => walk_at "lit"); (case fbz7 => (refine' Nat.lt_of_le_of_lt ?b1z7 ?b3z7; (case b1z7 => assumption); (case b3z7 => decide))); intro t9z7; (try dsimp only))))
  (k_with "binaryOp Div float float" => (with_plain (refine' s_div rfl ?fyz8 ?fbz8 ?_; (case fyz8 => walk_at "lit"); (case fbz8 => omega); intro t9z8; (try dsimp only))))
  (k_with "binaryOp Mod float float" => (with_plain (refine' s_mod rfl ?fyz9 ?fbz9 ?_; (case fyz9 => walk_at "lit"); (case fbz9 => omega); intro z9z9 t9z9; (try dsimp only))))
  (k_with "compareOp Lt float float" => (with_plain (refine' s_lt ?fxz10 ?fyz10 ?fbz10 ?_ ?_; (case fxz10 => walk_at "lit"); (case fyz10 => walk_at "lit"); (case fbz10 => walk_at "bf"); (all_goals (intro q9z10; try first | exact absurd q9z10 (by with_reducible assumption) | exact absurd (by with_reducible assumption) q9z10 | exact absurd q9z10 (by decide) | exact absurd (by decide) q9z10 | (exfalso; omega))))))
  (k_with "compareOp Gt float float" => (with_plain (refine' s_gt ?fxz11 ?fyz11 ?fbz11 ?_ ?_; (case fxz11 => walk_at "lit"); (case fyz11 => walk_at "lit"); (case fbz11 => walk_at "bf"); (all_goals (intro q9z11; try first | exact absurd q9z11 (by with_reducible assumption) | exact absurd (by with_reducible assumption) q9z11 | exact absurd q9z11 (by decide) | exact absurd (by decide) q9z11 | (exfalso; omega))))))
  (k_with "compareOp Eq float float" => (with_plain (refine' s_eq ?fxz12 ?fyz12 ?fbz12 ?_ ?_; (case fxz12 => walk_at "lit"); (case fyz12 => walk_at "lit"); (case fbz12 => walk_at "bf"); (all_goals (intro q9z12; try first | exact absurd q9z12 (by with_reducible assumption) | exact absurd (by with_reducible assumption) q9z12 | exact absurd q9z12 (by decide) | exact absurd (by decide) q9z12 | (exfalso; omega))))))
  (k_with "compareOp NotEq float float" => (with_plain (refine' s_ne ?fxz13 ?fyz13 ?fbz13 ?_ ?_; (case fxz13 => walk_at "lit"); (case fyz13 => walk_at "lit"); (case fbz13 => walk_at "bf"); (all_goals (intro q9z13; try first | exact absurd q9z13 (by with_reducible assumption) | exact absurd (by with_reducible assumption) q9z13 | exact absurd q9z13 (by decide) | exact absurd (by decide) q9z13 | (exfalso; omega))))))
  (k_with "compareOp LtE float float" => (with_plain (refine' s_le ?fxz14 ?fyz14 ?fbz14 ?_ ?_; (case fxz14 => walk_at "lit"); (case fyz14 => walk_at "lit"); (case fbz14 => walk_at "bf"); (all_goals (intro q9z14; try first | exact absurd q9z14 (by with_reducible assumption) | exact absurd (by with_reducible assumption) q9z14 | exact absurd q9z14 (by decide) | exact absurd (by decide) q9z14 | (exfalso; omega))))))
  (k_with "call builtin:max" => ((refine' max3_hi rfl ?kFz15 ?kNz15 ?kaz15 ?kbz15 ?kcz15 ?_; (case kFz15 => k_asm); (case kNz15 => k_asm); (case kaz15 => assumption); (case kbz15 => assumption); (case kcz15 => assumption); intro h9z15 tk9z15 t9z15 F9z15 N9z15; (try dsimp only))))
  (k_with "call builtin:min" => ((refine' min3_lo rfl ?kFz16 ?kNz16 ?kaz16 ?kbz16 ?kcz16 ?_; (case kFz16 => k_asm); (case kNz16 => k_asm); (case kaz16 => assumption); (case kbz16 => assumption); (case kcz16 => assumption); intro h9z16 tk9z16 t9z16 F9z16 N9z16; (try dsimp only))))
  (k_with "binaryOp Div float float" => (with_plain ((refine' s_half rfl ?fxz17 ?fyz17 ?fbz17 ?_); (case fxz17 => exact rfl); (case fyz17 => first | exact lit_2 | exact rfl); (case fbz17 => omega); intro t9z17; (try dsimp only))))
  (k_with "binaryOp Mult float float" => (with_plain ((refine' s_two ?fxz18 ?fyz18 ?fbz18 ?_); (case fxz18 => first | exact lit_2 | exact rfl); (case fyz18 => exact rfl); (case fbz18 => omega); intro t9z18; (try dsimp only))))
  (k_with "binaryOp Mult float float" => (with_plain ((refine' s_16 ?fxz19 ?fyz19 ?fbz19 ?_); (case fxz19 => exact rfl); (case fyz19 => exact rfl); (case fbz19 => omega); intro t9z19; (try dsimp only))))
  (k_with "binaryOp Mult float float" => (with_plain ((refine' s_mulz ?fzz20 ?_); (case fzz20 => first | exact mz_0 | exact mz_1 | exact mz_2 | exact mz_3 | exact mz_4 | exact mz_5); intro t9z20; (try dsimp only))))
  (k_with "binaryOp Sub float int" => (with_plain ((refine' s_subint ?fxz21 ?fbz21 ?_); (case fxz21 => exact rfl); (case fbz21 => omega); intro t9z21; (try dsimp only))))
  (k_with "binaryOp Mult int float" => (with_plain ((refine' s_mulint ?fxz22 ?fyz22 ?fbz22 ?_); (case fxz22 => exact rfl); (case fyz22 => exact rfl); (case fbz22 => omega); intro t9z22; (try dsimp only))))
  (k_with "binaryOp Div int int" => (with_plain ((refine' s_divint rfl ?fxz23 ?fbz23 ?_); (case fxz23 => exact rfl); (case fbz23 => omega); intro t9z23; (try dsimp only))))
  (k_with "enter9" => ((refine' code_def ?k1z24 ?k2z24 ?k3z24 ?k4z24 ?k5z24 ?kAz24 ?kFz24 ?kKz24 ?k6z24 ?k7z24 ?k8z24 ?k9z24 ?kBz24 ?_ ?c2z24 ?c3z24 ?c4z24 ?c5z24; (case kAz24 => exact rfl); (case kFz24 => exact rfl); (case kKz24 => first | exact rfl | assumption); (case k1z24 => k_asm); (case k2z24 => k_asm); (case k3z24 => k_asm); (case k4z24 => k_asm); (case k5z24 => k_asm); (case k6z24 => k_is); (case k7z24 => k_is); (case k8z24 => exact (Room.deep (k' := 1) (by assumption) (by decide)).lt); (case k9z24 => exact BindsTo.of_eq rfl); (case c5z24 => decide); (case kBz24 => exact locs rfl); (case c2z24 => exact rfl); (case c3z24 => exact rfl); (case c4z24 => exact rfl); k_whole; intro g'z24 L'z24 h'z24 FG'z24 F'z24 N'z24 B'z24 X'z24 T'z24; (try dsimp only); (try k_fold))))
  (k_with "call ref" => ((k_here; (refine wpAny_call ?_); k_dflt (walk_at "enter9"))))
  trivial

section
inductive HsvP (a b c : Int) (rest : List (Addr × Obj)) : Value → List (Addr × Obj) → Prop
  | mk (q : Addr) (h s : UInt64) (t1 t2 t3 : Tok) : (∀ p ∈ rest, p.1 < q) → (lo3 a b c = hi3 a b c → s = fl 0) → (lo3 a b c ≠ hi3 a b c → s = Float64.div (fl (2 * hi3 a b c - 2 * lo3 a b c)) (fl (2 * hi3 a b c))) → HsvP a b c rest (.ref q) ((q, tup3 (.float h t1) (.float s t2) (.float (fl (2 * hi3 a b c)) t3)) :: rest)
set_option maxHeartbeats 4000000 in
theorem c_hsv (w : World) (rest : List (Addr × Obj)) (a b c : Int) (t u v : Tok) (ha : 0 ≤ a ∧ a ≤ 16) (hb : 0 ≤ b ∧ b ≤ 16) (hc : 0 ≤ c ∧ c ≤ 16) :
    Ctr w 2 35 [.float (fl (2 * a)) t, .float (fl (2 * b)) u, .float (fl (2 * c)) v] rest (HsvP a b c rest) := by
  obtain ⟨⟨hm0, hmM, hM⟩, bM, bm⟩ := lohiB ha hb hc
  have ba := bd2 ha
  have bb := bd2 hb
  have bc := bd2 hc
  refine fillG PySem.Challenge.rw_tr0025_01 hd.heap_39 ?_
  k_fill
  unfold FillG Ctr
  intro mean mg mb dp un gd cn cs a ccd cl outer A₀ base h₀ L m s Q E B F X N T hk hroom hret
  have hlt := hroom.lt
  refine wpAny_call ?_
  k_dflt cell_enter
  repeat' (first
    | ((with_reducible refine' joinIf ?jF ?jN ?_ ?_); (case jF => k_asm); (case jN => k_asm))
    | ((with_reducible show ∀ (_ : Heap) (_ : Nat) (_ : UInt64) (_ : Tok), Fr _ _ _ _ → _); intro hJ tkJ zJ tJ FJ NJ)
    | ((with_reducible show ∀ (_ : Flow → Shared → Prop), _ → Fr _ _ _ _ → _); intro KJ hKJ FJ NJ)
    | ((with_reducible refine' hKJ _ _ _ _ ?kF ?kN); (case kF => k_asm); (case kN => k_asm))
    | (first | (k_unfold; (try dsimp only)) | (k_end; wrow_close) | walk1 | (dsimp only; walk1) | (leave1; walk_say "STEP leave1"; try dsimp only)))
  all_goals (refine' hret _ _ _ _ ?_ ?_ (HsvP.mk _ _ _ _ _ _ ?_ ?_ ?_))
  all_goals first | (with_reducible assumption) | assumption | (intro e9; first | rfl | exact lit_0 | (exfalso; omega))

end
example : True := by
  k_with_none
  w_top off
  trivial
example : True := by
  (k_with "lit" => (first | exact rfl | exact lit_0 | exact lit_1 | exact lit_2 | exact lit_6 | exact lit_05))
  (k_with "bd" => (first | assumption | (refine' bsub ?_ ?_ <;> walk_at "bd") | (refine' badd ?_ ?_ <;> walk_at "bd") | exact Nat.le_refl _))
  (k_with "bf" => (first | ((refine' bfit ?b1z3 ?b2z3 ?b3z3); (case b1z3 => walk_at "bd"); (case b2z3 => walk_at "bd"); (case b3z3 => decide)) | omega))
  (k_with "binaryOp Add float float" => (with_plain (refine' s_add ?fxz4 ?fyz4 ?fbz4 ?_; (case fxz4 => walk_at "lit"); (case fyz4 => walk_at "lit"); (case fbz4 => walk_at "bf"); intro t9z4; (try dsimp only))))
  (k_with "binaryOp Sub float float" => (with_plain (refine' s_sub ?fxz5 ?fyz5 ?fbz5 ?_; (case fxz5 => walk_at "lit"); (case fyz5 => walk_at "lit"); (case fbz5 => walk_at "bf"); intro t9z5; (try dsimp only))))
  (k_with "binaryOp Sub float float" => (with_plain (refine' s_sub0 ?fxz6 ?fyz6 ?fbz6 ?_; (case fxz6 => exact rfl); (case fyz6 => walk_at "lit"); (case fbz6 => (refine' Nat.lt_of_le_of_lt ?b1z6 ?b3z6; (case b1z6 => assumption); (case b3z6 => decide))); intro t9z6; (try dsimp only))))
  (k_with "binaryOp Add float float" => (with_plain (refine' s_add0 ?fxz7 ?fyz7 ?fbz7 ?_; (case fxz7 => exact rfl); (case fyz7 => walk_at "lit"); (case fbz7 => (refine' Nat.lt_of_le_of_lt ?b1z7 ?b3z7; (case b1z7 => assumption); (case b3z7 => decide))); intro t9z7; (try dsimp only))))
  (k_with "binaryOp Div float float" => (with_plain (refine' s_div rfl ?fyz8 ?fbz8 ?_; (case fyz8 => walk_at "lit"); (case fbz8 => omega); intro t9z8; (try dsimp only))))
  (k_with "binaryOp Mod float float" => (with_plain (refine' s_mod rfl ?fyz9 ?fbz9 ?_; (case fyz9 => walk_at "lit"); (case fbz9 => omega); intro z9z9 t9z9; (try dsimp only))))
  (k_with "compareOp Lt float float" => (with_plain (refine' s_lt ?fxz10 ?fyz10 ?fbz10 ?_ ?_; (case fxz10 => walk_at "lit"); (case fyz10 => walk_at "lit"); (case fbz10 => walk_at "bf"); (all_goals (intro q9z10; try first | exact absurd q9z10 (by with_reducible assumption) | exact absurd (by with_reducible assumption) q9z10 | exact absurd q9z10 (by decide) | exact absurd (by decide) q9z10 | (exfalso; omega))))))
  (k_with "compareOp Gt float float" => (with_plain (refine' s_gt ?fxz11 ?fyz11 ?fbz11 ?_ ?_; (case fxz11 => walk_at "lit"); (case fyz11 => walk_at "lit"); (case fbz11 => walk_at "bf"); (all_goals (intro q9z11; try first | exact absurd q9z11 (by with_reducible assumption) | exact absurd (by with_reducible assumption) q9z11 | exact absurd q9z11 (by decide) | exact absurd (by decide) q9z11 | (exfalso; omega))))))
  (k_with "compareOp Eq float float" => (with_plain (refine' s_eq ?fxz12 ?fyz12 ?fbz12 ?_ ?_; (case fxz12 => walk_at "lit"); (case fyz12 => walk_at "lit"); (case fbz12 => walk_at "bf"); (all_goals (intro q9z12; try first | exact absurd q9z12 (by with_reducible assumption) | exact absurd (by with_reducible assumption) q9z12 | exact absurd q9z12 (by decide) | exact absurd (by decide) q9z12 | (exfalso; omega))))))
  (k_with "compareOp NotEq float float" => (with_plain (refine' s_ne ?fxz13 ?fyz13 ?fbz13 ?_ ?_; (case fxz13 => walk_at "lit"); (case fyz13 => walk_at "lit"); (case fbz13 => walk_at "bf"); (all_goals (intro q9z13; try first | exact absurd q9z13 (by with_reducible assumption) | exact absurd (by with_reducible assumption) q9z13 | exact absurd q9z13 (by decide) | exact absurd (by decide) q9z13 | (exfalso; omega))))))
  (k_with "compareOp LtE float float" => (with_plain (refine' s_le ?fxz14 ?fyz14 ?fbz14 ?_ ?_; (case fxz14 => walk_at "lit"); (case fyz14 => walk_at "lit"); (case fbz14 => walk_at "bf"); (all_goals (intro q9z14; try first | exact absurd q9z14 (by with_reducible assumption) | exact absurd (by with_reducible assumption) q9z14 | exact absurd q9z14 (by decide) | exact absurd (by decide) q9z14 | (exfalso; omega))))))
  (k_with "call builtin:max" => ((refine' max3_hi rfl ?kFz15 ?kNz15 ?kaz15 ?kbz15 ?kcz15 ?_; (case kFz15 => k_asm); (case kNz15 => k_asm); (case kaz15 => assumption); (case kbz15 => assumption); (case kcz15 => assumption); intro h9z15 tk9z15 t9z15 F9z15 N9z15; (try dsimp only))))
  (k_with "call builtin:min" => ((refine' min3_lo rfl ?kFz16 ?kNz16 ?kaz16 ?kbz16 ?kcz16 ?_; (case kFz16 => k_asm); (case kNz16 => k_asm); (case kaz16 => assumption); (case kbz16 => assumption); (case kcz16 => assumption); intro h9z16 tk9z16 t9z16 F9z16 N9z16; (try dsimp only))))
  (k_with "binaryOp Div float float" => (with_plain ((refine' s_half rfl ?fxz17 ?fyz17 ?fbz17 ?_); (case fxz17 => exact rfl); (case fyz17 => first | exact lit_2 | exact rfl); (case fbz17 => omega); intro t9z17; (try dsimp only))))
  (k_with "binaryOp Mult float float" => (with_plain ((refine' s_two ?fxz18 ?fyz18 ?fbz18 ?_); (case fxz18 => first | exact lit_2 | exact rfl); (case fyz18 => exact rfl); (case fbz18 => omega); intro t9z18; (try dsimp only))))
  (k_with "binaryOp Mult float float" => (with_plain ((refine' s_16 ?fxz19 ?fyz19 ?fbz19 ?_); (case fxz19 => exact rfl); (case fyz19 => exact rfl); (case fbz19 => omega); intro t9z19; (try dsimp only))))
  (k_with "binaryOp Mult float float" => (with_plain ((refine' s_mulz ?fzz20 ?_); (case fzz20 => first | exact mz_0 | exact mz_1 | exact mz_2 | exact mz_3 | exact mz_4 | exact mz_5); intro t9z20; (try dsimp only))))
  (k_with "binaryOp Sub float int" => (with_plain ((refine' s_subint ?fxz21 ?fbz21 ?_); (case fxz21 => exact rfl); (case fbz21 => omega); intro t9z21; (try dsimp only))))
  (k_with "binaryOp Mult int float" => (with_plain ((refine' s_mulint ?fxz22 ?fyz22 ?fbz22 ?_); (case fxz22 => exact rfl); (case fyz22 => exact rfl); (case fbz22 => omega); intro t9z22; (try dsimp only))))
  (k_with "binaryOp Div int int" => (with_plain ((refine' s_divint rfl ?fxz23 ?fbz23 ?_); (case fxz23 => exact rfl); (case fbz23 => omega); intro t9z23; (try dsimp only))))
  (k_with "enter9" => ((refine' code_def ?k1z24 ?k2z24 ?k3z24 ?k4z24 ?k5z24 ?kAz24 ?kFz24 ?kKz24 ?k6z24 ?k7z24 ?k8z24 ?k9z24 ?kBz24 ?_ ?c2z24 ?c3z24 ?c4z24 ?c5z24; (case kAz24 => exact rfl); (case kFz24 => exact rfl); (case kKz24 => first | exact rfl | assumption); (case k1z24 => k_asm); (case k2z24 => k_asm); (case k3z24 => k_asm); (case k4z24 => k_asm); (case k5z24 => k_asm); (case k6z24 => k_is); (case k7z24 => k_is); (case k8z24 => exact (Room.deep (k' := 1) (by assumption) (by decide)).lt); (case k9z24 => exact BindsTo.of_eq rfl); (case c5z24 => decide); (case kBz24 => exact locs rfl); (case c2z24 => exact rfl); (case c3z24 => exact rfl); (case c4z24 => exact rfl); k_whole; intro g'z24 L'z24 h'z24 FG'z24 F'z24 N'z24 B'z24 X'z24 T'z24; (try dsimp only); (try k_fold))))
  (k_with "call ref" => ((k_here; (refine wpAny_call ?_); k_dflt (walk_at "enter9"))))
  trivial

section
inductive HlsP (a b c : Int) (rest : List (Addr × Obj)) : Value → List (Addr × Obj) → Prop
  | mk (q : Addr) (h l s : UInt64) (t1 t2 t3 : Tok) : (∀ p ∈ rest, p.1 < q) → l = fl (hi3 a b c + lo3 a b c) → HlsP a b c rest (.ref q) ((q, tup3 (.float h t1) (.float l t2) (.float s t3)) :: rest)
set_option maxHeartbeats 4000000 in
theorem c_hls (w : World) (rest : List (Addr × Obj)) (a b c : Int) (t u v : Tok) (ha : 0 ≤ a ∧ a ≤ 15) (hb : 0 ≤ b ∧ b ≤ 15) (hc : 0 ≤ c ∧ c ≤ 15) :
    Ctr w 2 28 [.float (fl (2 * a)) t, .float (fl (2 * b)) u, .float (fl (2 * c)) v] rest (HlsP a b c rest) := by
  have hM := lohi15 ha hb hc
  replace ha := up16 ha
  replace hb := up16 hb
  replace hc := up16 hc
  obtain ⟨⟨hm0, hmM, _⟩, bM, bm⟩ := lohiB ha hb hc
  have ba := bd2 ha
  have bb := bd2 hb
  have bc := bd2 hc
  refine fillG PySem.Challenge.rw_tr0025_01 hd.heap_39 ?_
  k_fill
  unfold FillG Ctr
  intro mean mg mb dp un gd cn cs a ccd cl outer A₀ base h₀ L m s Q E B F X N T hk hroom hret
  have hlt := hroom.lt
  refine wpAny_call ?_
  k_dflt cell_enter
  repeat' (first
    | ((with_reducible refine' joinIf ?jF ?jN ?_ ?_); (case jF => k_asm); (case jN => k_asm))
    | ((with_reducible show ∀ (_ : Heap) (_ : Nat) (_ : UInt64) (_ : Tok), Fr _ _ _ _ → _); intro hJ tkJ zJ tJ FJ NJ)
    | ((with_reducible show ∀ (_ : Flow → Shared → Prop), _ → Fr _ _ _ _ → _); intro KJ hKJ FJ NJ)
    | ((with_reducible refine' hKJ _ _ _ _ ?kF ?kN); (case kF => k_asm); (case kN => k_asm))
    | (first | (k_unfold; (try dsimp only)) | (k_end; wrow_close) | walk1 | (dsimp only; walk1) | (leave1; walk_say "STEP leave1"; try dsimp only)))
  all_goals (refine' hret _ _ _ _ ?_ ?_ (HlsP.mk _ _ _ _ _ _ _ ?_ ?_))
  all_goals first | (with_reducible assumption) | assumption | exact congrArg fl (by omega)

end
example : True := by
  k_with_none
  w_top off
  trivial
example : True := by
  (k_with "lit" => (first | exact rfl | exact lit_0 | exact lit_1 | exact lit_2 | exact lit_6 | exact lit_05))
  (k_with "bd" => (first | assumption | (refine' bsub ?_ ?_ <;> walk_at "bd") | (refine' badd ?_ ?_ <;> walk_at "bd") | exact Nat.le_refl _))
  (k_with "bf" => (first | ((refine' bfit ?b1z3 ?b2z3 ?b3z3); (case b1z3 => walk_at "bd"); (case b2z3 => walk_at "bd"); (case b3z3 => decide)) | omega))
  (k_with "binaryOp Add float float" => (with_plain (refine' s_add ?fxz4 ?fyz4 ?fbz4 ?_; (case fxz4 => walk_at "lit"); (case fyz4 => walk_at "lit"); (case fbz4 => walk_at "bf"); intro t9z4; (try dsimp only))))
  (k_with "binaryOp Sub float float" => (with_plain (refine' s_sub ?fxz5 ?fyz5 ?fbz5 ?_; (case fxz5 => walk_at "lit"); (case fyz5 => walk_at "lit"); (case fbz5 => walk_at "bf"); intro t9z5; (try dsimp only))))
  (k_with "binaryOp Sub float float" => (with_plain (refine' s_sub0 ?fxz6 ?fyz6 ?fbz6 ?_; (case fxz6 => exact rfl); (case fyz6 => walk_at "lit"); (case fbz6 => (refine' Nat.lt_of_le_of_lt ?b1z6 ?b3z6; (case b1z6 => assumption); (case b3z6 => decide))); intro t9z6; (try dsimp only))))
  (k_with "binaryOp Add float float" => (with_plain (refine' s_add0 ?fxz7 ?fyz7 ?fbz7 ?_; (case fxz7 => exact rfl); (case fyz7 => walk_at "lit"); (case fbz7 => (refine' Nat.lt_of_le_of_lt ?b1z7 ?b3z7; (case b1z7 => assumption); (case b3z7 => decide))); intro t9z7; (try dsimp only))))
  (k_with "binaryOp Div float float" => (with_plain (refine' s_div rfl ?fyz8 ?fbz8 ?_; (case fyz8 => walk_at "lit"); (case fbz8 => omega); intro t9z8; (try dsimp only))))
  (k_with "binaryOp Mod float float" => (with_plain (refine' s_mod rfl ?fyz9 ?fbz9 ?_; (case fyz9 => walk_at "lit"); (case fbz9 => omega); intro z9z9 t9z9; (try dsimp only))))
  (k_with "compareOp Lt float float" => (with_plain (refine' s_lt ?fxz10 ?fyz10 ?fbz10 ?_ ?_; (case fxz10 => walk_at "lit"); (case fyz10 => walk_at "lit"); (case fbz10 => walk_at "bf"); (all_goals (intro q9z10; try first | exact absurd q9z10 (by with_reducible assumption) | exact absurd (by with_reducible assumption) q9z10 | exact absurd q9z10 (by decide) | exact absurd (by decide) q9z10 | (exfalso; omega))))))
  (k_with "compareOp Gt float float" => (with_plain (refine' s_gt ?fxz11 ?fyz11 ?fbz11 ?_ ?_; (case fxz11 => walk_at "lit"); (case fyz11 => walk_at "lit"); (case fbz11 => walk_at "bf"); (all_goals (intro q9z11; try first | exact absurd q9z11 (by with_reducible assumption) | exact absurd (by with_reducible assumption) q9z11 | exact absurd q9z11 (by decide) | exact absurd (by decide) q9z11 | (exfalso; omega))))))
  (k_with "compareOp Eq float float" => (with_plain (refine' s_eq ?fxz12 ?fyz12 ?fbz12 ?_ ?_; (case fxz12 => walk_at "lit"); (case fyz12 => walk_at "lit"); (case fbz12 => walk_at "bf"); (all_goals (intro q9z12; try first | exact absurd q9z12 (by with_reducible assumption) | exact absurd (by with_reducible assumption) q9z12 | exact absurd q9z12 (by decide) | exact absurd (by decide) q9z12 | (exfalso; omega))))))
  (k_with "compareOp NotEq float float" => (with_plain (refine' s_ne ?fxz13 ?fyz13 ?fbz13 ?_ ?_; (case fxz13 => walk_at "lit"); (case fyz13 => walk_at "lit"); (case fbz13 => walk_at "bf"); (all_goals (intro q9z13; try first | exact absurd q9z13 (by with_reducible assumption) | exact absurd (by with_reducible assumption) q9z13 | exact absurd q9z13 (by decide) | exact absurd (by decide) q9z13 | (exfalso; omega))))))
  (k_with "compareOp LtE float float" => (with_plain (refine' s_le ?fxz14 ?fyz14 ?fbz14 ?_ ?_; (case fxz14 => walk_at "lit"); (case fyz14 => walk_at "lit"); (case fbz14 => walk_at "bf"); (all_goals (intro q9z14; try first | exact absurd q9z14 (by with_reducible assumption) | exact absurd (by with_reducible assumption) q9z14 | exact absurd q9z14 (by decide) | exact absurd (by decide) q9z14 | (exfalso; omega))))))
  (k_with "call builtin:max" => ((refine' max3_hi rfl ?kFz15 ?kNz15 ?kaz15 ?kbz15 ?kcz15 ?_; (case kFz15 => k_asm); (case kNz15 => k_asm); (case kaz15 => assumption); (case kbz15 => assumption); (case kcz15 => assumption); intro h9z15 tk9z15 t9z15 F9z15 N9z15; (try dsimp only))))
  (k_with "call builtin:min" => ((refine' min3_lo rfl ?kFz16 ?kNz16 ?kaz16 ?kbz16 ?kcz16 ?_; (case kFz16 => k_asm); (case kNz16 => k_asm); (case kaz16 => assumption); (case kbz16 => assumption); (case kcz16 => assumption); intro h9z16 tk9z16 t9z16 F9z16 N9z16; (try dsimp only))))
  (k_with "binaryOp Div float float" => (with_plain ((refine' s_half rfl ?fxz17 ?fyz17 ?fbz17 ?_); (case fxz17 => exact rfl); (case fyz17 => first | exact lit_2 | exact rfl); (case fbz17 => omega); intro t9z17; (try dsimp only))))
  (k_with "binaryOp Mult float float" => (with_plain ((refine' s_two ?fxz18 ?fyz18 ?fbz18 ?_); (case fxz18 => first | exact lit_2 | exact rfl); (case fyz18 => exact rfl); (case fbz18 => omega); intro t9z18; (try dsimp only))))
  (k_with "binaryOp Mult float float" => (with_plain ((refine' s_16 ?fxz19 ?fyz19 ?fbz19 ?_); (case fxz19 => exact rfl); (case fyz19 => exact rfl); (case fbz19 => omega); intro t9z19; (try dsimp only))))
  (k_with "binaryOp Mult float float" => (with_plain ((refine' s_mulz ?fzz20 ?_); (case fzz20 => first | exact mz_0 | exact mz_1 | exact mz_2 | exact mz_3 | exact mz_4 | exact mz_5); intro t9z20; (try dsimp only))))
  (k_with "binaryOp Sub float int" => (with_plain ((refine' s_subint ?fxz21 ?fbz21 ?_); (case fxz21 => exact rfl); (case fbz21 => omega); intro t9z21; (try dsimp only))))
  (k_with "binaryOp Mult int float" => (with_plain ((refine' s_mulint ?fxz22 ?fyz22 ?fbz22 ?_); (case fxz22 => exact rfl); (case fyz22 => exact rfl); (case fbz22 => omega); intro t9z22; (try dsimp only))))
  (k_with "binaryOp Div int int" => (with_plain ((refine' s_divint rfl ?fxz23 ?fbz23 ?_); (case fxz23 => exact rfl); (case fbz23 => omega); intro t9z23; (try dsimp only))))
  (k_with "enter9" => ((refine' code_def ?k1z24 ?k2z24 ?k3z24 ?k4z24 ?k5z24 ?kAz24 ?kFz24 ?kKz24 ?k6z24 ?k7z24 ?k8z24 ?k9z24 ?kBz24 ?_ ?c2z24 ?c3z24 ?c4z24 ?c5z24; (case kAz24 => exact rfl); (case kFz24 => exact rfl); (case kKz24 => first | exact rfl | assumption); (case k1z24 => k_asm); (case k2z24 => k_asm); (case k3z24 => k_asm); (case k4z24 => k_asm); (case k5z24 => k_asm); (case k6z24 => k_is); (case k7z24 => k_is); (case k8z24 => exact (Room.deep (k' := 1) (by assumption) (by decide)).lt); (case k9z24 => exact BindsTo.of_eq rfl); (case c5z24 => decide); (case kBz24 => exact locs rfl); (case c2z24 => exact rfl); (case c3z24 => exact rfl); (case c4z24 => exact rfl); k_whole; intro g'z24 L'z24 h'z24 FG'z24 F'z24 N'z24 B'z24 X'z24 T'z24; (try dsimp only); (try k_fold))))
  (k_with "call ref" => ((k_here; (refine wpAny_call ?_); k_dflt (walk_at "enter9"))))
  trivial

section
theorem clamp0 {n : Int} (h : n < 0) : 0 = max 0 (min n 32) := by omega
theorem clamp1 {n : Int} (h : 32 < n) : 32 = max 0 (min n 32) := by omega
theorem clampn {n : Int} (h : ¬ n < 0) (h2 : ¬ 32 < n) : n = max 0 (min n 32) := by omega
inductive YiqP (n : Int) (rest : List (Addr × Obj)) : Value → List (Addr × Obj) → Prop
  | mk (q : Addr) (x y z : UInt64) (t1 t2 t3 : Tok) : (∀ p ∈ rest, p.1 < q) → x = fl (max 0 (min n 32)) → y = fl (max 0 (min n 32)) → z = fl (max 0 (min n 32)) → YiqP n rest (.ref q) ((q, tup3 (.float x t1) (.float y t2) (.float z t3)) :: rest)
set_option maxHeartbeats 4000000 in
theorem c_yiq (w : World) (rest : List (Addr × Obj)) (n : Int) (t u v : Tok) (hn : -1000 ≤ n ∧ n ≤ 1000) :
    Ctr w 2 21 [.float (fl n) t, .float 0 u, .float 0 v] rest (YiqP n rest) := by
  have bn : n.natAbs ≤ 1000 := by omega
  refine fillG PySem.Challenge.rw_tr0025_01 hd.heap_39 ?_
  k_fill
  unfold FillG Ctr
  intro mean mg mb dp un gd cn cs a ccd cl outer A₀ base h₀ L m s Q E B F X N T hk hroom hret
  have hlt := hroom.lt
  refine wpAny_call ?_
  k_dflt cell_enter
  k_steps
  all_goals (refine' hret _ _ _ _ ?_ ?_ (YiqP.mk _ _ _ _ _ _ _ ?_ ?_ ?_ ?_))
  all_goals first | (with_reducible assumption) | assumption | exact lit_0.trans (congrArg fl (clamp0 (by assumption))) | exact lit_1.trans (congrArg fl (clamp1 (by assumption))) | exact congrArg fl (clampn (by assumption) (by assumption)) | exact lit_0.trans (congrArg fl (by omega)) | exact lit_1.trans (congrArg fl (by omega)) | exact congrArg fl (by omega)

end
section
-- a list of whole floats and a list of ints, equal place by place
open PySem.SeqAt PySem.MeetsSeq in
theorem cmpInt_fl : ∀ x : Fin 16, (Float64.cmpInt (fl (32 * (x.val : Int))) (x.val : Int) == some .eq) = true := by
  simp only [fl_def]
  decide +kernel
section
open PySem.SeqAt
variable {prog : Program} {w : World} {A : Around} {E Q : Value → Shared → Prop} {s : Shared} {h₀ : Heap} {L : Addr} {m : Str → Option Value} {news : List (Addr × Obj)}
theorem eqAt_fi {x : Int} {t u : Tok} (h : 0 ≤ x ∧ x ≤ 15) : EqAt A s (.float (fl (32 * x)) t) (.int x u) true := fun prog w E Q hq => by
  unfold eqBool
  refine wpAny_holding ?_
  refine wpAny_ite_split (fun hab => absurd (eq_of_beq hab) (fun e => nomatch e)) (fun _ => ?_)
  refine wpAny_bind ?_
  refine PyProof.Rows.eq_fi ?_
  have e := cmpInt_fl ⟨x.toNat, by omega⟩
  have e1 : (x.toNat : Int) = x := Int.toNat_of_nonneg h.1
  simp only [e1] at e
  rw [e]
  exact wpAny_truthy_bool hq
/-- each place: sixteen times a sixteenth -/
inductive Wholes : List Value → List Int → Prop
  | nil : Wholes [] []
  | cons (x : Int) (t : Tok) {vs : List Value} {ns : List Int} : (0 ≤ x ∧ x ≤ 15) → Wholes vs ns → Wholes (.float (fl (32 * x)) t :: vs) (x :: ns)
theorem Wholes.len {us : List Value} {ns : List Int} (h : Wholes us ns) : us.length = ns.length := by
  induction h with
  | nil => rfl
  | cons x t b r ih => simp [ih]
theorem wholes_at {us : List Value} {ns : List Int} (h : Wholes us ns) : ∀ {vs : List Value}, IntsAre vs ns → ∀ j (h1 : j < us.length) (h2 : j < vs.length), EqAt A s us[j] vs[j] true := by
  induction h with
  | nil => intro vs hi j h1; exact absurd h1 (Nat.not_lt_zero _)
  | cons x t b r ih =>
    intro vs hi j h1 h2
    obtain ⟨u, v, rfl, hv⟩ := IntsAre.cons_inv hi
    match j, h1, h2 with
    | 0, _, _ => exact eqAt_fi b
    | j + 1, h1, h2 => exact ih hv j (by simpa using h1) (by simpa using h2)
theorem eq_wholes {a b : Addr} {us vs : List Value} {ns : List Int} {n k : Nat} (N : News h₀ L s.heap news) (ha : (a, listOf us.toArray n) ∈ news) (hb : (b, listOf vs.toArray k) ∈ news) (hu : Wholes us ns) (hv : IntsAre vs ns) (hr : A.units < cLine)
    (h : Q (.bool true) s) : wpAny (model prog w) A (compareOp .Eq (.ref a) (.ref b)) Q E s := by
  have hl := IntsAre.length hv
  have e := RcAt.lists (A := A) (e := fun _ => true) (N.isList ha) (N.isList hb) (by rw [List.size_toArray, List.size_toArray, hu.len, hl]) hr (fun j h1 h2 => by
    have := wholes_at (A := A.in1) (s := s) hu hv j (by simpa using h1) (by simpa using h2)
    simpa using this)
  have t : (List.range us.toArray.size).all (fun _ => true) = true := by simp
  rw [t] at e
  exact e prog w E Q h
theorem s_mul16 {x : Int} {t u : Tok} (h : 0 ≤ x ∧ x ≤ 15) (k : ∀ t, Q (.float (fl (32 * x)) t) { s with toks := s.toks + 1 }) : wpAny (model prog w) A (binaryOp .Mult (.int 16 u) (.float (fl (2 * x)) t)) Q E s :=
  s_mulint rfl rfl (by omega) fun t' => by
    have e : 16 * (2 * x) = 32 * x := by omega
    rw [e]; exact k t'
end

end
section
def mi3 (a b c : Int) : Int := a + b + c - hi3 a b c - lo3 a b c
def ltA (a b : Nat) : Prop := a < b
abbrev frow (x y z : Int) (t u v : Tok) (e : Nat) : Obj := listOf #[.float (fl (2 * x)) t, .float (fl (2 * y)) u, .float (fl (2 * z)) v] e
abbrev prow (a b c d : Addr) (e : Nat) : Obj := listOf #[.ref a, .ref b, .ref c, .ref d] e
theorem neP {l : List (Addr × Obj)} {d : Addr} (h : ∀ p ∈ l, p.1 < d) : ∀ p ∈ l, p.1 ≠ d := fun p hp => Nat.ne_of_lt (h p hp)
theorem unr_tail {h₀ : Heap} {L I : Addr} {it : Obj} {rest' : (Str → Option Value) → List (Addr × Obj) → Prop} {s₁ : Shared} {h' : Heap} {tk : Nat} {m' : Str → Option Value} {all : List (Addr × Obj)} (head rest : List (Addr × Obj)) (F : Fr h₀ L h' m') (N : News h₀ L h' all)
    (hI : (I, it) ∈ all) (sub : SubL head all) (subR : ∀ x ∈ rest, x ∈ all) (off : OffI I it head) (offR : ∀ x ∈ rest, x.1 ≠ I) (r : rest' m' (head ++ rest)) : UnrEnd h₀ L s₁ I it rest' { s₁ with heap := h', toks := tk } :=
  UnrEnd.intro F N (head ++ rest) (fun p hp => by
    rcases List.mem_cons.mp hp with rfl | hp
    · exact hI
    · rcases List.mem_append.mp hp with hp | hp
      · exact sub.mem p hp
      · exact subR p hp) (fun p hp => by
    rcases List.mem_append.mp hp with hp | hp
    · rcases off.at p hp with h | h
      · exact h
      · intro e
        have h1 := (N _ (sub.mem p hp)).1
        have h2 := (N _ hI).1
        rw [e] at h1
        exact h (congrArg Obj.cls (Option.some.inj (h1.symm.trans h2)))
    · exact offR p hp) r
theorem memR0 {l : List (Addr × Obj)} : ∀ x ∈ l, x ∈ l := fun _ h => h
theorem memR1 {a : Addr × Obj} {l l' : List (Addr × Obj)} (h : ∀ x ∈ l, x ∈ l') : ∀ x ∈ l, x ∈ a :: l' := fun x hx => List.mem_cons_of_mem _ (h x hx)

section
variable {prog : Program} {w : World} {A A₀ : Around} {s : Shared} {K : Frag} {L : Addr} {h₀ base : Heap} {m mg mb : Str → Option Value} {led rest : List (Addr × Obj)} {p : Program} {loose : List Str} {mean : ExcName → Option Value}
/-- a call entered with a part of the ledger; the rest stays as it stands -/
theorem enterF {env : Env} {outer : List Env} {R : Result → Shared → Prop} {name qual : Str} {params : Arguments} {body : List Stmt} {scope : Scope} {dV kV doc pm cdv ct oc : Value} {an od : Option Addr} {osl : Array (Option Value)} {f : Addr} {args : Args} {binds : List (Str × Value)}
    (B : Below A₀ base outer h₀) (F : Fr h₀ L s.heap m) (X₀ : K.In h₀) (N : News h₀ L s.heap led) (NR : News h₀ L s.heap rest) (dis : ∀ x ∈ rest, x.1 ∉ led.map (·.1)) (T : Top p loose mean mg mb h₀) (hA : A.frames = some (env :: outer)) (hf : env.frame = some L) (hke : env.scope.kind = .function)
    (ho : K.lookup f = some ⟨oc, od, .func (fnOf name qual params body scope dV kV doc pm an cdv ct), osl⟩) (hcd : codeIn K cdv qual = true) (hroom : A.depth < recursionLimit)
    (hbind : BindsTo s (fnOf name qual params body scope dV kV doc pm an cdv ct) args binds) (hloc : ∀ y ∈ binds, scope.names.lookup y.1 = some .local)
    (h : ∀ g L' h₁, Fr h₀ L g m → Fr g L' h₁ (fun y => binds.reverse.lookup y) → News g L' h₁ led → Below A base (env :: outer) g → K.In g → Top p loose mean mg mb g → (∀ x ∈ rest, g.get? x.1 = some x.2) →
      wpAny (model prog w) (A.deeper (envOf qual scope L' f cdv)) (execs body (envOf qual scope L' f cdv))
        (fun fl s' => LeaveK h₀ L m g R (match fl with | .ret v => v | _ => .none) s')
        (fun e s' => wpAny (model prog w) (A.deeper (envOf qual scope L' f cdv)) (leaving (envOf qual scope L' f cdv) e) (fun _ s'' => R (.error e) s'') (fun e' s'' => R (.error e') s'') s')
        { s with heap := h₁, toks := s.toks + binds.length })
    (hco : scope.isCoroutine = false) (hgen : scope.isGenerator = false) (hk : scope.kind = .function) (hcell : ∀ x ∈ scope.names, x.2 ≠ .cell) : codeAny (model prog w) A (.call (.ref f) args) R s := by
  obtain ⟨FG, BG, st, lv⟩ := groundX (R := R) B F N hA hf hke
  have X := X₀.keeps F.keep
  refine codeAny_call_def (fd := fnOf name qual params body scope dV kV doc pm an cdv ct) (body := body) (binds := binds) hroom (X _ _ ho) rfl (T.nolimit.keeps F.keep) (codeRec_of X hcd) rfl hbind hcell hloc (fun h₁ hns hk₁ => ?_) hco hgen hk
  exact wpAny_mono (h _ s.heap.objs.size h₁ FG ⟨hns, fun b o e => hk₁ b o (of_hideAll _ e), Nat.le_of_eq (hideAll_size _ _)⟩
    (fun q hq => ⟨hk₁ _ _ (N q hq).1, Nat.ne_of_lt (Heap.lt_size (N q hq).1), hideAll_none _ (List.mem_map_of_mem hq)⟩) BG (X₀.keeps st) (T.keeps st) (fun x hx => hideAll_get _ (NR x hx).1 (dis x hx))) (fun fl s' hl => lv _ _ hl) fun _ _ y => y
theorem frame_ret {h h' g : Heap} {L' : Addr} {m' : Str → Option Value} {n' : List (Addr × Obj)} (NR : News h₀ L h rest) (hrest : ∀ x ∈ rest, g.get? x.1 = some x.2) (F' : Fr g L' h' m') (kN : News h₀ L h' n') : News h₀ L h' (n' ++ rest) := fun x hx => by
  rcases List.mem_append.mp hx with hx | hx
  · exact kN x hx
  · exact ⟨F'.keep _ _ (hrest x hx), (NR x hx).2⟩
theorem subN {h : Heap} {n n' : List (Addr × Obj)} (N : News h₀ L h n) (hs : SubL n' n) : News h₀ L h n' := fun x hx => N x (hs.mem x hx)
theorem subR {h : Heap} {n n' : List (Addr × Obj)} (N : News h₀ L h n) (hs : ∀ x ∈ n', x ∈ n) : News h₀ L h n' := fun x hx => N x (hs x hx)
end
theorem cut_treeE {prog : Program} {w : World} {A : Around} {T : Sem Flow} {Q : Flow → Shared → Prop} {E : Value → Shared → Prop} {s : Shared} (P : Around → Sem Flow → (Value → Shared → Prop) → Prop) (gate : P A T E) (use : P A T E → wpAny (model prog w) A T Q E s) : wpAny (model prog w) A T Q E s := use gate
theorem cut_treeF {prog : Program} {w : World} {A : Around} {T : Sem Flow} {Q : Flow → Shared → Prop} {E : Value → Shared → Prop} {s : Shared} {g : Heap} {L : Addr} {m : Str → Option Value} (_F : Fr g L s.heap m) (P : Heap → Addr → Around → Sem Flow → (Value → Shared → Prop) → Prop) (gate : P g L A T E) (use : P g L A T E → wpAny (model prog w) A T Q E s) : wpAny (model prog w) A T Q E s := use gate
theorem cut_tree {prog : Program} {w : World} {A : Around} {T : Sem Flow} {Q : Flow → Shared → Prop} {E : Value → Shared → Prop} {s : Shared} (P : Around → Sem Flow → Prop) (gate : P A T) (use : P A T → wpAny (model prog w) A T Q E s) : wpAny (model prog w) A T Q E s := use gate
theorem look_at {c : Option Value} {x : Str} {v : Value} [Decidable (x = x)] : (if x = x then some v else c) = some v := if_pos rfl
theorem look_by2 {c u r : Option Value} {x y : Str} [Decidable (x = y)] (h : x ≠ y) (e : c = r) : (if x = y then u else c) = r := by rw [if_neg h]; exact e
theorem mm1 {α : Type} {x a0 : α} {l : List α} : x ∈ a0 :: x :: l := List.Mem.tail _ (List.Mem.head _)
theorem mm2 {α : Type} {x a0 a1 : α} {l : List α} : x ∈ a0 :: a1 :: x :: l := List.Mem.tail _ (mm1)
theorem mm3 {α : Type} {x a0 a1 a2 : α} {l : List α} : x ∈ a0 :: a1 :: a2 :: x :: l := List.Mem.tail _ (mm2)
theorem mm4 {α : Type} {x a0 a1 a2 a3 : α} {l : List α} : x ∈ a0 :: a1 :: a2 :: a3 :: x :: l := List.Mem.tail _ (mm3)
theorem mm5 {α : Type} {x a0 a1 a2 a3 a4 : α} {l : List α} : x ∈ a0 :: a1 :: a2 :: a3 :: a4 :: x :: l := List.Mem.tail _ (mm4)
theorem mm6 {α : Type} {x a0 a1 a2 a3 a4 a5 : α} {l : List α} : x ∈ a0 :: a1 :: a2 :: a3 :: a4 :: a5 :: x :: l := List.Mem.tail _ (mm5)
theorem mm7 {α : Type} {x a0 a1 a2 a3 a4 a5 a6 : α} {l : List α} : x ∈ a0 :: a1 :: a2 :: a3 :: a4 :: a5 :: a6 :: x :: l := List.Mem.tail _ (mm6)
theorem mm8 {α : Type} {x a0 a1 a2 a3 a4 a5 a6 a7 : α} {l : List α} : x ∈ a0 :: a1 :: a2 :: a3 :: a4 :: a5 :: a6 :: a7 :: x :: l := List.Mem.tail _ (mm7)
theorem mm9 {α : Type} {x a0 a1 a2 a3 a4 a5 a6 a7 a8 : α} {l : List α} : x ∈ a0 :: a1 :: a2 :: a3 :: a4 :: a5 :: a6 :: a7 :: a8 :: x :: l := List.Mem.tail _ (mm8)
theorem mm10 {α : Type} {x a0 a1 a2 a3 a4 a5 a6 a7 a8 a9 : α} {l : List α} : x ∈ a0 :: a1 :: a2 :: a3 :: a4 :: a5 :: a6 :: a7 :: a8 :: a9 :: x :: l := List.Mem.tail _ (mm9)
theorem mm11 {α : Type} {x a0 a1 a2 a3 a4 a5 a6 a7 a8 a9 a10 : α} {l : List α} : x ∈ a0 :: a1 :: a2 :: a3 :: a4 :: a5 :: a6 :: a7 :: a8 :: a9 :: a10 :: x :: l := List.Mem.tail _ (mm10)
theorem mm12 {α : Type} {x a0 a1 a2 a3 a4 a5 a6 a7 a8 a9 a10 a11 : α} {l : List α} : x ∈ a0 :: a1 :: a2 :: a3 :: a4 :: a5 :: a6 :: a7 :: a8 :: a9 :: a10 :: a11 :: x :: l := List.Mem.tail _ (mm11)
theorem mm13 {α : Type} {x a0 a1 a2 a3 a4 a5 a6 a7 a8 a9 a10 a11 a12 : α} {l : List α} : x ∈ a0 :: a1 :: a2 :: a3 :: a4 :: a5 :: a6 :: a7 :: a8 :: a9 :: a10 :: a11 :: a12 :: x :: l := List.Mem.tail _ (mm12)
theorem mm14 {α : Type} {x a0 a1 a2 a3 a4 a5 a6 a7 a8 a9 a10 a11 a12 a13 : α} {l : List α} : x ∈ a0 :: a1 :: a2 :: a3 :: a4 :: a5 :: a6 :: a7 :: a8 :: a9 :: a10 :: a11 :: a12 :: a13 :: x :: l := List.Mem.tail _ (mm13)
theorem mm15 {α : Type} {x a0 a1 a2 a3 a4 a5 a6 a7 a8 a9 a10 a11 a12 a13 a14 : α} {l : List α} : x ∈ a0 :: a1 :: a2 :: a3 :: a4 :: a5 :: a6 :: a7 :: a8 :: a9 :: a10 :: a11 :: a12 :: a13 :: a14 :: x :: l := List.Mem.tail _ (mm14)
theorem mm16 {α : Type} {x a0 a1 a2 a3 a4 a5 a6 a7 a8 a9 a10 a11 a12 a13 a14 a15 : α} {l : List α} : x ∈ a0 :: a1 :: a2 :: a3 :: a4 :: a5 :: a6 :: a7 :: a8 :: a9 :: a10 :: a11 :: a12 :: a13 :: a14 :: a15 :: x :: l := List.Mem.tail _ (mm15)
theorem mm17 {α : Type} {x a0 a1 a2 a3 a4 a5 a6 a7 a8 a9 a10 a11 a12 a13 a14 a15 a16 : α} {l : List α} : x ∈ a0 :: a1 :: a2 :: a3 :: a4 :: a5 :: a6 :: a7 :: a8 :: a9 :: a10 :: a11 :: a12 :: a13 :: a14 :: a15 :: a16 :: x :: l := List.Mem.tail _ (mm16)
theorem mm18 {α : Type} {x a0 a1 a2 a3 a4 a5 a6 a7 a8 a9 a10 a11 a12 a13 a14 a15 a16 a17 : α} {l : List α} : x ∈ a0 :: a1 :: a2 :: a3 :: a4 :: a5 :: a6 :: a7 :: a8 :: a9 :: a10 :: a11 :: a12 :: a13 :: a14 :: a15 :: a16 :: a17 :: x :: l := List.Mem.tail _ (mm17)
theorem mm19 {α : Type} {x a0 a1 a2 a3 a4 a5 a6 a7 a8 a9 a10 a11 a12 a13 a14 a15 a16 a17 a18 : α} {l : List α} : x ∈ a0 :: a1 :: a2 :: a3 :: a4 :: a5 :: a6 :: a7 :: a8 :: a9 :: a10 :: a11 :: a12 :: a13 :: a14 :: a15 :: a16 :: a17 :: a18 :: x :: l := List.Mem.tail _ (mm18)
theorem mm20 {α : Type} {x a0 a1 a2 a3 a4 a5 a6 a7 a8 a9 a10 a11 a12 a13 a14 a15 a16 a17 a18 a19 : α} {l : List α} : x ∈ a0 :: a1 :: a2 :: a3 :: a4 :: a5 :: a6 :: a7 :: a8 :: a9 :: a10 :: a11 :: a12 :: a13 :: a14 :: a15 :: a16 :: a17 :: a18 :: a19 :: x :: l := List.Mem.tail _ (mm19)
theorem mm21 {α : Type} {x a0 a1 a2 a3 a4 a5 a6 a7 a8 a9 a10 a11 a12 a13 a14 a15 a16 a17 a18 a19 a20 : α} {l : List α} : x ∈ a0 :: a1 :: a2 :: a3 :: a4 :: a5 :: a6 :: a7 :: a8 :: a9 :: a10 :: a11 :: a12 :: a13 :: a14 :: a15 :: a16 :: a17 :: a18 :: a19 :: a20 :: x :: l := List.Mem.tail _ (mm20)
theorem mm22 {α : Type} {x a0 a1 a2 a3 a4 a5 a6 a7 a8 a9 a10 a11 a12 a13 a14 a15 a16 a17 a18 a19 a20 a21 : α} {l : List α} : x ∈ a0 :: a1 :: a2 :: a3 :: a4 :: a5 :: a6 :: a7 :: a8 :: a9 :: a10 :: a11 :: a12 :: a13 :: a14 :: a15 :: a16 :: a17 :: a18 :: a19 :: a20 :: a21 :: x :: l := List.Mem.tail _ (mm21)
theorem mm23 {α : Type} {x a0 a1 a2 a3 a4 a5 a6 a7 a8 a9 a10 a11 a12 a13 a14 a15 a16 a17 a18 a19 a20 a21 a22 : α} {l : List α} : x ∈ a0 :: a1 :: a2 :: a3 :: a4 :: a5 :: a6 :: a7 :: a8 :: a9 :: a10 :: a11 :: a12 :: a13 :: a14 :: a15 :: a16 :: a17 :: a18 :: a19 :: a20 :: a21 :: a22 :: x :: l := List.Mem.tail _ (mm22)
theorem mm24 {α : Type} {x a0 a1 a2 a3 a4 a5 a6 a7 a8 a9 a10 a11 a12 a13 a14 a15 a16 a17 a18 a19 a20 a21 a22 a23 : α} {l : List α} : x ∈ a0 :: a1 :: a2 :: a3 :: a4 :: a5 :: a6 :: a7 :: a8 :: a9 :: a10 :: a11 :: a12 :: a13 :: a14 :: a15 :: a16 :: a17 :: a18 :: a19 :: a20 :: a21 :: a22 :: a23 :: x :: l := List.Mem.tail _ (mm23)
theorem sub_up {n l : List (Addr × Obj)} (h : ∀ p ∈ n, p ∈ l) : SubL n l := by
  induction n with
  | nil => exact trivial
  | cons a n ih => exact ⟨h _ (List.mem_cons_self ..), ih fun p hp => h p (List.mem_cons_of_mem _ hp)⟩
@[irreducible] def zz9 : Addr := 77777777
theorem subNil {l : List (Addr × Obj)} : SubL [] l := trivial
theorem sub0 {l : List (Addr × Obj)} : SubL l l := sub_up fun _ h => h
theorem subD {x : Addr × Obj} {n l : List (Addr × Obj)} (h : SubL n l) : SubL n (x :: l) := sub_up fun p hp => List.mem_cons_of_mem _ (h.mem p hp)
theorem subK {x : Addr × Obj} {n l : List (Addr × Obj)} (h : SubL n l) : SubL (x :: n) (x :: l) := ⟨List.mem_cons_self .., subD h⟩

end
local macro_rules | `(tactic| k_lt $h:ident) => `(tactic| skip)
local macro_rules | `(tactic| k_ne) => `(tactic| walk_at "k_ne")
local macro_rules | `(tactic| k_all) => `(tactic| assumption)
local macro_rules | `(tactic| k_mem) => `(tactic| walk_at "k_mem9")
local macro_rules | `(tactic| k_subL) => `(tactic| walk_at "k_sub9")
example : True := by
  k_with_none
  w_top off
  trivial
example : True := by
  (k_with "lit" => (first | exact rfl | exact lit_0 | exact lit_1 | exact lit_2 | exact lit_6 | exact lit_05))
  (k_with "bd" => (first | assumption | (refine' bsub ?_ ?_ <;> walk_at "bd") | (refine' badd ?_ ?_ <;> walk_at "bd") | exact Nat.le_refl _))
  (k_with "bf" => (first | ((refine' bfit ?b1z3 ?b2z3 ?b3z3); (case b1z3 => walk_at "bd"); (case b2z3 => walk_at "bd"); (case b3z3 => decide)) | omega))
  (k_with "binaryOp Add float float" => (with_plain (refine' s_add ?fxz4 ?fyz4 ?fbz4 ?_; (case fxz4 => walk_at "lit"); (case fyz4 => walk_at "lit"); (case fbz4 => walk_at "bf"); intro t9z4; (try dsimp only))))
  (k_with "binaryOp Sub float float" => (with_plain (refine' s_sub ?fxz5 ?fyz5 ?fbz5 ?_; (case fxz5 => walk_at "lit"); (case fyz5 => walk_at "lit"); (case fbz5 => walk_at "bf"); intro t9z5; (try dsimp only))))
  (k_with "binaryOp Sub float float" => (with_plain (refine' s_sub0 ?fxz6 ?fyz6 ?fbz6 ?_; (case fxz6 => exact rfl); (case fyz6 => walk_at "lit"); (case fbz6 => (refine' Nat.lt_of_le_of_lt ?b1z6 ?b3z6; (case b1z6 => assumption); (case b3z6 => decide))); intro t9z6; (try dsimp only))))
  (k_with "binaryOp Add float float" => (with_plain (refine' s_add0 ?fxz7 ?fyz7 ?fbz7 ?_; (case fxz7 => exact rfl); (case fyz7 => walk_at "lit"); (case fbz7 => (refine' Nat.lt_of_le_of_lt ?b1z7 ?b3z7; (case b1z7 => assumption); (case b3z7 => decide))); intro t9z7; (try dsimp only))))
  (k_with "binaryOp Div float float" => (with_plain (refine' s_div rfl ?fyz8 ?fbz8 ?_; (case fyz8 => walk_at "lit"); (case fbz8 => omega); intro t9z8; (try dsimp only))))
  (k_with "binaryOp Mod float float" => (with_plain (refine' s_mod rfl ?fyz9 ?fbz9 ?_; (case fyz9 => walk_at "lit"); (case fbz9 => omega); intro z9z9 t9z9; (try dsimp only))))
  (k_with "compareOp Lt float float" => (with_plain (refine' s_lt ?fxz10 ?fyz10 ?fbz10 ?_ ?_; (case fxz10 => walk_at "lit"); (case fyz10 => walk_at "lit"); (case fbz10 => walk_at "bf"); (all_goals (intro q9z10; try first | exact absurd q9z10 (by with_reducible assumption) | exact absurd (by with_reducible assumption) q9z10 | exact absurd q9z10 (by decide) | exact absurd (by decide) q9z10 | (exfalso; omega))))))
  (k_with "compareOp Gt float float" => (with_plain (refine' s_gt ?fxz11 ?fyz11 ?fbz11 ?_ ?_; (case fxz11 => walk_at "lit"); (case fyz11 => walk_at "lit"); (case fbz11 => walk_at "bf"); (all_goals (intro q9z11; try first | exact absurd q9z11 (by with_reducible assumption) | exact absurd (by with_reducible assumption) q9z11 | exact absurd q9z11 (by decide) | exact absurd (by decide) q9z11 | (exfalso; omega))))))
  (k_with "compareOp Eq float float" => (with_plain (refine' s_eq ?fxz12 ?fyz12 ?fbz12 ?_ ?_; (case fxz12 => walk_at "lit"); (case fyz12 => walk_at "lit"); (case fbz12 => walk_at "bf"); (all_goals (intro q9z12; try first | exact absurd q9z12 (by with_reducible assumption) | exact absurd (by with_reducible assumption) q9z12 | exact absurd q9z12 (by decide) | exact absurd (by decide) q9z12 | (exfalso; omega))))))
  (k_with "compareOp NotEq float float" => (with_plain (refine' s_ne ?fxz13 ?fyz13 ?fbz13 ?_ ?_; (case fxz13 => walk_at "lit"); (case fyz13 => walk_at "lit"); (case fbz13 => walk_at "bf"); (all_goals (intro q9z13; try first | exact absurd q9z13 (by with_reducible assumption) | exact absurd (by with_reducible assumption) q9z13 | exact absurd q9z13 (by decide) | exact absurd (by decide) q9z13 | (exfalso; omega))))))
  (k_with "compareOp LtE float float" => (with_plain (refine' s_le ?fxz14 ?fyz14 ?fbz14 ?_ ?_; (case fxz14 => walk_at "lit"); (case fyz14 => walk_at "lit"); (case fbz14 => walk_at "bf"); (all_goals (intro q9z14; try first | exact absurd q9z14 (by with_reducible assumption) | exact absurd (by with_reducible assumption) q9z14 | exact absurd q9z14 (by decide) | exact absurd (by decide) q9z14 | (exfalso; omega))))))
  (k_with "call builtin:max" => ((refine' max3_hi rfl ?kFz15 ?kNz15 ?kaz15 ?kbz15 ?kcz15 ?_; (case kFz15 => k_asm); (case kNz15 => k_asm); (case kaz15 => assumption); (case kbz15 => assumption); (case kcz15 => assumption); intro h9z15 tk9z15 t9z15 F9z15 N9z15; (try dsimp only))))
  (k_with "call builtin:min" => ((refine' min3_lo rfl ?kFz16 ?kNz16 ?kaz16 ?kbz16 ?kcz16 ?_; (case kFz16 => k_asm); (case kNz16 => k_asm); (case kaz16 => assumption); (case kbz16 => assumption); (case kcz16 => assumption); intro h9z16 tk9z16 t9z16 F9z16 N9z16; (try dsimp only))))
  (k_with "binaryOp Div float float" => (with_plain ((refine' s_half rfl ?fxz17 ?fyz17 ?fbz17 ?_); (case fxz17 => exact rfl); (case fyz17 => first | exact lit_2 | exact rfl); (case fbz17 => omega); intro t9z17; (try dsimp only))))
  (k_with "binaryOp Mult float float" => (with_plain ((refine' s_two ?fxz18 ?fyz18 ?fbz18 ?_); (case fxz18 => first | exact lit_2 | exact rfl); (case fyz18 => exact rfl); (case fbz18 => omega); intro t9z18; (try dsimp only))))
  (k_with "binaryOp Mult float float" => (with_plain ((refine' s_16 ?fxz19 ?fyz19 ?fbz19 ?_); (case fxz19 => exact rfl); (case fyz19 => exact rfl); (case fbz19 => omega); intro t9z19; (try dsimp only))))
  (k_with "binaryOp Mult float float" => (with_plain ((refine' s_mulz ?fzz20 ?_); (case fzz20 => first | exact mz_0 | exact mz_1 | exact mz_2 | exact mz_3 | exact mz_4 | exact mz_5); intro t9z20; (try dsimp only))))
  (k_with "binaryOp Sub float int" => (with_plain ((refine' s_subint ?fxz21 ?fbz21 ?_); (case fxz21 => exact rfl); (case fbz21 => omega); intro t9z21; (try dsimp only))))
  (k_with "binaryOp Mult int float" => (with_plain ((refine' s_mulint ?fxz22 ?fyz22 ?fbz22 ?_); (case fxz22 => exact rfl); (case fyz22 => exact rfl); (case fbz22 => omega); intro t9z22; (try dsimp only))))
  (k_with "binaryOp Div int int" => (with_plain ((refine' s_divint rfl ?fxz23 ?fbz23 ?_); (case fxz23 => exact rfl); (case fbz23 => omega); intro t9z23; (try dsimp only))))
  (k_with "enter9" => ((refine' code_def ?k1z24 ?k2z24 ?k3z24 ?k4z24 ?k5z24 ?kAz24 ?kFz24 ?kKz24 ?k6z24 ?k7z24 ?k8z24 ?k9z24 ?kBz24 ?_ ?c2z24 ?c3z24 ?c4z24 ?c5z24; (case kAz24 => exact rfl); (case kFz24 => exact rfl); (case kKz24 => first | exact rfl | assumption); (case k1z24 => k_asm); (case k2z24 => k_asm); (case k3z24 => k_asm); (case k4z24 => k_asm); (case k5z24 => k_asm); (case k6z24 => k_is); (case k7z24 => k_is); (case k8z24 => exact (Room.deep (k' := 1) (by assumption) (by decide)).lt); (case k9z24 => exact BindsTo.of_eq rfl); (case c5z24 => decide); (case kBz24 => exact locs rfl); (case c2z24 => exact rfl); (case c3z24 => exact rfl); (case c4z24 => exact rfl); k_whole; intro g'z24 L'z24 h'z24 FG'z24 F'z24 N'z24 B'z24 X'z24 T'z24; (try dsimp only); (try k_fold))))
  (k_with "call ref" => ((k_here; (refine wpAny_call ?_); k_dflt (walk_at "enter9"))))
  trivial

example : True := by
  (k_with "mlook" => (first | with_reducible exact look_at | with_reducible assumption | (refine look_by2 (by decide) ?_; walk_at "mlook") | exact rfl))
  (k_with "eval Name" => ((k_here; with_plain ((refine' ld ?k1z27 ?k2z27 ?_); (case k1z27 => k_asm); (case k2z27 => walk_at "mlook"); k_whole))))
  trivial
example : True := by
  (k_with "k_ne" => (first | with_reducible assumption | (refine Ne.symm ?_; with_reducible assumption) | exact ltn (by assumption) (by k_mem) | exact Ne.symm (ltn (by assumption) (by k_mem)) | (refine neN ?_; (try dsimp only); first | with_reducible assumption | (refine Ne.symm ?_; with_reducible assumption) | exact ltn (by assumption) (by k_mem) | exact Ne.symm (ltn (by assumption) (by k_mem)) | omega)))
  trivial
example : True := by
  (k_with "memR" => (first | exact memR0 | (refine memR1 ?_; walk_at "memR")))
  (k_with "subscriptTail Name Name ref int" => ((k_here; with_plain ((refine' s_item ?k1z30 ?k2z30 ?k3z30 ?k4z30 ?_ ?k5z30); (case k1z30 => k_asm); (case k2z30 => first | k_mem | assumption | apply_assumption); (case k3z30 => first | assumption | decide | omega); (case k4z30 => first | assumption | rfl); (case k5z30 => with_unfolding_all rfl)))))
  (k_with "subscriptTail Subscript" => ((k_here; with_plain ((refine' s_item ?k1z31 ?k2z31 ?k3z31 ?k4z31 ?_ ?k5z31); (case k1z31 => k_asm); (case k2z31 => first | k_mem | assumption | apply_assumption); (case k3z31 => first | assumption | decide | omega); (case k4z31 => first | assumption | rfl); (case k5z31 => with_unfolding_all rfl)))))
  (k_with "RangeRest" => (with_plain (first | (refine' RangeRest.succ ?_; intro t'z32 h'z32 tk'z32 F'z32 N'z32) | (refine' RangeRest.zero ?_; intro h'z32 tk'z32 F'z32 N'z32))))
  (k_with "for9" => ((k_here; with_plain ((refine' For_turns ?Fz33 ?_ ?hsz33 ?hEz33); (case Fz33 => k_asm); (case hsz33 => intro _; rfl); (case hEz33 => passes_own); k_whole))))
  (k_with "exec For Tuple List cons nil" => (walk_at "for9"))
  (k_with "exec For Tuple Call cons nil" => (walk_at "for9"))
  (k_with "exec For Tuple Name cons nil" => (walk_at "for9"))
  (k_with "exec For Name List cons nil" => (walk_at "for9"))
  (k_with "pyIter ref" => ((k_here; (with_reducible show wpAny _ _ (pyIter (Value.ref _)) (fun it s₂ => TurnsAt _ _ _ _ _ _ _ _ _ it s₂) _ _); with_plain ((refine' iter_listTurns ?hhz38 ?Fz38 ?Nz38 ?mz38 ?cz38 ?dz38 ?_); (case hhz38 => exact rfl); (case Fz38 => k_asm); (case Nz38 => k_asm); (case mz38 => k_mem); (case cz38 => exact rfl); (case dz38 => exact rfl); (intro i'z38 l1z38); (try k_lt l1z38); (try dsimp only [List.map_cons, List.map_nil])))))
  (k_with "ItemsRest" => (with_plain (first | (refine' ItemsRest.val ?_; intro h'z39 tk'z39 F'z39; ktu_objs) | (refine' ItemsRest.pair ?_; intro T'z39 t'z39 h'z39 tk'z39 hT'z39 F'z39; (try dsimp only at hT'z39); ktu_objs) | (refine' ItemsRest.zero ?_; intro h'z39 tk'z39 F'z39 N'z39))))
  trivial
example : True := by
  (k_with "k_mem9" => (with_reducible ((fail_if_success (show (zz9, _) ∈ _)); first | exact List.Mem.head _ | exact mm1 | exact mm2 | exact mm3 | exact mm4 | exact mm5 | exact mm6 | exact mm7 | exact mm8 | exact mm9 | exact mm10 | exact mm11 | exact mm12 | exact mm13 | exact mm14 | exact mm15 | exact mm16 | exact mm17 | exact mm18 | exact mm19 | exact mm20 | exact mm21 | exact mm22 | exact mm23 | exact mm24)))
  (k_with "k_sub9" => (((fail_if_success (with_reducible exact subNil)); (repeat' (with_reducible first | exact subNil | exact sub0 | refine' subK ?_ | refine' subD ?_)); done)))
  trivial

section
/-- one pixel's lights in order: rising for an even row, falling for an odd one -/
def acrL (r : Nat) (a b c : Int) (k : Nat) : Int :=
  if r % 2 = 0 then (match k with | 0 => lo3 a b c | 1 => mi3 a b c | _ => hi3 a b c)
  else (match k with | 0 => hi3 a b c | 1 => mi3 a b c | _ => lo3 a b c)
/-- each pixel's lights in order: the first and third pixel's rising, the others' falling -/
def acr (P : Nat → Nat → Int) (r c : Nat) : Int :=
  if r % 2 = 0 then (match c with | 0 => lo3 (P r 0) (P r 1) (P r 2) | 1 => mi3 (P r 0) (P r 1) (P r 2) | _ => hi3 (P r 0) (P r 1) (P r 2))
  else (match c with | 0 => hi3 (P r 0) (P r 1) (P r 2) | 1 => mi3 (P r 0) (P r 1) (P r 2) | _ => lo3 (P r 0) (P r 1) (P r 2))
inductive AcrP (P : Nat → Nat → Int) (p : Addr) (e : Nat) (rest : List (Addr × Obj)) : Value → List (Addr × Obj) → Prop
  | mk (q0 q1 q2 q3 : Addr) (f0 f1 f2 f3 : Nat) (s00 s01 s02 s10 s11 s12 s20 s21 s22 s30 s31 s32 : Tok) : (∀ x ∈ rest, x.1 < q0) → ltA p q0 → ltA q0 q1 → ltA q1 q2 → ltA q2 q3 → AcrP P p e rest .none ((p, prow q0 q1 q2 q3 e) :: (q0, frow (acr P 0 0) (acr P 0 1) (acr P 0 2) s00 s01 s02 f0) :: (q1, frow (acr P 1 0) (acr P 1 1) (acr P 1 2) s10 s11 s12 f1) :: (q2, frow (acr P 2 0) (acr P 2 1) (acr P 2 2) s20 s21 s22 f2) :: (q3, frow (acr P 3 0) (acr P 3 1) (acr P 3 2) s30 s31 s32 f3) :: rest)
theorem ltM {D a : Addr} {o : Obj} {l : List (Addr × Obj)} (h : ∀ p ∈ l, p.1 < D) (hm : (a, o) ∈ l) : ltA a D := h _ hm
theorem ltR {D : Addr} {all rest : List (Addr × Obj)} (h : ∀ p ∈ all, p.1 < D) (hs : ∀ x ∈ rest, x ∈ all) : ∀ x ∈ rest, x.1 < D := fun x hx => h x (hs x hx)
theorem acr_even {r : Nat} {k : Int} (e : k = (r : Int)) (h : k.fmod 2 = 0) (a b c : Int) : acrL r a b c 0 = lo3 a b c ∧ acrL r a b c 1 = mi3 a b c ∧ acrL r a b c 2 = hi3 a b c := by
  have : r % 2 = 0 := by rw [Int.fmod_eq_emod_of_nonneg _ (by decide)] at h; omega
  unfold acrL
  rw [if_pos this, if_pos this, if_pos this]
  exact ⟨rfl, rfl, rfl⟩
theorem acr_odd {r : Nat} {k : Int} (e : k = (r : Int)) (h : ¬ k.fmod 2 = 0) (a b c : Int) : acrL r a b c 0 = hi3 a b c ∧ acrL r a b c 1 = mi3 a b c ∧ acrL r a b c 2 = lo3 a b c := by
  have : ¬ r % 2 = 0 := by rw [Int.fmod_eq_emod_of_nonneg _ (by decide)] at h; omega
  unfold acrL
  rw [if_neg this, if_neg this, if_neg this]
  exact ⟨rfl, rfl, rfl⟩
theorem low_eq (a b c : Int) : 2 * (hi3 a b c + lo3 a b c) - 2 * hi3 a b c = 2 * lo3 a b c := by omega
theorem mid_eq (a b c : Int) : 2 * a + 2 * b + 2 * c - 2 * hi3 a b c - (2 * (hi3 a b c + lo3 a b c) - 2 * hi3 a b c) = 2 * mi3 a b c := by unfold mi3; omega
/-- the walk of one turn -/
def GateX (w : World) (g : Heap) (L : Addr) (p : Addr) (e : Nat) (A : Around) (T : Sem Flow) (E : Value → Shared → Prop) : Prop :=
  ∀ (a0 : Addr) (R : List Value) (qv : Value → List Value) (e0 r : Nat) (k a b c : Int) (tk0 t u v : Tok) (m : Str → Option Value) (news : List (Addr × Obj)) (news1 : Value → List (Addr × Obj)) (s : Shared) (Q : Flow → Shared → Prop),
  m (Str.ofString "picture") = some (.ref p) → m (Str.ofString "r") = some (.int k tk0) → (k = (r : Int) ∧ 0 ≤ k ∧ k < 2 ^ 63) → ((0 ≤ a ∧ a ≤ 15) ∧ (0 ≤ b ∧ b ≤ 15) ∧ (0 ≤ c ∧ c ≤ 15)) →
  (p, listOf R.toArray e) ∈ news → R[k.toNat]? = some (.ref a0) → (a0, frow a b c t u v e0) ∈ news →
  (∀ v, ki_setL R k.toNat v = some (qv v) ∧ Upd p (listOf R.toArray e) (listOf (qv v).toArray e) news (news1 v)) →
  Fr g L s.heap m → News g L s.heap news →
  (∀ D x0 x1 x2 s0 s1 s2 f m' h' tk', (∀ y ∈ news, y.1 < D) → x0 = fl (2 * acrL r a b c 0) → x1 = fl (2 * acrL r a b c 1) → x2 = fl (2 * acrL r a b c 2) → m' (Str.ofString "picture") = some (.ref p) → Fr g L h' m' → News g L h' ((D, listOf #[.float x0 s0, .float x1 s1, .float x2 s2] f) :: news1 (.ref D)) → Q .next { s with heap := h', toks := tk' }) →
  wpAny (model PySem.Challenge.rw_tr0025_01.row.prog w) A T Q E s
theorem gateX_use {w : World} {g : Heap} {L p : Addr} {e : Nat} {A : Around} {T : Sem Flow} {E : Value → Shared → Prop} (G : GateX w g L p e A T E)
  {a0 : Addr} {R : List Value} {qv : Value → List Value} {e0 r : Nat} {k a b c : Int} {tk0 t u v : Tok} {m : Str → Option Value} {news : List (Addr × Obj)} {news1 : Value → List (Addr × Obj)} {s : Shared} {Q : Flow → Shared → Prop}
  (F : Fr g L s.heap m) (N : News g L s.heap news) (m1 : m (Str.ofString "picture") = some (.ref p)) (m2 : m (Str.ofString "r") = some (.int k tk0)) (hp : (p, listOf R.toArray e) ∈ news) (hx : R[k.toNat]? = some (.ref a0)) (ha : (a0, frow a b c t u v e0) ∈ news)
  (hq : ∀ v, ki_setL R k.toNat v = some (qv v)) (hu : ∀ v, Upd p (listOf R.toArray e) (listOf (qv v).toArray e) news (news1 v)) (hk : k = (r : Int) ∧ 0 ≤ k ∧ k < 2 ^ 63) (hb : (0 ≤ a ∧ a ≤ 15) ∧ (0 ≤ b ∧ b ≤ 15) ∧ (0 ≤ c ∧ c ≤ 15))
  (ret : ∀ D s0 s1 s2 f m' h' tk', (∀ y ∈ news, y.1 < D) → m' (Str.ofString "picture") = some (.ref p) → Fr g L h' m' → News g L h' ((D, frow (acrL r a b c 0) (acrL r a b c 1) (acrL r a b c 2) s0 s1 s2 f) :: news1 (.ref D)) → Q .next { s with heap := h', toks := tk' }) :
  wpAny (model PySem.Challenge.rw_tr0025_01.row.prog w) A T Q E s :=
  G a0 R qv e0 r k a b c tk0 t u v m news news1 s Q m1 m2 hk hb hp hx ha (fun v => ⟨hq v, hu v⟩) F N fun D x0 x1 x2 s0 s1 s2 f m' h' tk' lt e0 e1 e2 hm F' N' => by
    subst e0 e1 e2
    exact ret D s0 s1 s2 f m' h' tk' lt hm F' N'
theorem ki_setT {h₀ : Heap} {L D p : Addr} {oD : Obj} {m : Str → Option Value} {all news news' : List (Addr × Obj)} {prog : Program} {w : World} {A : Around} {E : Value → Shared → Prop} {s : Shared} {R q : List Value} {e : Nat} {k : Int} {t : Tok} {v : Value} {Q : Unit → Shared → Prop}
    (F : Fr h₀ L s.heap m) (N : News h₀ L s.heap all) (hD : (D, oD) ∈ all) (hs : ∀ x ∈ news, x ∈ all) (hn : D ≠ p) (h0 : 0 ≤ k ∧ k < 2 ^ 63) (e1 : ki_setL R k.toNat v = some q) (U : Upd p (listOf R.toArray e) (listOf q.toArray e) news news')
    (h : ∀ h', Fr h₀ L h' m → News h₀ L h' ((D, oD) :: news') → Q () { s with heap := h' }) : wpAny (model prog w) A (setItem (.ref p) (.int k t) v) Q E s :=
  ki_set F (fun x hx => by rcases List.mem_cons.mp hx with rfl | hx; exact N _ hD; exact N _ (hs _ hx)) h0.1 h0.2 e1 (Upd.tail hn U) h
set_option maxHeartbeats 8000000 in
theorem c_acrossA (w : World) (rest : List (Addr × Obj)) (P : Nat → Nat → Int) (hP : ∀ r c, 0 ≤ P r c ∧ P r c ≤ 15) (p r0 r1 r2 r3 : Addr) (e e0 e1 e2 e3 : Nat) (t00 t01 t02 t10 t11 t12 t20 t21 t22 t30 t31 t32 : Tok)
    (hp : ∀ x ∈ rest, x.1 ≠ p) (hr : r0 ≠ p ∧ r1 ≠ p ∧ r2 ≠ p ∧ r3 ≠ p) :
    Ctr w 4 92 [.ref p] ((p, prow r0 r1 r2 r3 e) :: (r0, frow (P 0 0) (P 0 1) (P 0 2) t00 t01 t02 e0) :: (r1, frow (P 1 0) (P 1 1) (P 1 2) t10 t11 t12 e1) :: (r2, frow (P 2 0) (P 2 1) (P 2 2) t20 t21 t22 e2) :: (r3, frow (P 3 0) (P 3 1) (P 3 2) t30 t31 t32 e3) :: rest) (AcrP P p e rest) := by
  have hr0 : @Ne Nat r0 p := hr.1
  have hr1 : @Ne Nat r1 p := hr.2.1
  have hr2 : @Ne Nat r2 p := hr.2.2.1
  have hr3 : @Ne Nat r3 p := hr.2.2.2
  clear hr
  refine fillG PySem.Challenge.rw_tr0025_01 hd.heap_39 ?_
  k_fill
  unfold FillG Ctr
  intro mean mg mb dp un gd cn cs a ccd cl outer A₀ base h₀ L m s Q E B F X N T hk hroom hret
  have hlt := hroom.lt
  refine wpAny_call ?_
  k_dflt cell_enter
  repeat' (first | ((fail_if_success (with_reducible show wpAny _ _ (execs (Stmt.Assign [Expr.Tuple _ _ _] _ _ :: _) _) _ _ _)); first | (k_unfold; (try dsimp only)) | (k_end; wrow_close) | walk1 | (dsimp only; walk1) | (leave1; walk_say "STEP leave1"; try dsimp only)) | fail "x")
  with_reducible refine' cut_treeF ?xcF (fun g L => GateX w g L p e) ?_ ?_
  (case xcF => k_asm)
  · unfold GateX
    clear hret hP hp hr0 hr1 hr2 hr3
    intro a0 R qv e0 r k a b c tk0 t u v m news news1 s Q hm1 hm2 ⟨hk, hk0, hk1⟩ ⟨ha, hb, hc⟩ hp hx hrow hU F9 N9 ret
    obtain ⟨⟨hl0, hlM, hM⟩, bM, bm⟩ := lohiB (up16 ha) (up16 hb) (up16 hc)
    have hM5 := lohi15 ha hb hc
    have ba := bd2 (up16 ha)
    have bb := bd2 (up16 hb)
    have bc := bd2 (up16 hc)
    have b2 : (2 * (hi3 a b c + lo3 a b c)).natAbs ≤ 64 := by omega
    repeat' (first
    | ((with_reducible show wpAny _ _ (call (Value.ref 35) [Value.float _ _, Value.float _ _, Value.float _ _]) _ _ _); with_plain (
      (refine' ctr_use (c_hsv _ _ _ _ _ _ _ _ (up16 ha) (up16 hb) (up16 hc)) ?xv1 ?xv2 ?xv3 ?xv4 ?xv5 ?xv6 ?xv7 ?_; (case xv1 => k_asm); (case xv2 => k_asm); (case xv3 => k_asm); (case xv4 => k_asm); (case xv5 => k_asm); (case xv6 => first | exact rfl | assumption); (case xv7 => exact Room.deep (by assumption) (by decide)));
      (intro r9 n9 h9 tk9 F9 N9 P9); (obtain ⟨q9, hh9, ss9, t19, t29, t39, l9, e5, e6⟩ := P9); (clear e5 e6); (try dsimp only); (try k_sweep)))
    | ((with_reducible show wpAny _ _ (call (Value.ref 28) [Value.float _ _, Value.float _ _, Value.float _ _]) _ _ _); with_plain (
      (refine' ctr_use (c_hls _ _ _ _ _ _ _ _ ha hb hc) ?xl1 ?xl2 ?xl3 ?xl4 ?xl5 ?xl6 ?xl7 ?_; (case xl1 => k_asm); (case xl2 => k_asm); (case xl3 => k_asm); (case xl4 => k_asm); (case xl5 => k_asm); (case xl6 => first | exact rfl | assumption); (case xl7 => exact Room.deep (by assumption) (by decide)));
      (intro r9 n9 h9 tk9 F9 N9 P9); (obtain ⟨q9, hh9, ll9, ss9, t19, t29, t39, l9, e3⟩ := P9); (subst e3); (try dsimp only); (try k_sweep)))
    | ((with_reducible show wpAny _ _ (setItem _ _ _) _ _ _); ((with_reducible refine' ki_setT ?xsF ?xsN ?xsD ?xsS ?xsn ⟨hk0, hk1⟩ (hU _).1 (hU _).2 ?_); (case xsF => k_asm); (case xsN => k_asm); (case xsD => k_mem); (case xsS => walk_at "memR"); (case xsn => exact Ne.symm (ltn (by assumption) (by first | assumption | (refine List.Mem.tail _ ?_; first | assumption | (refine List.Mem.tail _ ?_; first | assumption | (refine List.Mem.tail _ ?_; first | assumption | (refine List.Mem.tail _ ?_; assumption))))))); (intro hS9 FS9 NS9)))
    | first | (k_unfold; (try dsimp only)) | (k_end; wrow_close) | walk1 | (dsimp only; walk1) | (leave1; walk_say "STEP leave1"; try dsimp only))
    · with_reducible refine' ret _ _ _ _ _ _ _ _ _ _ _ ?rAlt ?rAe0 ?rAe1 ?rAe2 ?rAm ?rAF ?rAN
      (case rAF => k_asm)
      (case rAN => k_asm)
      (case rAm => walk_at "mlook")
      (case rAlt => exact ltR (by assumption) (by walk_at "memR"))
      (case rAe0 => first | (rw [(acr_even hk (by assumption) a b c).1]; exact congrArg fl (low_eq a b c)) | (rw [(acr_odd hk (by assumption) a b c).1]))
      (case rAe1 => first | (rw [(acr_even hk (by assumption) a b c).2.1]; exact congrArg fl (mid_eq a b c)) | (rw [(acr_odd hk (by assumption) a b c).2.1]; exact congrArg fl (mid_eq a b c)))
      (case rAe2 => first | (rw [(acr_even hk (by assumption) a b c).2.2]) | (rw [(acr_odd hk (by assumption) a b c).2.2]; exact congrArg fl (low_eq a b c)))
    · with_reducible refine' ret _ _ _ _ _ _ _ _ _ _ _ ?rBlt ?rBe0 ?rBe1 ?rBe2 ?rBm ?rBF ?rBN
      (case rBF => k_asm)
      (case rBN => k_asm)
      (case rBm => walk_at "mlook")
      (case rBlt => exact ltR (by assumption) (by walk_at "memR"))
      (case rBe0 => first | (rw [(acr_even hk (by assumption) a b c).1]; exact congrArg fl (low_eq a b c)) | (rw [(acr_odd hk (by assumption) a b c).1]))
      (case rBe1 => first | (rw [(acr_even hk (by assumption) a b c).2.1]; exact congrArg fl (mid_eq a b c)) | (rw [(acr_odd hk (by assumption) a b c).2.1]; exact congrArg fl (mid_eq a b c)))
      (case rBe2 => first | (rw [(acr_even hk (by assumption) a b c).2.2]) | (rw [(acr_odd hk (by assumption) a b c).2.2]; exact congrArg fl (low_eq a b c)))
  intro gateX
  repeat' (first | ((with_reducible show wpAny _ _ (execs (Stmt.Assign [Expr.Tuple _ _ _] _ _ :: _) _) _ _ _); ((with_reducible refine' gateX_use gateX ?xuF ?xuN ?xum1 ?xum2 ?xup ?xux ?xua ?xuq ?xuu ?xuk ?xub ?_); (case xuF => k_asm); (case xuN => k_asm); (case xum1 => walk_at "mlook"); (case xum2 => exact rfl); (case xup => k_mem); (case xuq => (intro v; exact rfl)); (case xux => exact rfl); (case xua => k_mem); (case xuu => (intro v; k_upd)); (case xuk => exact ⟨rfl, by decide, by decide⟩); (case xub => exact ⟨hP _ _, hP _ _, hP _ _⟩); (intro D9 s9 s8 s7 f9 m9 h9 tk9 lt9 hm9 F9 N9); (try dsimp only at N9))) | first | (k_unfold; (try dsimp only)) | (k_end; wrow_close) | walk1 | (dsimp only; walk1) | (leave1; walk_say "STEP leave1"; try dsimp only))
  refine' unr_tail [(p, prow ?ua01 ?ua11 ?ua21 ?ua31 _), (?ua01, _), (?ua11, _), (?ua21, _), (?ua31, _)] rest ?uF1 ?uN1 ?uI1 ?uS1 ?uR1 ?uO1 ?uX1 ?_
  (case uF1 => k_asm)
  (case uN1 => k_asm)
  (case uI1 => k_mem)
  (case uS1 => k_subL)
  (case uR1 => walk_at "memR")
  (case uO1 => k_offL)
  (case uX1 => exact neP (ltR (by assumption) (by walk_at "memR")))
  (try simp only [List.cons_append, List.nil_append])
  repeat' (first | ((with_reducible show wpAny _ _ (execs (Stmt.Assign [Expr.Tuple _ _ _] _ _ :: _) _) _ _ _); ((with_reducible refine' gateX_use gateX ?xuF ?xuN ?xum1 ?xum2 ?xup ?xux ?xua ?xuq ?xuu ?xuk ?xub ?_); (case xuF => k_asm); (case xuN => k_asm); (case xum1 => walk_at "mlook"); (case xum2 => exact rfl); (case xup => k_mem); (case xuq => (intro v; exact rfl)); (case xux => exact rfl); (case xua => k_mem); (case xuu => (intro v; k_upd)); (case xuk => exact ⟨rfl, by decide, by decide⟩); (case xub => exact ⟨hP _ _, hP _ _, hP _ _⟩); (intro D9 s9 s8 s7 f9 m9 h9 tk9 lt9 hm9 F9 N9); (try dsimp only at N9))) | first | (k_unfold; (try dsimp only)) | (k_end; wrow_close) | walk1 | (dsimp only; walk1) | (leave1; walk_say "STEP leave1"; try dsimp only))

  refine' unr_tail [(p, prow ?ua02 ?ua12 ?ua22 ?ua32 _), (?ua02, _), (?ua12, _), (?ua22, _), (?ua32, _)] rest ?uF2 ?uN2 ?uI2 ?uS2 ?uR2 ?uO2 ?uX2 ?_
  (case uF2 => k_asm)
  (case uN2 => k_asm)
  (case uI2 => k_mem)
  (case uS2 => k_subL)
  (case uR2 => walk_at "memR")
  (case uO2 => k_offL)
  (case uX2 => exact neP (ltR (by assumption) (by walk_at "memR")))
  (try simp only [List.cons_append, List.nil_append])
  repeat' (first | ((with_reducible show wpAny _ _ (execs (Stmt.Assign [Expr.Tuple _ _ _] _ _ :: _) _) _ _ _); ((with_reducible refine' gateX_use gateX ?xuF ?xuN ?xum1 ?xum2 ?xup ?xux ?xua ?xuq ?xuu ?xuk ?xub ?_); (case xuF => k_asm); (case xuN => k_asm); (case xum1 => walk_at "mlook"); (case xum2 => exact rfl); (case xup => k_mem); (case xuq => (intro v; exact rfl)); (case xux => exact rfl); (case xua => k_mem); (case xuu => (intro v; k_upd)); (case xuk => exact ⟨rfl, by decide, by decide⟩); (case xub => exact ⟨hP _ _, hP _ _, hP _ _⟩); (intro D9 s9 s8 s7 f9 m9 h9 tk9 lt9 hm9 F9 N9); (try dsimp only at N9))) | first | (k_unfold; (try dsimp only)) | (k_end; wrow_close) | walk1 | (dsimp only; walk1) | (leave1; walk_say "STEP leave1"; try dsimp only))

  refine' unr_tail [(p, prow ?ua03 ?ua13 ?ua23 ?ua33 _), (?ua03, _), (?ua13, _), (?ua23, _), (?ua33, _)] rest ?uF3 ?uN3 ?uI3 ?uS3 ?uR3 ?uO3 ?uX3 ?_
  (case uF3 => k_asm)
  (case uN3 => k_asm)
  (case uI3 => k_mem)
  (case uS3 => k_subL)
  (case uR3 => walk_at "memR")
  (case uO3 => k_offL)
  (case uX3 => exact neP (ltR (by assumption) (by walk_at "memR")))
  (try simp only [List.cons_append, List.nil_append])
  repeat' (first | ((with_reducible show wpAny _ _ (execs (Stmt.Assign [Expr.Tuple _ _ _] _ _ :: _) _) _ _ _); ((with_reducible refine' gateX_use gateX ?xuF ?xuN ?xum1 ?xum2 ?xup ?xux ?xua ?xuq ?xuu ?xuk ?xub ?_); (case xuF => k_asm); (case xuN => k_asm); (case xum1 => walk_at "mlook"); (case xum2 => exact rfl); (case xup => k_mem); (case xuq => (intro v; exact rfl)); (case xux => exact rfl); (case xua => k_mem); (case xuu => (intro v; k_upd)); (case xuk => exact ⟨rfl, by decide, by decide⟩); (case xub => exact ⟨hP _ _, hP _ _, hP _ _⟩); (intro D9 s9 s8 s7 f9 m9 h9 tk9 lt9 hm9 F9 N9); (try dsimp only at N9))) | first | (k_unfold; (try dsimp only)) | (k_end; wrow_close) | walk1 | (dsimp only; walk1) | (leave1; walk_say "STEP leave1"; try dsimp only))

  refine' unr_tail [(p, prow ?ua04 ?ua14 ?ua24 ?ua34 _), (?ua04, _), (?ua14, _), (?ua24, _), (?ua34, _)] rest ?uF4 ?uN4 ?uI4 ?uS4 ?uR4 ?uO4 ?uX4 ?_
  (case uF4 => k_asm)
  (case uN4 => k_asm)
  (case uI4 => k_mem)
  (case uS4 => k_subL)
  (case uR4 => walk_at "memR")
  (case uO4 => k_offL)
  (case uX4 => exact neP (ltR (by assumption) (by walk_at "memR")))
  (try simp only [List.cons_append, List.nil_append])
  repeat' (first | ((with_reducible show wpAny _ _ (execs (Stmt.Assign [Expr.Tuple _ _ _] _ _ :: _) _) _ _ _); ((with_reducible refine' gateX_use gateX ?xuF ?xuN ?xum1 ?xum2 ?xup ?xux ?xua ?xuq ?xuu ?xuk ?xub ?_); (case xuF => k_asm); (case xuN => k_asm); (case xum1 => walk_at "mlook"); (case xum2 => exact rfl); (case xup => k_mem); (case xuq => (intro v; exact rfl)); (case xux => exact rfl); (case xua => k_mem); (case xuu => (intro v; k_upd)); (case xuk => exact ⟨rfl, by decide, by decide⟩); (case xub => exact ⟨hP _ _, hP _ _, hP _ _⟩); (intro D9 s9 s8 s7 f9 m9 h9 tk9 lt9 hm9 F9 N9); (try dsimp only at N9))) | first | (k_unfold; (try dsimp only)) | (k_end; wrow_close) | walk1 | (dsimp only; walk1) | (leave1; walk_say "STEP leave1"; try dsimp only))
  refine' hret _ _ _ _ ?zF ?zN (AcrP.mk _ _ _ _ _ _ _ _ _ _ _ _ _ _ _ _ _ _ _ _ ?z0 ?z1 ?z2 ?z3 ?z4)
  (case zF => k_asm)
  (case zN => k_asm)
  (case z0 => exact ltR (by assumption) (by walk_at "memR"))
  (case z1 => exact ltM (by assumption) (by k_mem))
  (case z2 => exact ltM (by assumption) (by k_mem))
  (case z3 => exact ltM (by assumption) (by k_mem))
  (case z4 => exact ltM (by assumption) (by k_mem))

end
example : True := by
  k_with_none
  w_top off
  trivial
example : True := by
  (k_with "lit" => (first | exact rfl | exact lit_0 | exact lit_1 | exact lit_2 | exact lit_6 | exact lit_05))
  (k_with "bd" => (first | assumption | (refine' bsub ?_ ?_ <;> walk_at "bd") | (refine' badd ?_ ?_ <;> walk_at "bd") | exact Nat.le_refl _))
  (k_with "bf" => (first | ((refine' bfit ?b1z3 ?b2z3 ?b3z3); (case b1z3 => walk_at "bd"); (case b2z3 => walk_at "bd"); (case b3z3 => decide)) | omega))
  (k_with "binaryOp Add float float" => (with_plain (refine' s_add ?fxz4 ?fyz4 ?fbz4 ?_; (case fxz4 => walk_at "lit"); (case fyz4 => walk_at "lit"); (case fbz4 => walk_at "bf"); intro t9z4; (try dsimp only))))
  (k_with "binaryOp Sub float float" => (with_plain (refine' s_sub ?fxz5 ?fyz5 ?fbz5 ?_; (case fxz5 => walk_at "lit"); (case fyz5 => walk_at "lit"); (case fbz5 => walk_at "bf"); intro t9z5; (try dsimp only))))
  (k_with "binaryOp Sub float float" => (with_plain (refine' s_sub0 ?fxz6 ?fyz6 ?fbz6 ?_; (case fxz6 => exact rfl); (case fyz6 => walk_at "lit"); (case fbz6 => (refine' Nat.lt_of_le_of_lt ?b1z6 ?b3z6; (case b1z6 => assumption); (case b3z6 => decide))); intro t9z6; (try dsimp only))))
  (k_with "binaryOp Add float float" => (with_plain (refine' s_add0 ?fxz7 ?fyz7 ?fbz7 ?_; (case fxz7 => exact rfl); (case fyz7 => walk_at "lit"); (case fbz7 => (refine' Nat.lt_of_le_of_lt ?b1z7 ?b3z7; (case b1z7 => assumption); (case b3z7 => decide))); intro t9z7; (try dsimp only))))
  (k_with "binaryOp Div float float" => (with_plain (refine' s_div rfl ?fyz8 ?fbz8 ?_; (case fyz8 => walk_at "lit"); (case fbz8 => omega); intro t9z8; (try dsimp only))))
  (k_with "binaryOp Mod float float" => (with_plain (refine' s_mod rfl ?fyz9 ?fbz9 ?_; (case fyz9 => walk_at "lit"); (case fbz9 => omega); intro z9z9 t9z9; (try dsimp only))))
  (k_with "compareOp Lt float float" => (with_plain (refine' s_lt ?fxz10 ?fyz10 ?fbz10 ?_ ?_; (case fxz10 => walk_at "lit"); (case fyz10 => walk_at "lit"); (case fbz10 => walk_at "bf"); (all_goals (intro q9z10; try first | exact absurd q9z10 (by with_reducible assumption) | exact absurd (by with_reducible assumption) q9z10 | exact absurd q9z10 (by decide) | exact absurd (by decide) q9z10 | (exfalso; omega))))))
  (k_with "compareOp Gt float float" => (with_plain (refine' s_gt ?fxz11 ?fyz11 ?fbz11 ?_ ?_; (case fxz11 => walk_at "lit"); (case fyz11 => walk_at "lit"); (case fbz11 => walk_at "bf"); (all_goals (intro q9z11; try first | exact absurd q9z11 (by with_reducible assumption) | exact absurd (by with_reducible assumption) q9z11 | exact absurd q9z11 (by decide) | exact absurd (by decide) q9z11 | (exfalso; omega))))))
  (k_with "compareOp Eq float float" => (with_plain (refine' s_eq ?fxz12 ?fyz12 ?fbz12 ?_ ?_; (case fxz12 => walk_at "lit"); (case fyz12 => walk_at "lit"); (case fbz12 => walk_at "bf"); (all_goals (intro q9z12; try first | exact absurd q9z12 (by with_reducible assumption) | exact absurd (by with_reducible assumption) q9z12 | exact absurd q9z12 (by decide) | exact absurd (by decide) q9z12 | (exfalso; omega))))))
  (k_with "compareOp NotEq float float" => (with_plain (refine' s_ne ?fxz13 ?fyz13 ?fbz13 ?_ ?_; (case fxz13 => walk_at "lit"); (case fyz13 => walk_at "lit"); (case fbz13 => walk_at "bf"); (all_goals (intro q9z13; try first | exact absurd q9z13 (by with_reducible assumption) | exact absurd (by with_reducible assumption) q9z13 | exact absurd q9z13 (by decide) | exact absurd (by decide) q9z13 | (exfalso; omega))))))
  (k_with "compareOp LtE float float" => (with_plain (refine' s_le ?fxz14 ?fyz14 ?fbz14 ?_ ?_; (case fxz14 => walk_at "lit"); (case fyz14 => walk_at "lit"); (case fbz14 => walk_at "bf"); (all_goals (intro q9z14; try first | exact absurd q9z14 (by with_reducible assumption) | exact absurd (by with_reducible assumption) q9z14 | exact absurd q9z14 (by decide) | exact absurd (by decide) q9z14 | (exfalso; omega))))))
  (k_with "call builtin:max" => ((refine' max3_hi rfl ?kFz15 ?kNz15 ?kaz15 ?kbz15 ?kcz15 ?_; (case kFz15 => k_asm); (case kNz15 => k_asm); (case kaz15 => assumption); (case kbz15 => assumption); (case kcz15 => assumption); intro h9z15 tk9z15 t9z15 F9z15 N9z15; (try dsimp only))))
  (k_with "call builtin:min" => ((refine' min3_lo rfl ?kFz16 ?kNz16 ?kaz16 ?kbz16 ?kcz16 ?_; (case kFz16 => k_asm); (case kNz16 => k_asm); (case kaz16 => assumption); (case kbz16 => assumption); (case kcz16 => assumption); intro h9z16 tk9z16 t9z16 F9z16 N9z16; (try dsimp only))))
  (k_with "binaryOp Div float float" => (with_plain ((refine' s_half rfl ?fxz17 ?fyz17 ?fbz17 ?_); (case fxz17 => exact rfl); (case fyz17 => first | exact lit_2 | exact rfl); (case fbz17 => omega); intro t9z17; (try dsimp only))))
  (k_with "binaryOp Mult float float" => (with_plain ((refine' s_two ?fxz18 ?fyz18 ?fbz18 ?_); (case fxz18 => first | exact lit_2 | exact rfl); (case fyz18 => exact rfl); (case fbz18 => omega); intro t9z18; (try dsimp only))))
  (k_with "binaryOp Mult float float" => (with_plain ((refine' s_16 ?fxz19 ?fyz19 ?fbz19 ?_); (case fxz19 => exact rfl); (case fyz19 => exact rfl); (case fbz19 => omega); intro t9z19; (try dsimp only))))
  (k_with "binaryOp Mult float float" => (with_plain ((refine' s_mulz ?fzz20 ?_); (case fzz20 => first | exact mz_0 | exact mz_1 | exact mz_2 | exact mz_3 | exact mz_4 | exact mz_5); intro t9z20; (try dsimp only))))
  (k_with "binaryOp Sub float int" => (with_plain ((refine' s_subint ?fxz21 ?fbz21 ?_); (case fxz21 => exact rfl); (case fbz21 => omega); intro t9z21; (try dsimp only))))
  (k_with "binaryOp Mult int float" => (with_plain ((refine' s_mulint ?fxz22 ?fyz22 ?fbz22 ?_); (case fxz22 => exact rfl); (case fyz22 => exact rfl); (case fbz22 => omega); intro t9z22; (try dsimp only))))
  (k_with "binaryOp Div int int" => (with_plain ((refine' s_divint rfl ?fxz23 ?fbz23 ?_); (case fxz23 => exact rfl); (case fbz23 => omega); intro t9z23; (try dsimp only))))
  (k_with "enter9" => ((refine' code_def ?k1z24 ?k2z24 ?k3z24 ?k4z24 ?k5z24 ?kAz24 ?kFz24 ?kKz24 ?k6z24 ?k7z24 ?k8z24 ?k9z24 ?kBz24 ?_ ?c2z24 ?c3z24 ?c4z24 ?c5z24; (case kAz24 => exact rfl); (case kFz24 => exact rfl); (case kKz24 => first | exact rfl | assumption); (case k1z24 => k_asm); (case k2z24 => k_asm); (case k3z24 => k_asm); (case k4z24 => k_asm); (case k5z24 => k_asm); (case k6z24 => k_is); (case k7z24 => k_is); (case k8z24 => exact (Room.deep (k' := 1) (by assumption) (by decide)).lt); (case k9z24 => exact BindsTo.of_eq rfl); (case c5z24 => decide); (case kBz24 => exact locs rfl); (case c2z24 => exact rfl); (case c3z24 => exact rfl); (case c4z24 => exact rfl); k_whole; intro g'z24 L'z24 h'z24 FG'z24 F'z24 N'z24 B'z24 X'z24 T'z24; (try dsimp only); (try k_fold))))
  (k_with "call ref" => ((k_here; (refine wpAny_call ?_); k_dflt (walk_at "enter9"))))
  trivial

example : True := by
  (k_with "mlook" => (first | with_reducible exact look_at | with_reducible assumption | (refine look_by2 (by decide) ?_; walk_at "mlook") | exact rfl))
  (k_with "eval Name" => ((k_here; with_plain ((refine' ld ?k1z27 ?k2z27 ?_); (case k1z27 => k_asm); (case k2z27 => walk_at "mlook"); k_whole))))
  trivial
example : True := by
  (k_with "k_ne" => (first | with_reducible assumption | (refine Ne.symm ?_; with_reducible assumption) | exact ltn (by assumption) (by k_mem) | exact Ne.symm (ltn (by assumption) (by k_mem)) | (refine neN ?_; (try dsimp only); first | with_reducible assumption | (refine Ne.symm ?_; with_reducible assumption) | exact ltn (by assumption) (by k_mem) | exact Ne.symm (ltn (by assumption) (by k_mem)) | omega)))
  trivial
example : True := by
  (k_with "memR" => (first | exact memR0 | (refine memR1 ?_; walk_at "memR")))
  (k_with "subscriptTail Name Name ref int" => ((k_here; with_plain ((refine' s_item ?k1z30 ?k2z30 ?k3z30 ?k4z30 ?_ ?k5z30); (case k1z30 => k_asm); (case k2z30 => first | k_mem | assumption | apply_assumption); (case k3z30 => first | assumption | decide | omega); (case k4z30 => first | assumption | rfl); (case k5z30 => with_unfolding_all rfl)))))
  (k_with "subscriptTail Subscript" => ((k_here; with_plain ((refine' s_item ?k1z31 ?k2z31 ?k3z31 ?k4z31 ?_ ?k5z31); (case k1z31 => k_asm); (case k2z31 => first | k_mem | assumption | apply_assumption); (case k3z31 => first | assumption | decide | omega); (case k4z31 => first | assumption | rfl); (case k5z31 => with_unfolding_all rfl)))))
  (k_with "RangeRest" => (with_plain (first | (refine' RangeRest.succ ?_; intro t'z32 h'z32 tk'z32 F'z32 N'z32) | (refine' RangeRest.zero ?_; intro h'z32 tk'z32 F'z32 N'z32))))
  (k_with "for9" => ((k_here; with_plain ((refine' For_turns ?Fz33 ?_ ?hsz33 ?hEz33); (case Fz33 => k_asm); (case hsz33 => intro _; rfl); (case hEz33 => passes_own); k_whole))))
  (k_with "exec For Tuple List cons nil" => (walk_at "for9"))
  (k_with "exec For Tuple Call cons nil" => (walk_at "for9"))
  (k_with "exec For Tuple Name cons nil" => (walk_at "for9"))
  (k_with "exec For Name List cons nil" => (walk_at "for9"))
  (k_with "pyIter ref" => ((k_here; (with_reducible show wpAny _ _ (pyIter (Value.ref _)) (fun it s₂ => TurnsAt _ _ _ _ _ _ _ _ _ it s₂) _ _); with_plain ((refine' iter_listTurns ?hhz38 ?Fz38 ?Nz38 ?mz38 ?cz38 ?dz38 ?_); (case hhz38 => exact rfl); (case Fz38 => k_asm); (case Nz38 => k_asm); (case mz38 => k_mem); (case cz38 => exact rfl); (case dz38 => exact rfl); (intro i'z38 l1z38); (try k_lt l1z38); (try dsimp only [List.map_cons, List.map_nil])))))
  (k_with "ItemsRest" => (with_plain (first | (refine' ItemsRest.val ?_; intro h'z39 tk'z39 F'z39; ktu_objs) | (refine' ItemsRest.pair ?_; intro T'z39 t'z39 h'z39 tk'z39 hT'z39 F'z39; (try dsimp only at hT'z39); ktu_objs) | (refine' ItemsRest.zero ?_; intro h'z39 tk'z39 F'z39 N'z39))))
  trivial
example : True := by
  (k_with "k_mem9" => (with_reducible ((fail_if_success (show (zz9, _) ∈ _)); first | exact List.Mem.head _ | exact mm1 | exact mm2 | exact mm3 | exact mm4 | exact mm5 | exact mm6 | exact mm7 | exact mm8 | exact mm9 | exact mm10 | exact mm11 | exact mm12 | exact mm13 | exact mm14 | exact mm15 | exact mm16 | exact mm17 | exact mm18 | exact mm19 | exact mm20 | exact mm21 | exact mm22 | exact mm23 | exact mm24)))
  (k_with "k_sub9" => (((fail_if_success (with_reducible exact subNil)); (repeat' (with_reducible first | exact subNil | exact sub0 | refine' subK ?_ | refine' subD ?_)); done)))
  trivial

section
--LED: [(p, prow r0 r1 r2 r3 e), (r0, frow (P 0 0) (P 0 1) (P 0 2) t00 t01 t02 e0), (r1, frow (P 1 0) (P 1 1) (P 1 2) t10 t11 t12 e1), (r2, frow (P 2 0) (P 2 1) (P 2 2) t20 t21 t22 e2), (r3, frow (P 3 0) (P 3 1) (P 3 2) t30 t31 t32 e3)]
def Lt15 (x : Int) : Prop := 0 ≤ x ∧ x ≤ 15
theorem Lt15.mn {x y : Int} (hx : Lt15 x) (hy : Lt15 y) : Lt15 (min x y) := by unfold Lt15 at *; omega
theorem Lt15.mx {x y : Int} (hx : Lt15 x) (hy : Lt15 y) : Lt15 (max x y) := by unfold Lt15 at *; omega
def n0 (a b c d : Int) : Int := min (min a b) (min c d)
def n1 (a b c d : Int) : Int := min (min (max a b) (max c d)) (max (min a b) (min c d))
def n2 (a b c d : Int) : Int := max (min (max a b) (max c d)) (max (min a b) (min c d))
def n3 (a b c d : Int) : Int := max (max a b) (max c d)
def Gate (w : World) (g : Heap) (L : Addr) (A : Around) (T : Sem Flow) : Prop :=
  ∀ (p ri rj : Addr) (ip : Array Value) (ep : Nat) (Ri Rj : List Value) (ei ej : Nat) (i j c x y : Int) (ti tj tc tx ty : Tok) (qi qj : Value → List Value) (m : Str → Option Value) (news : List (Addr × Obj)) (news1 : Value → List (Addr × Obj)) (news2 : Value → Value → List (Addr × Obj)) (s : Shared) (Q : Flow → Shared → Prop) (E : Value → Shared → Prop),
  m (Str.ofString "picture") = some (.ref p) → m (Str.ofString "i") = some (.int i ti) → m (Str.ofString "j") = some (.int j tj) → m (Str.ofString "c") = some (.int c tc) →
  (0 ≤ i ∧ i < 2 ^ 63) → (0 ≤ j ∧ j < 2 ^ 63) → (0 ≤ c ∧ c < 2 ^ 63) → Lt15 x → Lt15 y →
  (p, listOf ip ep) ∈ news → ip.toList[i.toNat]? = some (.ref ri) → ip.toList[j.toNat]? = some (.ref rj) →
  (ri, listOf Ri.toArray ei) ∈ news → (rj, listOf Rj.toArray ej) ∈ news → Ri[c.toNat]? = some (.float (fl (2 * x)) tx) → Rj[c.toNat]? = some (.float (fl (2 * y)) ty) →
  (∀ v, ki_setL Ri c.toNat v = some (qi v) ∧ Upd ri (listOf Ri.toArray ei) (listOf (qi v).toArray ei) news (news1 v)) → (∀ v u, ki_setL Rj c.toNat u = some (qj u) ∧ Upd rj (listOf Rj.toArray ej) (listOf (qj u).toArray ej) (news1 v) (news2 v u)) →
  (∀ v, (p, listOf ip ep) ∈ news1 v) → news2 (.float (fl (2 * x)) tx) (.float (fl (2 * y)) ty) = news →
  Fr g L s.heap m → News g L s.heap news →
  (∀ t u h' tk', Fr g L h' (fun z => if z = Str.ofString "upper" then some (.float (fl (2 * x)) tx) else m z) → News g L h' (news2 (.float (fl (2 * min x y)) t) (.float (fl (2 * max x y)) u)) → Q .next { s with heap := h', toks := tk' }) →
  wpAny (model PySem.Challenge.rw_tr0025_01.row.prog w) A T Q E s
theorem gate_use {w : World} {g : Heap} {L : Addr} {A : Around} {T : Sem Flow} (G : Gate w g L A T)
  {p ri rj : Addr} {ip : Array Value} {ep : Nat} {Ri Rj : List Value} {ei ej : Nat} {i j c x y : Int} {ti tj tc tx ty : Tok} {qi qj : Value → List Value} {m : Str → Option Value} {news : List (Addr × Obj)} {news1 : Value → List (Addr × Obj)} {news2 : Value → Value → List (Addr × Obj)} {s : Shared} {Q : Flow → Shared → Prop} {E : Value → Shared → Prop}
  (F : Fr g L s.heap m) (N : News g L s.heap news)
  (m1 : m (Str.ofString "picture") = some (.ref p)) (m2 : m (Str.ofString "i") = some (.int i ti)) (m3 : m (Str.ofString "j") = some (.int j tj)) (m4 : m (Str.ofString "c") = some (.int c tc))
  (bi : 0 ≤ i ∧ i < 2 ^ 63) (bj : 0 ≤ j ∧ j < 2 ^ 63) (bc : 0 ≤ c ∧ c < 2 ^ 63)
  (hp : (p, listOf ip ep) ∈ news) (pi : ip.toList[i.toNat]? = some (.ref ri)) (pj : ip.toList[j.toNat]? = some (.ref rj))
  (hri : (ri, listOf Ri.toArray ei) ∈ news) (hrj : (rj, listOf Rj.toArray ej) ∈ news) (ci : Ri[c.toNat]? = some (.float (fl (2 * x)) tx)) (cj : Rj[c.toNat]? = some (.float (fl (2 * y)) ty)) (bx : Lt15 x) (by' : Lt15 y)
  (hqi : ∀ v, ki_setL Ri c.toNat v = some (qi v)) (hqj : ∀ v, ki_setL Rj c.toNat v = some (qj v))
  (u1 : ∀ v, Upd ri (listOf Ri.toArray ei) (listOf (qi v).toArray ei) news (news1 v)) (u2 : ∀ v u, Upd rj (listOf Rj.toArray ej) (listOf (qj u).toArray ej) (news1 v) (news2 v u))
  (p1 : ∀ v, (p, listOf ip ep) ∈ news1 v) (nn : news2 (.float (fl (2 * x)) tx) (.float (fl (2 * y)) ty) = news)
  (ret : ∀ t u h' tk', Fr g L h' (fun z => if z = Str.ofString "upper" then some (.float (fl (2 * x)) tx) else m z) → News g L h' (news2 (.float (fl (2 * min x y)) t) (.float (fl (2 * max x y)) u)) → Q .next { s with heap := h', toks := tk' }) :
  wpAny (model PySem.Challenge.rw_tr0025_01.row.prog w) A T Q E s :=
  G p ri rj ip ep Ri Rj ei ej i j c x y ti tj tc tx ty qi qj m news news1 news2 s Q E m1 m2 m3 m4 bi bj bc bx by' hp pi pj hri hrj ci cj (fun v => ⟨hqi v, u1 v⟩) (fun v u => ⟨hqj u, u2 v u⟩) p1 nn F N ret
/-- one column put in order: the walk of the inner loop, once -/
def GateC (w : World) (g : Heap) (L : Addr) (p r0 r1 r2 r3 : Addr) (e e0 e1 e2 e3 : Nat) (A : Around) (T : Sem Flow) (E : Value → Shared → Prop) : Prop :=
  ∀ (I : Addr) (oI : Obj) (R0 R1 R2 R3 : List Value) (q0 q1 q2 q3 : Value → List Value) (c x0 x1 x2 x3 : Int) (tc t0 t1 t2 t3 : Tok) (m : Str → Option Value) (s : Shared) (Q : Flow → Shared → Prop),
  ((@Ne Nat I p) ∧ (@Ne Nat I r0) ∧ (@Ne Nat I r1) ∧ (@Ne Nat I r2) ∧ (@Ne Nat I r3)) → m (Str.ofString "picture") = some (.ref p) → m (Str.ofString "c") = some (.int c tc) → (0 ≤ c ∧ c < 2 ^ 63) → (Lt15 x0 ∧ Lt15 x1 ∧ Lt15 x2 ∧ Lt15 x3) →
  (∀ v u, (q0 v)[c.toNat]? = some v ∧ ki_setL (q0 v) c.toNat u = some (q0 u)) → (∀ v u, (q1 v)[c.toNat]? = some v ∧ ki_setL (q1 v) c.toNat u = some (q1 u)) → (∀ v u, (q2 v)[c.toNat]? = some v ∧ ki_setL (q2 v) c.toNat u = some (q2 u)) → (∀ v u, (q3 v)[c.toNat]? = some v ∧ ki_setL (q3 v) c.toNat u = some (q3 u)) →
  (R0 = q0 (.float (fl (2 * x0)) t0) ∧ R1 = q1 (.float (fl (2 * x1)) t1) ∧ R2 = q2 (.float (fl (2 * x2)) t2) ∧ R3 = q3 (.float (fl (2 * x3)) t3)) →
  Fr g L s.heap m → News g L s.heap [(I, oI), (p, prow r0 r1 r2 r3 e), (r0, listOf R0.toArray e0), (r1, listOf R1.toArray e1), (r2, listOf R2.toArray e2), (r3, listOf R3.toArray e3)] →
  (∀ u0 u1 u2 u3 m' h' tk', m' (Str.ofString "picture") = some (.ref p) → Fr g L h' m' → News g L h' [(I, oI), (p, prow r0 r1 r2 r3 e), (r0, listOf (q0 (.float (fl (2 * n0 x0 x1 x2 x3)) u0)).toArray e0), (r1, listOf (q1 (.float (fl (2 * n1 x0 x1 x2 x3)) u1)).toArray e1), (r2, listOf (q2 (.float (fl (2 * n2 x0 x1 x2 x3)) u2)).toArray e2), (r3, listOf (q3 (.float (fl (2 * n3 x0 x1 x2 x3)) u3)).toArray e3)] → Q .next { s with heap := h', toks := tk' }) →
  wpAny (model PySem.Challenge.rw_tr0025_01.row.prog w) A T Q E s
theorem gateC_use {w : World} {g : Heap} {L p r0 r1 r2 r3 : Addr} {e e0 e1 e2 e3 : Nat} {A : Around} {T : Sem Flow} {E : Value → Shared → Prop} (G : GateC w g L p r0 r1 r2 r3 e e0 e1 e2 e3 A T E)
  {I : Addr} {oI : Obj} {R0 R1 R2 R3 : List Value} {q0 q1 q2 q3 : Value → List Value} {c x0 x1 x2 x3 : Int} {tc t0 t1 t2 t3 : Tok} {m : Str → Option Value} {s : Shared} {Q : Flow → Shared → Prop}
  (F : Fr g L s.heap m) (N : News g L s.heap [(I, oI), (p, prow r0 r1 r2 r3 e), (r0, listOf R0.toArray e0), (r1, listOf R1.toArray e1), (r2, listOf R2.toArray e2), (r3, listOf R3.toArray e3)])
  (nI : (@Ne Nat I p) ∧ (@Ne Nat I r0) ∧ (@Ne Nat I r1) ∧ (@Ne Nat I r2) ∧ (@Ne Nat I r3)) (m1 : m (Str.ofString "picture") = some (.ref p)) (m2 : m (Str.ofString "c") = some (.int c tc)) (bc : 0 ≤ c ∧ c < 2 ^ 63)
  (z0 : ∀ v, ki_setL R0 c.toNat v = some (q0 v)) (z1 : ∀ v, ki_setL R1 c.toNat v = some (q1 v)) (z2 : ∀ v, ki_setL R2 c.toNat v = some (q2 v)) (z3 : ∀ v, ki_setL R3 c.toNat v = some (q3 v))
  (y : R0 = q0 (.float (fl (2 * x0)) t0) ∧ R1 = q1 (.float (fl (2 * x1)) t1) ∧ R2 = q2 (.float (fl (2 * x2)) t2) ∧ R3 = q3 (.float (fl (2 * x3)) t3))
  (b : Lt15 x0 ∧ Lt15 x1 ∧ Lt15 x2 ∧ Lt15 x3)
  (l0 : ∀ v u, (q0 v)[c.toNat]? = some v ∧ ki_setL (q0 v) c.toNat u = some (q0 u)) (l1 : ∀ v u, (q1 v)[c.toNat]? = some v ∧ ki_setL (q1 v) c.toNat u = some (q1 u)) (l2 : ∀ v u, (q2 v)[c.toNat]? = some v ∧ ki_setL (q2 v) c.toNat u = some (q2 u)) (l3 : ∀ v u, (q3 v)[c.toNat]? = some v ∧ ki_setL (q3 v) c.toNat u = some (q3 u))
  (ret : ∀ u0 u1 u2 u3 m' h' tk', m' (Str.ofString "picture") = some (.ref p) → Fr g L h' m' → News g L h' [(I, oI), (p, prow r0 r1 r2 r3 e), (r0, listOf (q0 (.float (fl (2 * n0 x0 x1 x2 x3)) u0)).toArray e0), (r1, listOf (q1 (.float (fl (2 * n1 x0 x1 x2 x3)) u1)).toArray e1), (r2, listOf (q2 (.float (fl (2 * n2 x0 x1 x2 x3)) u2)).toArray e2), (r3, listOf (q3 (.float (fl (2 * n3 x0 x1 x2 x3)) u3)).toArray e3)] → Q .next { s with heap := h', toks := tk' }) :
  wpAny (model PySem.Challenge.rw_tr0025_01.row.prog w) A T Q E s := G I oI R0 R1 R2 R3 q0 q1 q2 q3 c x0 x1 x2 x3 tc t0 t1 t2 t3 m s Q nI m1 m2 bc b l0 l1 l2 l3 y F N ret
/-- each column in order from the top down -/
def dwn (P : Nat → Nat → Int) (r c : Nat) : Int :=
  match r with | 0 => n0 (P 0 c) (P 1 c) (P 2 c) (P 3 c) | 1 => n1 (P 0 c) (P 1 c) (P 2 c) (P 3 c) | 2 => n2 (P 0 c) (P 1 c) (P 2 c) (P 3 c) | _ => n3 (P 0 c) (P 1 c) (P 2 c) (P 3 c)
inductive DownP (P : Nat → Nat → Int) (p r0 r1 r2 r3 : Addr) (e e0 e1 e2 e3 : Nat) (rest : List (Addr × Obj)) : Value → List (Addr × Obj) → Prop
  | mk (s00 s01 s02 s10 s11 s12 s20 s21 s22 s30 s31 s32 : Tok) : DownP P p r0 r1 r2 r3 e e0 e1 e2 e3 rest .none ((p, prow r0 r1 r2 r3 e) :: (r0, frow (dwn P 0 0) (dwn P 0 1) (dwn P 0 2) s00 s01 s02 e0) :: (r1, frow (dwn P 1 0) (dwn P 1 1) (dwn P 1 2) s10 s11 s12 e1) :: (r2, frow (dwn P 2 0) (dwn P 2 1) (dwn P 2 2) s20 s21 s22 e2) :: (r3, frow (dwn P 3 0) (dwn P 3 1) (dwn P 3 2) s30 s31 s32 e3) :: rest)
example : True := by
  (k_with "setItem ref int" => ((k_here; with_plain ((rename (∀ v : Value, ki_setL _ _ _ = some _ ∧ _) => hU9z42); (refine' ki_set ?Fz42 ?Nz42 ?az42 ?bz42 (hU9z42 _).1 (hU9z42 _).2 ?_); (case Fz42 => k_asm); (case Nz42 => k_asm); (case az42 => omega); (case bz42 => omega); (clear hU9z42); (intro h9z42 F9z42 N9z42); (try k_sweep)))))
  (k_with "setItem ref int" => ((k_here; with_plain ((rename (∀ v u : Value, ki_setL _ _ _ = some _ ∧ _) => hU9z43); (refine' ki_set ?Fz43 ?Nz43 ?az43 ?bz43 (hU9z43 .none _).1 (hU9z43 _ _).2 ?_); (case Fz43 => k_asm); (case Nz43 => k_asm); (case az43 => omega); (case bz43 => omega); (clear hU9z43); (intro h9z43 F9z43 N9z43); (try k_sweep)))))
  (k_with "b15" => (first | assumption | (refine Lt15.mn ?_ ?_ <;> walk_at "b15") | (refine Lt15.mx ?_ ?_ <;> walk_at "b15")))
  trivial
set_option maxHeartbeats 8000000 in
theorem c_downA (w : World) (rest : List (Addr × Obj)) (P : Nat → Nat → Int) (hP : ∀ r c, 0 ≤ P r c ∧ P r c ≤ 15) (p r0 r1 r2 r3 : Addr) (e e0 e1 e2 e3 : Nat) (t00 t01 t02 t10 t11 t12 t20 t21 t22 t30 t31 t32 : Tok)
    (hr : ltA p r0 ∧ ltA r0 r1 ∧ ltA r1 r2 ∧ ltA r2 r3) (dis : ∀ x ∈ rest, x.1 ∉ [p, r0, r1, r2, r3]) :
    Ctr w 4 99 [.ref p] ((p, prow r0 r1 r2 r3 e) :: (r0, frow (P 0 0) (P 0 1) (P 0 2) t00 t01 t02 e0) :: (r1, frow (P 1 0) (P 1 1) (P 1 2) t10 t11 t12 e1) :: (r2, frow (P 2 0) (P 2 1) (P 2 2) t20 t21 t22 e2) :: (r3, frow (P 3 0) (P 3 1) (P 3 2) t30 t31 t32 e3) :: rest) (DownP P p r0 r1 r2 r3 e e0 e1 e2 e3 rest) := by
  have x0 : @Ne Nat p r0 := Nat.ne_of_lt hr.1
  have x1 : @Ne Nat p r1 := Nat.ne_of_lt (Nat.lt_trans hr.1 hr.2.1)
  have x2 : @Ne Nat p r2 := Nat.ne_of_lt (Nat.lt_trans hr.1 (Nat.lt_trans hr.2.1 hr.2.2.1))
  have x3 : @Ne Nat p r3 := Nat.ne_of_lt (Nat.lt_trans hr.1 (Nat.lt_trans hr.2.1 (Nat.lt_trans hr.2.2.1 hr.2.2.2)))
  have x4 : @Ne Nat r0 r1 := Nat.ne_of_lt hr.2.1
  have x5 : @Ne Nat r0 r2 := Nat.ne_of_lt (Nat.lt_trans hr.2.1 hr.2.2.1)
  have x6 : @Ne Nat r0 r3 := Nat.ne_of_lt (Nat.lt_trans hr.2.1 (Nat.lt_trans hr.2.2.1 hr.2.2.2))
  have x7 : @Ne Nat r1 r2 := Nat.ne_of_lt hr.2.2.1
  have x8 : @Ne Nat r1 r3 := Nat.ne_of_lt (Nat.lt_trans hr.2.2.1 hr.2.2.2)
  have x9 : @Ne Nat r2 r3 := Nat.ne_of_lt hr.2.2.2
  clear hr
  refine fillG PySem.Challenge.rw_tr0025_01 hd.heap_39 ?_
  k_fill
  unfold FillG Ctr
  intro mean mg mb dp un gd cn cs a ccd cl outer A₀ base h₀ L m s Q E B F X N T hk hroom hret
  have hlt := hroom.lt
  refine wpAny_call ?_
  have NR := subR N (n' := rest) (by walk_at "memR")
  k_dflt (refine' enterF (led := [(p, prow r0 r1 r2 r3 e), (r0, frow (P 0 0) (P 0 1) (P 0 2) t00 t01 t02 e0), (r1, frow (P 1 0) (P 1 1) (P 1 2) t10 t11 t12 e1), (r2, frow (P 2 0) (P 2 1) (P 2 2) t20 t21 t22 e2), (r3, frow (P 3 0) (P 3 1) (P 3 2) t30 t31 t32 e3)]) (rest := rest) ?k1 ?k2 ?k3 ?k4 ?kR ?kX ?k5 ?kA ?kF ?kK ?k6 ?k7 ?k8 ?k9 ?kB ?_ ?c2 ?c3 ?c4 ?c5; (case kA => exact rfl); (case kF => exact rfl); (case kK => assumption); (case k1 => k_asm); (case k2 => k_asm); (case k3 => k_asm); (case k4 => exact subN N (by k_subL)); (case kR => exact NR); (case kX => exact dis); (case k5 => k_asm); (case k6 => k_is); (case k7 => k_is); (case k8 => exact hlt); (case k9 => exact BindsTo.of_eq rfl); (case c5 => decide); (case kB => exact locs rfl); (case c2 => exact rfl); (case c3 => exact rfl); (case c4 => exact rfl); k_whole; intro g' L' h' FG' F' N' B' X' T' hrest; (try dsimp only); (try k_fold))
  clear N
  repeat' (first | ((fail_if_success (with_reducible show wpAny _ _ (execs [Stmt.For (Expr.Tuple _ _ _) _ _ _ _] _) _ _ _)); first | (k_unfold; (try dsimp only)) | (k_end; wrow_close) | walk1 | (dsimp only; walk1) | (leave1; walk_say "STEP leave1"; try dsimp only)) | fail "x")
  with_reducible refine' cut_treeE (GateC w g' L' p r0 r1 r2 r3 e e0 e1 e2 e3) ?_ ?_
  · unfold GateC
    intro I oI R0 R1 R2 R3 q0 q1 q2 q3 c a0 a1 a2 a3 tc t0 t1 t2 t3 m s Q ⟨i0, i1, i2, i3, i4⟩ hm1 hm2 hc ⟨ha0, ha1, ha2, ha3⟩ l0 l1 l2 l3 ⟨y0, y1, y2, y3⟩ F9 N9 ret
    subst y0 y1 y2 y3
    clear hret hrest NR dis hP
    repeat' (first | ((fail_if_success (with_reducible show wpAny _ _ (execs [Stmt.Assign [Expr.Name (Str.ofString "upper") _] _ _, _] _) _ _ _)); first | (k_unfold; (try dsimp only)) | (k_end; wrow_close) | walk1 | (dsimp only; walk1) | (leave1; walk_say "STEP leave1"; try dsimp only)) | fail "x")
    with_reducible refine' cut_tree (Gate w g' L') ?_ ?_
    · clear ret x0 x1 x2 x3 x4 x5 x6 x7 x8 x9 i0 i1 i2 i3 i4
      unfold Gate
      intro p ri rj ip ep Ri Rj ei ej i j c x y ti tj tc tx ty qi qj m news news1 news2 s Q E hm1 hm2 hm3 hm4 hi hj hc hx hy hp hpi hpj hri hrj hci hcj hu1 hu2 hp1 hn F9 N9 ret
      have bx := bd2 (up16 hx)
      have by' := bd2 (up16 hy)
      k_steps
      · have e1 : min x y = y := by omega
        have e2 : max x y = x := by omega
        rw [e1, e2] at ret
        exact ret _ _ _ _ (by k_asm) (by k_asm)
      · have e1 : min x y = x := by omega
        have e2 : max x y = y := by omega
        rw [e1, e2] at ret
        exact ret _ _ _ _ (by k_asm) (by rw [hn]; k_asm)
    · intro gate
      repeat' (first | ((with_reducible show wpAny _ _ (execs [Stmt.Assign [Expr.Name (Str.ofString "upper") _] _ _, _] _) _ _ _); ((with_reducible refine' gate_use gate ?gpF ?gpN ?gpm1 ?gpm2 ?gpm3 ?gpm4 ?gpbi ?gpbj hc ?gphp ?gppi ?gppj ?gpri ?gprj ?gpci ?gpcj ?gpbx ?gpby9 ?gpqi ?gpqj ?gpu1 ?gpu2 ?gpp1 ?gpnn ?_); (case gpF => k_asm); (case gpN => k_asm); (case gpm1 => walk_at "mlook"); (case gpm2 => exact rfl); (case gpm3 => exact rfl); (case gpm4 => walk_at "mlook"); (case gpbi => decide); (case gpbj => decide); (case gphp => k_mem); (case gppi => exact rfl); (case gppj => exact rfl); (case gpri => k_mem); (case gprj => k_mem); (case gpci => first | exact (l0 _ .none).1 | exact (l1 _ .none).1 | exact (l2 _ .none).1 | exact (l3 _ .none).1); (case gpcj => first | exact (l0 _ .none).1 | exact (l1 _ .none).1 | exact (l2 _ .none).1 | exact (l3 _ .none).1); (case gpbx => walk_at "b15"); (case gpby9 => walk_at "b15"); (case gpqi => first | exact fun v => (l0 _ v).2 | exact fun v => (l1 _ v).2 | exact fun v => (l2 _ v).2 | exact fun v => (l3 _ v).2); (case gpqj => first | exact fun v => (l0 _ v).2 | exact fun v => (l1 _ v).2 | exact fun v => (l2 _ v).2 | exact fun v => (l3 _ v).2); (case gpu1 => (intro v; k_upd)); (case gpu2 => (intro v u; k_upd)); (case gpp1 => (intro v; k_mem)); (case gpnn => exact rfl); k_whole; (intro tG9 uG9 hG9 tkG9 FG9 NG9); (try dsimp only at NG9); (try k_sweep))) | first | (k_unfold; (try dsimp only)) | (k_end; wrow_close) | walk1 | (dsimp only; walk1) | (leave1; walk_say "STEP leave1"; try dsimp only))
      with_plain (refine' ret _ _ _ _ _ _ _ ?rm ?rF ?rN)
      (case rF => k_asm)
      (case rm => walk_at "mlook")
      (case rN => exact subN (by k_asm) (by k_subL))
  · intro gateC
    repeat' (first | ((with_reducible show wpAny _ _ (execs [Stmt.For (Expr.Tuple _ _ _) _ _ _ _] _) _ _ _); ((with_reducible refine' gateC_use gateC ?gcF ?gcN ?gcnI ?gcm1 ?gcm2 ?gcbc ?gcz0 ?gcz1 ?gcz2 ?gcz3 ?gcy ?gcb ?gcl0 ?gcl1 ?gcl2 ?gcl3 ?_); (case gcF => k_asm); (case gcN => exact subN (by k_asm) (by k_subL)); (case gcnI => exact ⟨by k_ne, by k_ne, by k_ne, by k_ne, by k_ne⟩); (case gcm1 => walk_at "mlook"); (case gcm2 => exact rfl); (case gcbc => decide); (case gcz0 => (intro v; exact rfl)); (case gcz1 => (intro v; exact rfl)); (case gcz2 => (intro v; exact rfl)); (case gcz3 => (intro v; exact rfl)); (case gcy => exact ⟨rfl, rfl, rfl, rfl⟩); (case gcb => exact ⟨hP _ _, hP _ _, hP _ _, hP _ _⟩); (case gcl0 => exact fun _ _ => ⟨rfl, rfl⟩); (case gcl1 => exact fun _ _ => ⟨rfl, rfl⟩); (case gcl2 => exact fun _ _ => ⟨rfl, rfl⟩); (case gcl3 => exact fun _ _ => ⟨rfl, rfl⟩); (intro u0 u1 u2 u3 m9 h9 tk9 hm9 F9 N9); (try dsimp only at N9))) | first | (k_unfold; (try dsimp only)) | (k_end; wrow_close) | walk1 | (dsimp only; walk1) | (leave1; walk_say "STEP leave1"; try dsimp only))
    exact hret _ _ _ _ (by k_asm) (frame_ret NR hrest (by k_asm) (subN (n' := [(p, _), (r0, _), (r1, _), (r2, _), (r3, _)]) (by k_asm) (by k_subL))) (DownP.mk _ _ _ _ _ _ _ _ _ _ _ _)

end
section
section
variable {prog : Program} {w : World} {A : Around} {E : Value → Shared → Prop} {s : Shared} {env : Env} {h₀ : Heap} {x : Str} {body orelse : List Stmt} {Q : Flow → Shared → Prop}
/-- what is left of a for over a range that has an else: the turns, then the else -/
noncomputable def ElseRest (prog : Program) (w : World) (A : Around) (E : Value → Shared → Prop) (h₀ : Heap) (env : Env) (x : Str) (body orelse : List Stmt) (Q : Flow → Shared → Prop) (s : Shared) (I : Addr) (a : Int) (n : Nat) : Nat → Nat → (Str → Option Value) → List (Addr × Obj) → Prop
  | 0, _, m, news => ∀ h tk, Fr h₀ env.locals h m → News h₀ env.locals h news → wpAny (model prog w) A (execs orelse env) Q E { s with heap := h, toks := tk }
  | k + 1, i, m, news => ∀ t h tk, Fr h₀ env.locals h (fun y => if y = x then some (.int (a + (i : Int)) t) else m y) →
      News h₀ env.locals h ((I, itR (a + ((i + 1 : Nat) : Int)) ((n : Int) - ((i + 1 : Nat) : Int))) :: news) →
      wpAny (model prog w) A (execs body env) (UnrPost h₀ env.locals { s with heap := h, toks := tk } I (itR (a + ((i + 1 : Nat) : Int)) ((n : Int) - ((i + 1 : Nat) : Int))) (ElseRest prog w A E h₀ env x body orelse Q s I a n k (i + 1)) Q) E { s with heap := h, toks := tk }
def ElseAt (prog : Program) (w : World) (A : Around) (E : Value → Shared → Prop) (h₀ : Heap) (env : Env) (x : Str) (body orelse : List Stmt) (Q : Flow → Shared → Prop) (a b : Int) (n : Nat) (xv : Value) (s₁ : Shared) : Prop :=
  ∃ r t u v m news, xv = .ref r ∧ IsRange s₁.heap r a b 1 t u v ∧ Fr h₀ env.locals s₁.heap m ∧ News h₀ env.locals s₁.heap news ∧ ∀ I : Addr, (∀ p ∈ news, p.1 < I) → ElseRest prog w A E h₀ env x body orelse Q s₁ I a n n 0 m news
theorem for_else {px pos : Pos} {iter : Expr} {a b : Int} {n : Nat} {m₀ : Str → Option Value} (_F : Fr h₀ env.locals s.heap m₀) (hh : A.handled = none) (hx : env.kindOf x = some .local)
    (hp : (env.scope.kind == .class || (env.scope.kind == .module && env.locals != env.globals)) = false)
    (hsmall : Builtin.Range.small a b 1 = true) (hn : Builtin.Range.rangeSize a b 1 = (n : Int))
    (h : wpAny (model prog w) A (eval iter env) (ElseAt prog w A E h₀ env x body orelse Q a b n) E s)
    (hs : ∀ x, foldedSetIterable iter env x = pure x) (hE : PassesOwn (model prog w) A env E) :
    wpAny (model prog w) A (exec (.For (.Name x px) iter body orelse pos) env) Q E s := by
  refine wpAny_For (wpAny_mono h (fun xv s₁ h₁ => ?_) fun _ _ e => e) hs
  obtain ⟨r, t, u, v, m, news, rfl, hr, F, N, rest₀⟩ := h₁
  refine wpAny_pyIter_range hr hsmall ?_
  have rest := rest₀ s₁.heap.objs.size fun p hp => Heap.lt_size (N p hp).1
  have hnew := next_is_new F
  have hIL : s₁.heap.objs.size ≠ env.locals := fun e => absurd F.ns.lt (e ▸ Nat.lt_irrefl _)
  have W := Walks.range (prog := prog) (w := w) hh s₁.heap.objs.size a 1 n
  generalize hI : s₁.heap.objs.size = I at *
  refine codeAny_forLoop
    (fun k s' => ∃ h' tk m' news' i, s' = { s₁ with heap := h', toks := tk } ∧ IsRangeIter h' I (a + (i : Nat) * 1) ((n : Int) - (i : Nat)) 1 ∧ Fr h₀ env.locals h' m' ∧ News h₀ env.locals h' news' ∧ (∀ p ∈ news', p.1 ≠ I) ∧ ElseRest prog w A E h₀ env x body orelse Q s₁ I a n (n - i) i m' news' ∧ i ≤ n ∧ k = n + 1 - i) ?_ (n + 1)
    ⟨_, _, m, news, 0, rfl, ?_, F.push _, (fun p hp => ⟨Heap.get?_push_of_some _ (N p hp).1, (N p hp).2⟩), (fun p hp e => absurd (Heap.lt_size (N p hp).1) (by rw [e, ← hI]; exact Nat.lt_irrefl _)), rest, Nat.zero_le _, rfl⟩
  · rintro k s' ⟨h', tk, m', news', i, rfl, hst', F', N', hnw', hJ, hi, rfl⟩
    have next : ∀ h₁ : Heap, (∀ b o, b ∉ [I] → h'.get? b = some o → h₁.get? b = some o) → Fr h₀ env.locals h₁ m' ∧ News h₀ env.locals h₁ news' := fun h₁ hk₁ =>
      ⟨⟨F'.ns.at' fun o e => hk₁ _ o (by simpa using hIL.symm) e, fun b o e => hk₁ b o (by intro hb; rw [List.mem_singleton.mp hb, hnew] at e; cases e) (F'.keep b o e), F'.above⟩, fun p hp => ⟨hk₁ _ _ (by simpa using hnw' p hp) (N' p hp).1, (N' p hp).2⟩⟩
    by_cases hlt : i < n
    · refine W.item i _ _ _ hlt hst' fun v h₁ tk₁ hP hst₁ hk₁ => ?_
      obtain ⟨F₁, N₁⟩ := next h₁ hk₁
      obtain ⟨t₁, rfl⟩ := hP
      refine wpAny_assign_Name (wpAny_storeName_local hx F₁.ns (fun h₂ hn₂ hs₂ => ?_) hp)
      have F₂ := F₁.set hn₂ hs₂
      have hk : n - i = (n - (i + 1)) + 1 := by omega
      rw [hk] at hJ
      have e1 : a + (i : Int) * 1 = a + (i : Int) := by rw [Int.mul_one]
      rw [e1] at F₂
      have hst₁' : h₁.get? I = some (itR (a + ((i + 1 : Nat) : Int)) ((n : Int) - ((i + 1 : Nat) : Int))) := by
        have q : IsRangeIter h₁ I (a + ((i + 1 : Nat) : Int) * 1) ((n : Int) - ((i + 1 : Nat) : Int)) 1 := hst₁
        rw [Int.mul_one] at q
        exact q
      have N₂ : News h₀ env.locals h₂ ((I, itR (a + ((i + 1 : Nat) : Int)) ((n : Int) - ((i + 1 : Nat) : Int))) :: news') := fun p hp => by
        rcases List.mem_cons.mp hp with rfl | hp
        · exact ⟨(hs₂.2 _ hIL).trans hst₁', hIL, hnew⟩
        · exact N₁.set hs₂ p hp
      have back : ∀ s₃, UnrEnd h₀ env.locals { s₁ with heap := h₂, toks := tk₁ + 1 } I (itR (a + ((i + 1 : Nat) : Int)) ((n : Int) - ((i + 1 : Nat) : Int))) (ElseRest prog w A E h₀ env x body orelse Q s₁ I a n (n - (i + 1)) (i + 1)) s₃ →
          ∃ mm, mm < n + 1 - i ∧ ∃ h' tk m' news' j, s₃ = { s₁ with heap := h', toks := tk } ∧ IsRangeIter h' I (a + (j : Nat) * 1) ((n : Int) - (j : Nat)) 1 ∧ Fr h₀ env.locals h' m' ∧ News h₀ env.locals h' news' ∧ (∀ p ∈ news', p.1 ≠ I) ∧ ElseRest prog w A E h₀ env x body orelse Q s₁ I a n (n - j) j m' news' ∧ j ≤ n ∧ mm = n + 1 - j := by
        rintro s₃ ⟨h₃, tk₃, m₃, news₃, rfl, F₃, N₃, off₃, r₃⟩
        refine ⟨n + 1 - (i + 1), by omega, h₃, tk₃, m₃, news₃, i + 1, rfl, ?_, F₃, fun p hp => N₃ p (List.mem_cons_of_mem _ hp), off₃, r₃, hlt, rfl⟩
        have q := (N₃ _ (List.mem_cons_self ..)).1
        rw [Int.mul_one]
        exact q
      refine wpAny_mono (wpAny_passesOwn hE (hJ t₁ h₂ (tk₁ + 1) F₂ N₂)) (fun f s₃ h₃ => ?_) fun _ _ e => e
      cases f with
      | ret v => exact h₃
      | brk => exact h₃
      | cont => exact back _ h₃
      | next => exact back _ h₃
    · have hin : i = n := by omega
      subst hin
      refine W.done _ _ _ hst' fun h₁ tk₁ hk₁ => ?_
      obtain ⟨F₁, N₁⟩ := next h₁ hk₁
      rw [Nat.sub_self] at hJ
      exact wpAny_passesOwn hE (hJ h₁ tk₁ F₁ N₁)
  · show IsRangeIter _ _ _ _ _
    rw [hn, ← hI]
    simpa using Heap.get?_push_size _ rfl
end

end
section
--LED: []
@[irreducible] def pw (k : Nat) : Int := ((2 ^ k : Nat) : Int)
@[irreducible] def pq (k : Nat) : Int := ((2 ^ k + 2 ^ (k + 1) : Nat) : Int)
theorem pw_def (k : Nat) : pw k = ((2 ^ k : Nat) : Int) := by unfold pw; rfl
theorem pq_def (k : Nat) : pq k = ((2 ^ k + 2 ^ (k + 1) : Nat) : Int) := by unfold pq; rfl
-- the flags' names
def flagD : List (Int × PyData) := [(1, .str (Str.ofString "OPTIMIZED")), (2, .str (Str.ofString "NEWLOCALS")), (4, .str (Str.ofString "VARARGS")), (8, .str (Str.ofString "VARKEYWORDS")), (16, .str (Str.ofString "NESTED")), (32, .str (Str.ofString "GENERATOR")), (64, .str (Str.ofString "NOFREE")), (128, .str (Str.ofString "COROUTINE")), (256, .str (Str.ofString "ITERABLE_COROUTINE")), (512, .str (Str.ofString "ASYNC_GENERATOR"))]
def flagT (k : Int) (dflt : Str) : Str := match KTD.datumAt k flagD with
  | some (.str x) => x
  | _ => dflt
def flagS (k : Nat) : Str := flagT (pw k) (baseText "0x" 16 (pw k))
theorem fS_len32 : ∀ i : Fin 32, (flagS i.val).length ≤ 100 := by decide +kernel
theorem fS_len {k : Nat} (h : k < 32) : (flagS k).length ≤ 100 := fS_len32 ⟨k, h⟩
theorem keyed_flags {w : World} {h : Heap} (X : (hd.heap_39 w.params).In h) : KTD.Keyed h 36 flagD := kt_keyed_in X (by kernel_rfl)
section
variable {prog : Program} {w : World} {A : Around} {E Q : Value → Shared → Prop} {s : Shared} {h₀ : Heap} {L : Addr} {m : Str → Option Value}
theorem get_flag {k : Int} {tk t2 : Tok} {dflt : Str} (X : (hd.heap_39 w.params).In h₀) (F : Fr h₀ L s.heap m) (h : ∀ t, Q (.str (flagT k dflt) t) { s with toks := s.toks + 1 }) :
    wpAny (model prog w) A (call (.builtin "dict.get") [.ref 36, .int k tk, .str dflt t2]) Q E s :=
  call_get2_intTab ((keyed_flags X).keep F.keep prog w) (PyProof.V.Flat.str _ _) fun v hv => by
    rw [KTD.lookup_keyed] at hv
    have key : ∃ x t, v = .str x t ∧ x = flagT k dflt := by
      unfold flagT
      cases hat : KTD.datumAt k flagD with
      | none =>
        rw [hat] at hv
        simp only [Option.getD_none] at hv
        cases hv default
        exact ⟨_, _, rfl, rfl⟩
      | some d =>
        rw [hat] at hv
        simp only [Option.getD_some] at hv
        have hd : ∃ x, d = .str x := by
          unfold flagD at hat
          simp only [KTD.datumAt] at hat
          repeat' split at hat
          all_goals first | (cases hat; exact ⟨_, rfl⟩) | cases hat
        obtain ⟨x, rfl⟩ := hd
        cases hv default
        exact ⟨_, _, rfl, rfl⟩
    obtain ⟨x, t, rfl, rfl⟩ := key
    exact h t
theorem get_flagS {k : Nat} {tk t2 : Tok} (X : (hd.heap_39 w.params).In h₀) (F : Fr h₀ L s.heap m) (h : ∀ t, Q (.str (flagS k) t) { s with toks := s.toks + 1 }) :
    wpAny (model prog w) A (call (.builtin "dict.get") [.ref 36, .int (pw k) tk, .str (baseText "0x" 16 (pw k)) t2]) Q E s := get_flag X F h
theorem s_join {D : Addr} {items : Array Value} {n : Nat} {ys : List Str} {x : Str} {t : Tok} {news : List (Addr × Obj)} (N : News h₀ L s.heap news) (hm : (D, listOf items n) ∈ news) (hi : StrsAre items.toList ys) (hsep : x.length ≤ 16) (hw : (ys.map (·.length)).sum + ys.length ≤ 1048576)
    (h : ∀ t k, Q (.str (Txt.join x ys) t) { s with toks := k }) : wpAny (model prog w) A (call (.builtin "str.join") [.str x t, .ref D]) Q E s :=
  join_listW (N.isList hm) hi hsep hw h
theorem jw0 {k : Nat} (h : k < 32) : (([flagS k] : List Str).map (·.length)).sum + ([flagS k] : List Str).length ≤ 1048576 := by
  have := fS_len h
  simp only [List.map_cons, List.map_nil, List.sum_cons, List.sum_nil, List.length_cons, List.length_nil]; omega
theorem jw2 {k : Nat} (h : k + 1 < 32) : (([flagS k, flagS (k + 1)] : List Str).map (·.length)).sum + ([flagS k, flagS (k + 1)] : List Str).length ≤ 1048576 := by
  have := fS_len h
  have := fS_len (k := k) (by omega)
  simp only [List.map_cons, List.map_nil, List.sum_cons, List.sum_nil, List.length_cons, List.length_nil]; omega
theorem s_shl {i : Nat} {y : Int} {t u : Tok} (hy : y = (i : Int)) (hi : i < 64) (h : ∀ t, Q (.int (pw i) t) { s with toks := s.toks + 1 }) : wpAny (model prog w) A (binaryOp .LShift (.int 1 t) (.int y u)) Q E s := by
  subst hy
  refine lshift_int_small (by omega) (by omega) (by decide) ?_
  have e : (1 : Int) * 2 ^ ((i : Int)).toNat = pw i := by rw [pw_def]; simp
  rw [e]
  exact h _
theorem bitAnd_nat (a b : Nat) : Builtin.bitAnd (a : Int) (b : Int) = ((a &&& b : Nat) : Int) := by
  unfold Builtin.bitAnd
  simp
theorem and_pp : ∀ k i : Fin 32, 2 ^ k.val &&& 2 ^ i.val = if k = i then 2 ^ i.val else 0 := by decide +kernel
theorem and_qq : ∀ k i : Fin 32, (2 ^ k.val + 2 ^ (k.val + 1)) &&& 2 ^ i.val = if i = k ∨ i.val = k.val + 1 then 2 ^ i.val else 0 := by decide +kernel
theorem s_and1 {k i : Nat} {t u : Tok} (hb : k < 32 ∧ i < 32) (h1 : k = i → ∀ t, Q (.int (pw i) t) { s with toks := s.toks + 1 }) (h0 : k ≠ i → ∀ t, Q (.int 0 t) { s with toks := s.toks + 1 }) :
    wpAny (model prog w) A (binaryOp .BitAnd (.int (pw k) t) (.int (pw i) u)) Q E s := by
  refine and_int ?_
  have e := and_pp ⟨k, hb.1⟩ ⟨i, hb.2⟩
  simp only [Fin.mk.injEq] at e
  rw [pw_def k, pw_def i, bitAnd_nat, e]
  by_cases q : k = i
  · rw [if_pos q, ← pw_def]; exact h1 q _
  · rw [if_neg q]; exact h0 q _
theorem s_and2 {k i : Nat} {t u : Tok} (hb : k < 32 ∧ i ≤ k) (h1 : k = i → ∀ t, Q (.int (pw i) t) { s with toks := s.toks + 1 }) (h0 : k ≠ i → ∀ t, Q (.int 0 t) { s with toks := s.toks + 1 }) :
    wpAny (model prog w) A (binaryOp .BitAnd (.int (pq k) t) (.int (pw i) u)) Q E s := by
  refine and_int ?_
  have e := and_qq ⟨k, hb.1⟩ ⟨i, by omega⟩
  simp only [Fin.mk.injEq] at e
  rw [pq_def, pw_def, bitAnd_nat, e]
  by_cases q : k = i
  · rw [if_pos (.inl q.symm), ← pw_def]; exact h1 q _
  · rw [if_neg (by omega)]; exact h0 q _
theorem s_and0 {y : Int} {t u : Tok} (h : ∀ t, Q (.int 0 t) { s with toks := s.toks + 1 }) : wpAny (model prog w) A (binaryOp .BitAnd (.int 0 t) (.int y u)) Q E s := by
  refine and_int ?_
  have e : Builtin.bitAnd 0 y = 0 := by
    have := bitAnd_range y (y := 0) (by decide)
    rw [bitAnd_comm]; omega
  rw [e]; exact h _
theorem s_xor2 {k i : Nat} {t u : Tok} (hb : k < 32 ∧ k = i) (h : ∀ t, Q (.int (pw (i + 1)) t) { s with toks := s.toks + 1 }) :
    wpAny (model prog w) A (inplaceOp .BitXor (.int (pq k) t) (.int (pw i) u)) Q E s := by
  obtain ⟨hb, rfl⟩ := hb
  refine ixor_int ?_
  have e := and_qq ⟨k, hb⟩ ⟨k, hb⟩
  simp only [true_or, if_true] at e
  have e2 : Builtin.bitXor (pq k) (pw k) = pw (k + 1) := by
    rw [bitXor_and, pq_def, pw_def, pw_def, bitAnd_nat, e]
    omega
  rw [e2]; exact h _
theorem s_xor1 {k i : Nat} {t u : Tok} (hb : k = i) (h : ∀ t, Q (.int 0 t) { s with toks := s.toks + 1 }) : wpAny (model prog w) A (inplaceOp .BitXor (.int (pw k) t) (.int (pw i) u)) Q E s := by
  subst hb
  refine ixor_int ?_
  rw [bitXor_self]; exact h _
theorem s_nz {k : Nat} {t : Tok} {Q : Bool → Shared → Prop} (h : Q true s) : wpAny (model prog w) A (truthy (.int (pw k) t)) Q E s := by
  refine truthy_int ?_
  have e : (pw k != 0) = true := by
    have := Nat.two_pow_pos k
    rw [pw_def]
    simp only [bne_iff_ne, ne_eq]; omega
  rw [e]; exact h
theorem hex_len : ∀ i : Fin 33, (baseText "0x" 16 ((2 ^ i.val : Nat) : Int)).length ≤ 100 := by decide +kernel
theorem s_hex {i : Nat} {t : Tok} (hi : i < 32) (h : ∀ t, Q (.str (baseText "0x" 16 (pw i)) t) { s with toks := s.toks + 1 }) : wpAny (model prog w) A (call (.builtin "hex") [.int (pw i) t]) Q E s := by
  refine P.hex_of_int (h _) ?_
  have e := hex_len ⟨i, by omega⟩
  rw [sizeLine_eq, pw_def]
  exact Nat.le_trans e (by decide)
theorem cut_rest {E : Value → Shared → Prop} {env : Env} {x : Str} {body orelse : List Stmt} {Q : Flow → Shared → Prop} {I : Addr} {a : Int} {n k i : Nat} {news : List (Addr × Obj)} (P : (Nat → Nat → (Str → Option Value) → List (Addr × Obj) → Prop) → Prop)
    (gate : P (ElseRest prog w A E h₀ env x body orelse Q s I a n)) (use : P (ElseRest prog w A E h₀ env x body orelse Q s I a n) → ElseRest prog w A E h₀ env x body orelse Q s I a n k i m news) : ElseRest prog w A E h₀ env x body orelse Q s I a n k i m news := use gate
end

end
example : True := by
  k_with_none
  w_top off
  trivial
example : True := by
  (k_with "lit" => (first | exact rfl | exact lit_0 | exact lit_1 | exact lit_2 | exact lit_6 | exact lit_05))
  (k_with "bd" => (first | assumption | (refine' bsub ?_ ?_ <;> walk_at "bd") | (refine' badd ?_ ?_ <;> walk_at "bd") | exact Nat.le_refl _))
  (k_with "bf" => (first | ((refine' bfit ?b1z3 ?b2z3 ?b3z3); (case b1z3 => walk_at "bd"); (case b2z3 => walk_at "bd"); (case b3z3 => decide)) | omega))
  (k_with "binaryOp Add float float" => (with_plain (refine' s_add ?fxz4 ?fyz4 ?fbz4 ?_; (case fxz4 => walk_at "lit"); (case fyz4 => walk_at "lit"); (case fbz4 => walk_at "bf"); intro t9z4; (try dsimp only))))
  (k_with "binaryOp Sub float float" => (with_plain (refine' s_sub ?fxz5 ?fyz5 ?fbz5 ?_; (case fxz5 => walk_at "lit"); (case fyz5 => walk_at "lit"); (case fbz5 => walk_at "bf"); intro t9z5; (try dsimp only))))
  (k_with "binaryOp Sub float float" => (with_plain (refine' s_sub0 ?fxz6 ?fyz6 ?fbz6 ?_; (case fxz6 => exact rfl); (case fyz6 => walk_at "lit"); (case fbz6 => (refine' Nat.lt_of_le_of_lt ?b1z6 ?b3z6; (case b1z6 => assumption); (case b3z6 => decide))); intro t9z6; (try dsimp only))))
  (k_with "binaryOp Add float float" => (with_plain (refine' s_add0 ?fxz7 ?fyz7 ?fbz7 ?_; (case fxz7 => exact rfl); (case fyz7 => walk_at "lit"); (case fbz7 => (refine' Nat.lt_of_le_of_lt ?b1z7 ?b3z7; (case b1z7 => assumption); (case b3z7 => decide))); intro t9z7; (try dsimp only))))
  (k_with "binaryOp Div float float" => (with_plain (refine' s_div rfl ?fyz8 ?fbz8 ?_; (case fyz8 => walk_at "lit"); (case fbz8 => omega); intro t9z8; (try dsimp only))))
  (k_with "binaryOp Mod float float" => (with_plain (refine' s_mod rfl ?fyz9 ?fbz9 ?_; (case fyz9 => walk_at "lit"); (case fbz9 => omega); intro z9z9 t9z9; (try dsimp only))))
  (k_with "compareOp Lt float float" => (with_plain (refine' s_lt ?fxz10 ?fyz10 ?fbz10 ?_ ?_; (case fxz10 => walk_at "lit"); (case fyz10 => walk_at "lit"); (case fbz10 => walk_at "bf"); (all_goals (intro q9z10; try first | exact absurd q9z10 (by with_reducible assumption) | exact absurd (by with_reducible assumption) q9z10 | exact absurd q9z10 (by decide) | exact absurd (by decide) q9z10 | (exfalso; omega))))))
  (k_with "compareOp Gt float float" => (with_plain (refine' s_gt ?fxz11 ?fyz11 ?fbz11 ?_ ?_; (case fxz11 => walk_at "lit"); (case fyz11 => walk_at "lit"); (case fbz11 => walk_at "bf"); (all_goals (intro q9z11; try first | exact absurd q9z11 (by with_reducible assumption) | exact absurd (by with_reducible assumption) q9z11 | exact absurd q9z11 (by decide) | exact absurd (by decide) q9z11 | (exfalso; omega))))))
  (k_with "compareOp Eq float float" => (with_plain (refine' s_eq ?fxz12 ?fyz12 ?fbz12 ?_ ?_; (case fxz12 => walk_at "lit"); (case fyz12 => walk_at "lit"); (case fbz12 => walk_at "bf"); (all_goals (intro q9z12; try first | exact absurd q9z12 (by with_reducible assumption) | exact absurd (by with_reducible assumption) q9z12 | exact absurd q9z12 (by decide) | exact absurd (by decide) q9z12 | (exfalso; omega))))))
  (k_with "compareOp NotEq float float" => (with_plain (refine' s_ne ?fxz13 ?fyz13 ?fbz13 ?_ ?_; (case fxz13 => walk_at "lit"); (case fyz13 => walk_at "lit"); (case fbz13 => walk_at "bf"); (all_goals (intro q9z13; try first | exact absurd q9z13 (by with_reducible assumption) | exact absurd (by with_reducible assumption) q9z13 | exact absurd q9z13 (by decide) | exact absurd (by decide) q9z13 | (exfalso; omega))))))
  (k_with "compareOp LtE float float" => (with_plain (refine' s_le ?fxz14 ?fyz14 ?fbz14 ?_ ?_; (case fxz14 => walk_at "lit"); (case fyz14 => walk_at "lit"); (case fbz14 => walk_at "bf"); (all_goals (intro q9z14; try first | exact absurd q9z14 (by with_reducible assumption) | exact absurd (by with_reducible assumption) q9z14 | exact absurd q9z14 (by decide) | exact absurd (by decide) q9z14 | (exfalso; omega))))))
  (k_with "call builtin:max" => ((refine' max3_hi rfl ?kFz15 ?kNz15 ?kaz15 ?kbz15 ?kcz15 ?_; (case kFz15 => k_asm); (case kNz15 => k_asm); (case kaz15 => assumption); (case kbz15 => assumption); (case kcz15 => assumption); intro h9z15 tk9z15 t9z15 F9z15 N9z15; (try dsimp only))))
  (k_with "call builtin:min" => ((refine' min3_lo rfl ?kFz16 ?kNz16 ?kaz16 ?kbz16 ?kcz16 ?_; (case kFz16 => k_asm); (case kNz16 => k_asm); (case kaz16 => assumption); (case kbz16 => assumption); (case kcz16 => assumption); intro h9z16 tk9z16 t9z16 F9z16 N9z16; (try dsimp only))))
  (k_with "binaryOp Div float float" => (with_plain ((refine' s_half rfl ?fxz17 ?fyz17 ?fbz17 ?_); (case fxz17 => exact rfl); (case fyz17 => first | exact lit_2 | exact rfl); (case fbz17 => omega); intro t9z17; (try dsimp only))))
  (k_with "binaryOp Mult float float" => (with_plain ((refine' s_two ?fxz18 ?fyz18 ?fbz18 ?_); (case fxz18 => first | exact lit_2 | exact rfl); (case fyz18 => exact rfl); (case fbz18 => omega); intro t9z18; (try dsimp only))))
  (k_with "binaryOp Mult float float" => (with_plain ((refine' s_16 ?fxz19 ?fyz19 ?fbz19 ?_); (case fxz19 => exact rfl); (case fyz19 => exact rfl); (case fbz19 => omega); intro t9z19; (try dsimp only))))
  (k_with "binaryOp Mult float float" => (with_plain ((refine' s_mulz ?fzz20 ?_); (case fzz20 => first | exact mz_0 | exact mz_1 | exact mz_2 | exact mz_3 | exact mz_4 | exact mz_5); intro t9z20; (try dsimp only))))
  (k_with "binaryOp Sub float int" => (with_plain ((refine' s_subint ?fxz21 ?fbz21 ?_); (case fxz21 => exact rfl); (case fbz21 => omega); intro t9z21; (try dsimp only))))
  (k_with "binaryOp Mult int float" => (with_plain ((refine' s_mulint ?fxz22 ?fyz22 ?fbz22 ?_); (case fxz22 => exact rfl); (case fyz22 => exact rfl); (case fbz22 => omega); intro t9z22; (try dsimp only))))
  (k_with "binaryOp Div int int" => (with_plain ((refine' s_divint rfl ?fxz23 ?fbz23 ?_); (case fxz23 => exact rfl); (case fbz23 => omega); intro t9z23; (try dsimp only))))
  (k_with "enter9" => ((refine' code_def ?k1z24 ?k2z24 ?k3z24 ?k4z24 ?k5z24 ?kAz24 ?kFz24 ?kKz24 ?k6z24 ?k7z24 ?k8z24 ?k9z24 ?kBz24 ?_ ?c2z24 ?c3z24 ?c4z24 ?c5z24; (case kAz24 => exact rfl); (case kFz24 => exact rfl); (case kKz24 => first | exact rfl | assumption); (case k1z24 => k_asm); (case k2z24 => k_asm); (case k3z24 => k_asm); (case k4z24 => k_asm); (case k5z24 => k_asm); (case k6z24 => k_is); (case k7z24 => k_is); (case k8z24 => exact (Room.deep (k' := 1) (by assumption) (by decide)).lt); (case k9z24 => exact BindsTo.of_eq rfl); (case c5z24 => decide); (case kBz24 => exact locs rfl); (case c2z24 => exact rfl); (case c3z24 => exact rfl); (case c4z24 => exact rfl); k_whole; intro g'z24 L'z24 h'z24 FG'z24 F'z24 N'z24 B'z24 X'z24 T'z24; (try dsimp only); (try k_fold))))
  (k_with "call ref" => ((k_here; (refine wpAny_call ?_); k_dflt (walk_at "enter9"))))
  trivial

example : True := by
  (k_with "mlook" => (first | with_reducible exact look_at | with_reducible assumption | (refine look_by2 (by decide) ?_; walk_at "mlook") | exact rfl))
  (k_with "eval Name" => ((k_here; with_plain ((refine' ld ?k1z27 ?k2z27 ?_); (case k1z27 => k_asm); (case k2z27 => walk_at "mlook"); k_whole))))
  trivial
example : True := by
  (k_with "k_ne" => (first | with_reducible assumption | (refine Ne.symm ?_; with_reducible assumption) | exact ltn (by assumption) (by k_mem) | exact Ne.symm (ltn (by assumption) (by k_mem)) | (refine neN ?_; (try dsimp only); first | with_reducible assumption | (refine Ne.symm ?_; with_reducible assumption) | exact ltn (by assumption) (by k_mem) | exact Ne.symm (ltn (by assumption) (by k_mem)) | omega)))
  trivial
example : True := by
  (k_with "memR" => (first | exact memR0 | (refine memR1 ?_; walk_at "memR")))
  (k_with "subscriptTail Name Name ref int" => ((k_here; with_plain ((refine' s_item ?k1z30 ?k2z30 ?k3z30 ?k4z30 ?_ ?k5z30); (case k1z30 => k_asm); (case k2z30 => first | k_mem | assumption | apply_assumption); (case k3z30 => first | assumption | decide | omega); (case k4z30 => first | assumption | rfl); (case k5z30 => with_unfolding_all rfl)))))
  (k_with "subscriptTail Subscript" => ((k_here; with_plain ((refine' s_item ?k1z31 ?k2z31 ?k3z31 ?k4z31 ?_ ?k5z31); (case k1z31 => k_asm); (case k2z31 => first | k_mem | assumption | apply_assumption); (case k3z31 => first | assumption | decide | omega); (case k4z31 => first | assumption | rfl); (case k5z31 => with_unfolding_all rfl)))))
  (k_with "RangeRest" => (with_plain (first | (refine' RangeRest.succ ?_; intro t'z32 h'z32 tk'z32 F'z32 N'z32) | (refine' RangeRest.zero ?_; intro h'z32 tk'z32 F'z32 N'z32))))
  (k_with "for9" => ((k_here; with_plain ((refine' For_turns ?Fz33 ?_ ?hsz33 ?hEz33); (case Fz33 => k_asm); (case hsz33 => intro _; rfl); (case hEz33 => passes_own); k_whole))))
  (k_with "exec For Tuple List cons nil" => (walk_at "for9"))
  (k_with "exec For Tuple Call cons nil" => (walk_at "for9"))
  (k_with "exec For Tuple Name cons nil" => (walk_at "for9"))
  (k_with "exec For Name List cons nil" => (walk_at "for9"))
  (k_with "pyIter ref" => ((k_here; (with_reducible show wpAny _ _ (pyIter (Value.ref _)) (fun it s₂ => TurnsAt _ _ _ _ _ _ _ _ _ it s₂) _ _); with_plain ((refine' iter_listTurns ?hhz38 ?Fz38 ?Nz38 ?mz38 ?cz38 ?dz38 ?_); (case hhz38 => exact rfl); (case Fz38 => k_asm); (case Nz38 => k_asm); (case mz38 => k_mem); (case cz38 => exact rfl); (case dz38 => exact rfl); (intro i'z38 l1z38); (try k_lt l1z38); (try dsimp only [List.map_cons, List.map_nil])))))
  (k_with "ItemsRest" => (with_plain (first | (refine' ItemsRest.val ?_; intro h'z39 tk'z39 F'z39; ktu_objs) | (refine' ItemsRest.pair ?_; intro T'z39 t'z39 h'z39 tk'z39 hT'z39 F'z39; (try dsimp only at hT'z39); ktu_objs) | (refine' ItemsRest.zero ?_; intro h'z39 tk'z39 F'z39 N'z39))))
  trivial
example : True := by
  (k_with "k_mem9" => (with_reducible ((fail_if_success (show (zz9, _) ∈ _)); first | exact List.Mem.head _ | exact mm1 | exact mm2 | exact mm3 | exact mm4 | exact mm5 | exact mm6 | exact mm7 | exact mm8 | exact mm9 | exact mm10 | exact mm11 | exact mm12 | exact mm13 | exact mm14 | exact mm15 | exact mm16 | exact mm17 | exact mm18 | exact mm19 | exact mm20 | exact mm21 | exact mm22 | exact mm23 | exact mm24)))
  (k_with "k_sub9" => (((fail_if_success (with_reducible exact subNil)); (repeat' (with_reducible first | exact subNil | exact sub0 | refine' subK ?_ | refine' subD ?_)); done)))
  trivial

section
--LED: []
example : True := by
  (k_with "exec For Name Call cons cons" => ((k_here; with_plain ((refine' for_else (a := 0) (b := 32) (n := 32) ?Fz45 ?hhz45 ?hxz45 ?hpz45 ?h1z45 ?h2z45 ?_ ?hsz45 ?hEz45); (case Fz45 => k_asm); (case hhz45 => exact rfl); (case hxz45 => exact rfl); (case hpz45 => exact rfl); (case h1z45 => decide); (case h2z45 => decide); (case hsz45 => intro _; rfl); (case hEz45 => passes_own); k_whole))))
  (k_with "call builtin:dict.get" => ((k_here; with_plain ((refine' get_flagS ?Xz46 ?Fz46 ?_); (case Xz46 => k_asm); (case Fz46 => k_asm); (intro tg9z46); (try dsimp only)))))
  (k_with "binaryOp LShift int int" => (with_plain ((refine' s_shl ?hyz47 ?hiz47 ?_); (case hyz47 => exact Int.zero_add _); (case hiz47 => omega); (intro tg9z47); (try dsimp only))))
  (k_with "binaryOp BitAnd int int" => (first
      | ((with_reducible show wpAny _ _ (binaryOp _ (Value.int (pw _) _) (Value.int (pw _) _)) _ _ _); with_plain ((refine' s_and1 ?hbz48 ?_ ?_); (case hbz48 => omega); (all_goals ((intro q9z48 tg9z48); (try (exfalso; omega)); (try dsimp only)))))
      | ((with_reducible show wpAny _ _ (binaryOp _ (Value.int (pq _) _) (Value.int (pw _) _)) _ _ _); with_plain ((refine' s_and2 ?hbz48 ?_ ?_); (case hbz48 => omega); (all_goals ((intro q9z48 tg9z48); (try (exfalso; omega)); (try dsimp only)))))
      | ((with_reducible show wpAny _ _ (binaryOp _ (Value.int 0 _) (Value.int (pw _) _)) _ _ _); with_plain ((refine' s_and0 ?_); (intro tg9z48); (try dsimp only)))))
  (k_with "call builtin:hex" => ((k_here; with_plain ((refine' s_hex ?hiz49 ?_); (case hiz49 => omega); (intro tg9z49); (try dsimp only)))))
  (k_with "inplaceOp BitXor int int" => (first
      | ((with_reducible show wpAny _ _ (inplaceOp _ (Value.int (pw _) _) (Value.int (pw _) _)) _ _ _); with_plain ((refine' s_xor1 ?hbz50 ?_); (case hbz50 => omega); (intro tg9z50); (try dsimp only)))
      | ((with_reducible show wpAny _ _ (inplaceOp _ (Value.int (pq _) _) (Value.int (pw _) _)) _ _ _); with_plain ((refine' s_xor2 ?hbz50 ?_); (case hbz50 => omega); (intro tg9z50); (try dsimp only)))))
  (k_with "truthy int" => (((with_reducible show wpAny _ _ (truthy (Value.int (pw _) _)) _ _ _); with_plain ((refine' s_nz ?_); (try dsimp only)))))
  (k_with "call builtin:str.join" => ((k_here; (with_reducible show wpAny _ _ (call (Value.builtin "str.join") [Value.str _ _, Value.ref _]) _ _ _); with_plain ((refine' s_join ?Nz52 ?mz52 ?hiz52 ?hsepz52 ?hwz52 ?_); (case Nz52 => k_asm); (case mz52 => k_mem); (case hiz52 => first | exact .cons _ _ .nil | exact .cons _ _ (.cons _ _ .nil)); (case hsepz52 => decide); (case hwz52 => first | exact jw0 (by omega) | exact jw2 (by omega) | decide +kernel); (intro tj9z52 kj9z52); (try dsimp only)))))
  (k_with "loadName" => ((k_here; with_plain ((refine' ldn ?k1z53 ?k2z53 ?_); (case k1z53 => k_asm); (case k2z53 => walk_at "mlook"); k_whole))))
  trivial
set_option maxHeartbeats 8000000 in
theorem c_pretty0 (w : World) (rest : List (Addr × Obj)) (t : Tok) (dis : ∀ x ∈ rest, x.1 ∉ ([] : List Addr)) :
    Ctr w 4 43 [.int 0 t] rest (fun r n => n = rest ∧ ∃ t, r = .str (Txt.join (Str.ofString ", ") [baseText "0x" 16 0]) t) := by
  refine fillG PySem.Challenge.rw_tr0025_01 hd.heap_39 ?_
  k_fill
  unfold FillG Ctr
  intro mean mg mb dp un gd cn cs a ccd cl outer A₀ base h₀ L m s Q E B F X N T hk hroom hret
  have hlt := hroom.lt
  refine wpAny_call ?_
  have NR := subR N (n' := rest) (by walk_at "memR")
  k_dflt (refine' enterF (led := []) (rest := rest) ?k1 ?k2 ?k3 ?k4 ?kR ?kX ?k5 ?kA ?kF ?kK ?k6 ?k7 ?k8 ?k9 ?kB ?_ ?c2 ?c3 ?c4 ?c5; (case kA => exact rfl); (case kF => exact rfl); (case kK => assumption); (case k1 => k_asm); (case k2 => k_asm); (case k3 => k_asm); (case k4 => exact subN N (by k_subL)); (case kR => exact NR); (case kX => exact dis); (case k5 => k_asm); (case k6 => k_is); (case k7 => k_is); (case k8 => exact hlt); (case k9 => exact BindsTo.of_eq rfl); (case c5 => decide); (case kB => exact locs rfl); (case c2 => exact rfl); (case c3 => exact rfl); (case c4 => exact rfl); k_whole; intro g' L' h' FG' F' N' B' X' T' hrest; (try dsimp only); (try k_fold))
  clear N
  k_steps
  refine ⟨_, _, _, _, _, _, rfl, by k_asm, by k_asm, by k_asm, ?_⟩
  intro I lI
  k_lt lI
  refine cut_rest (fun R => ∀ j i m tf l, i + j = 32 → @LT.lt Nat _ l I → m (Str.ofString "flags") = some (.int 0 tf) → m (Str.ofString "names") = some (.ref l) → R j i m [(l, listOf #[] 0)]) ?_ (fun gate => gate 32 0 _ _ _ rfl (lI _ (List.mem_cons_self ..)) rfl rfl)
  intro j
  induction j with
  | zero =>
    intro i m tf l h1 hl m1 m2
    unfold ElseRest
    intro hi tki Fi Ni
    k_steps
    refine' hret _ _ _ _ ?_ (frame_ret NR hrest (by k_asm) (subN (n' := []) (by k_asm) trivial)) ⟨rfl, _, rfl⟩
    k_asm
  | succ j ih =>
    intro i m tf l h1 hl m1 m2
    unfold ElseRest
    intro ti hi tki Fi Ni
    k_steps
    refine ih _ _ tf l (by omega) hl ?_ ?_ <;> walk_at "mlook"

end
example : True := by
  k_with_none
  w_top off
  trivial
example : True := by
  (k_with "lit" => (first | exact rfl | exact lit_0 | exact lit_1 | exact lit_2 | exact lit_6 | exact lit_05))
  (k_with "bd" => (first | assumption | (refine' bsub ?_ ?_ <;> walk_at "bd") | (refine' badd ?_ ?_ <;> walk_at "bd") | exact Nat.le_refl _))
  (k_with "bf" => (first | ((refine' bfit ?b1z3 ?b2z3 ?b3z3); (case b1z3 => walk_at "bd"); (case b2z3 => walk_at "bd"); (case b3z3 => decide)) | omega))
  (k_with "binaryOp Add float float" => (with_plain (refine' s_add ?fxz4 ?fyz4 ?fbz4 ?_; (case fxz4 => walk_at "lit"); (case fyz4 => walk_at "lit"); (case fbz4 => walk_at "bf"); intro t9z4; (try dsimp only))))
  (k_with "binaryOp Sub float float" => (with_plain (refine' s_sub ?fxz5 ?fyz5 ?fbz5 ?_; (case fxz5 => walk_at "lit"); (case fyz5 => walk_at "lit"); (case fbz5 => walk_at "bf"); intro t9z5; (try dsimp only))))
  (k_with "binaryOp Sub float float" => (with_plain (refine' s_sub0 ?fxz6 ?fyz6 ?fbz6 ?_; (case fxz6 => exact rfl); (case fyz6 => walk_at "lit"); (case fbz6 => (refine' Nat.lt_of_le_of_lt ?b1z6 ?b3z6; (case b1z6 => assumption); (case b3z6 => decide))); intro t9z6; (try dsimp only))))
  (k_with "binaryOp Add float float" => (with_plain (refine' s_add0 ?fxz7 ?fyz7 ?fbz7 ?_; (case fxz7 => exact rfl); (case fyz7 => walk_at "lit"); (case fbz7 => (refine' Nat.lt_of_le_of_lt ?b1z7 ?b3z7; (case b1z7 => assumption); (case b3z7 => decide))); intro t9z7; (try dsimp only))))
  (k_with "binaryOp Div float float" => (with_plain (refine' s_div rfl ?fyz8 ?fbz8 ?_; (case fyz8 => walk_at "lit"); (case fbz8 => omega); intro t9z8; (try dsimp only))))
  (k_with "binaryOp Mod float float" => (with_plain (refine' s_mod rfl ?fyz9 ?fbz9 ?_; (case fyz9 => walk_at "lit"); (case fbz9 => omega); intro z9z9 t9z9; (try dsimp only))))
  (k_with "compareOp Lt float float" => (with_plain (refine' s_lt ?fxz10 ?fyz10 ?fbz10 ?_ ?_; (case fxz10 => walk_at "lit"); (case fyz10 => walk_at "lit"); (case fbz10 => walk_at "bf"); (all_goals (intro q9z10; try first | exact absurd q9z10 (by with_reducible assumption) | exact absurd (by with_reducible assumption) q9z10 | exact absurd q9z10 (by decide) | exact absurd (by decide) q9z10 | (exfalso; omega))))))
  (k_with "compareOp Gt float float" => (with_plain (refine' s_gt ?fxz11 ?fyz11 ?fbz11 ?_ ?_; (case fxz11 => walk_at "lit"); (case fyz11 => walk_at "lit"); (case fbz11 => walk_at "bf"); (all_goals (intro q9z11; try first | exact absurd q9z11 (by with_reducible assumption) | exact absurd (by with_reducible assumption) q9z11 | exact absurd q9z11 (by decide) | exact absurd (by decide) q9z11 | (exfalso; omega))))))
  (k_with "compareOp Eq float float" => (with_plain (refine' s_eq ?fxz12 ?fyz12 ?fbz12 ?_ ?_; (case fxz12 => walk_at "lit"); (case fyz12 => walk_at "lit"); (case fbz12 => walk_at "bf"); (all_goals (intro q9z12; try first | exact absurd q9z12 (by with_reducible assumption) | exact absurd (by with_reducible assumption) q9z12 | exact absurd q9z12 (by decide) | exact absurd (by decide) q9z12 | (exfalso; omega))))))
  (k_with "compareOp NotEq float float" => (with_plain (refine' s_ne ?fxz13 ?fyz13 ?fbz13 ?_ ?_; (case fxz13 => walk_at "lit"); (case fyz13 => walk_at "lit"); (case fbz13 => walk_at "bf"); (all_goals (intro q9z13; try first | exact absurd q9z13 (by with_reducible assumption) | exact absurd (by with_reducible assumption) q9z13 | exact absurd q9z13 (by decide) | exact absurd (by decide) q9z13 | (exfalso; omega))))))
  (k_with "compareOp LtE float float" => (with_plain (refine' s_le ?fxz14 ?fyz14 ?fbz14 ?_ ?_; (case fxz14 => walk_at "lit"); (case fyz14 => walk_at "lit"); (case fbz14 => walk_at "bf"); (all_goals (intro q9z14; try first | exact absurd q9z14 (by with_reducible assumption) | exact absurd (by with_reducible assumption) q9z14 | exact absurd q9z14 (by decide) | exact absurd (by decide) q9z14 | (exfalso; omega))))))
  (k_with "call builtin:max" => ((refine' max3_hi rfl ?kFz15 ?kNz15 ?kaz15 ?kbz15 ?kcz15 ?_; (case kFz15 => k_asm); (case kNz15 => k_asm); (case kaz15 => assumption); (case kbz15 => assumption); (case kcz15 => assumption); intro h9z15 tk9z15 t9z15 F9z15 N9z15; (try dsimp only))))
  (k_with "call builtin:min" => ((refine' min3_lo rfl ?kFz16 ?kNz16 ?kaz16 ?kbz16 ?kcz16 ?_; (case kFz16 => k_asm); (case kNz16 => k_asm); (case kaz16 => assumption); (case kbz16 => assumption); (case kcz16 => assumption); intro h9z16 tk9z16 t9z16 F9z16 N9z16; (try dsimp only))))
  (k_with "binaryOp Div float float" => (with_plain ((refine' s_half rfl ?fxz17 ?fyz17 ?fbz17 ?_); (case fxz17 => exact rfl); (case fyz17 => first | exact lit_2 | exact rfl); (case fbz17 => omega); intro t9z17; (try dsimp only))))
  (k_with "binaryOp Mult float float" => (with_plain ((refine' s_two ?fxz18 ?fyz18 ?fbz18 ?_); (case fxz18 => first | exact lit_2 | exact rfl); (case fyz18 => exact rfl); (case fbz18 => omega); intro t9z18; (try dsimp only))))
  (k_with "binaryOp Mult float float" => (with_plain ((refine' s_16 ?fxz19 ?fyz19 ?fbz19 ?_); (case fxz19 => exact rfl); (case fyz19 => exact rfl); (case fbz19 => omega); intro t9z19; (try dsimp only))))
  (k_with "binaryOp Mult float float" => (with_plain ((refine' s_mulz ?fzz20 ?_); (case fzz20 => first | exact mz_0 | exact mz_1 | exact mz_2 | exact mz_3 | exact mz_4 | exact mz_5); intro t9z20; (try dsimp only))))
  (k_with "binaryOp Sub float int" => (with_plain ((refine' s_subint ?fxz21 ?fbz21 ?_); (case fxz21 => exact rfl); (case fbz21 => omega); intro t9z21; (try dsimp only))))
  (k_with "binaryOp Mult int float" => (with_plain ((refine' s_mulint ?fxz22 ?fyz22 ?fbz22 ?_); (case fxz22 => exact rfl); (case fyz22 => exact rfl); (case fbz22 => omega); intro t9z22; (try dsimp only))))
  (k_with "binaryOp Div int int" => (with_plain ((refine' s_divint rfl ?fxz23 ?fbz23 ?_); (case fxz23 => exact rfl); (case fbz23 => omega); intro t9z23; (try dsimp only))))
  (k_with "enter9" => ((refine' code_def ?k1z24 ?k2z24 ?k3z24 ?k4z24 ?k5z24 ?kAz24 ?kFz24 ?kKz24 ?k6z24 ?k7z24 ?k8z24 ?k9z24 ?kBz24 ?_ ?c2z24 ?c3z24 ?c4z24 ?c5z24; (case kAz24 => exact rfl); (case kFz24 => exact rfl); (case kKz24 => first | exact rfl | assumption); (case k1z24 => k_asm); (case k2z24 => k_asm); (case k3z24 => k_asm); (case k4z24 => k_asm); (case k5z24 => k_asm); (case k6z24 => k_is); (case k7z24 => k_is); (case k8z24 => exact (Room.deep (k' := 1) (by assumption) (by decide)).lt); (case k9z24 => exact BindsTo.of_eq rfl); (case c5z24 => decide); (case kBz24 => exact locs rfl); (case c2z24 => exact rfl); (case c3z24 => exact rfl); (case c4z24 => exact rfl); k_whole; intro g'z24 L'z24 h'z24 FG'z24 F'z24 N'z24 B'z24 X'z24 T'z24; (try dsimp only); (try k_fold))))
  (k_with "call ref" => ((k_here; (refine wpAny_call ?_); k_dflt (walk_at "enter9"))))
  trivial

example : True := by
  (k_with "mlook" => (first | with_reducible exact look_at | with_reducible assumption | (refine look_by2 (by decide) ?_; walk_at "mlook") | exact rfl))
  (k_with "eval Name" => ((k_here; with_plain ((refine' ld ?k1z27 ?k2z27 ?_); (case k1z27 => k_asm); (case k2z27 => walk_at "mlook"); k_whole))))
  trivial
example : True := by
  (k_with "k_ne" => (first | with_reducible assumption | (refine Ne.symm ?_; with_reducible assumption) | exact ltn (by assumption) (by k_mem) | exact Ne.symm (ltn (by assumption) (by k_mem)) | (refine neN ?_; (try dsimp only); first | with_reducible assumption | (refine Ne.symm ?_; with_reducible assumption) | exact ltn (by assumption) (by k_mem) | exact Ne.symm (ltn (by assumption) (by k_mem)) | omega)))
  trivial
example : True := by
  (k_with "memR" => (first | exact memR0 | (refine memR1 ?_; walk_at "memR")))
  (k_with "subscriptTail Name Name ref int" => ((k_here; with_plain ((refine' s_item ?k1z30 ?k2z30 ?k3z30 ?k4z30 ?_ ?k5z30); (case k1z30 => k_asm); (case k2z30 => first | k_mem | assumption | apply_assumption); (case k3z30 => first | assumption | decide | omega); (case k4z30 => first | assumption | rfl); (case k5z30 => with_unfolding_all rfl)))))
  (k_with "subscriptTail Subscript" => ((k_here; with_plain ((refine' s_item ?k1z31 ?k2z31 ?k3z31 ?k4z31 ?_ ?k5z31); (case k1z31 => k_asm); (case k2z31 => first | k_mem | assumption | apply_assumption); (case k3z31 => first | assumption | decide | omega); (case k4z31 => first | assumption | rfl); (case k5z31 => with_unfolding_all rfl)))))
  (k_with "RangeRest" => (with_plain (first | (refine' RangeRest.succ ?_; intro t'z32 h'z32 tk'z32 F'z32 N'z32) | (refine' RangeRest.zero ?_; intro h'z32 tk'z32 F'z32 N'z32))))
  (k_with "for9" => ((k_here; with_plain ((refine' For_turns ?Fz33 ?_ ?hsz33 ?hEz33); (case Fz33 => k_asm); (case hsz33 => intro _; rfl); (case hEz33 => passes_own); k_whole))))
  (k_with "exec For Tuple List cons nil" => (walk_at "for9"))
  (k_with "exec For Tuple Call cons nil" => (walk_at "for9"))
  (k_with "exec For Tuple Name cons nil" => (walk_at "for9"))
  (k_with "exec For Name List cons nil" => (walk_at "for9"))
  (k_with "pyIter ref" => ((k_here; (with_reducible show wpAny _ _ (pyIter (Value.ref _)) (fun it s₂ => TurnsAt _ _ _ _ _ _ _ _ _ it s₂) _ _); with_plain ((refine' iter_listTurns ?hhz38 ?Fz38 ?Nz38 ?mz38 ?cz38 ?dz38 ?_); (case hhz38 => exact rfl); (case Fz38 => k_asm); (case Nz38 => k_asm); (case mz38 => k_mem); (case cz38 => exact rfl); (case dz38 => exact rfl); (intro i'z38 l1z38); (try k_lt l1z38); (try dsimp only [List.map_cons, List.map_nil])))))
  (k_with "ItemsRest" => (with_plain (first | (refine' ItemsRest.val ?_; intro h'z39 tk'z39 F'z39; ktu_objs) | (refine' ItemsRest.pair ?_; intro T'z39 t'z39 h'z39 tk'z39 hT'z39 F'z39; (try dsimp only at hT'z39); ktu_objs) | (refine' ItemsRest.zero ?_; intro h'z39 tk'z39 F'z39 N'z39))))
  trivial
example : True := by
  (k_with "k_mem9" => (with_reducible ((fail_if_success (show (zz9, _) ∈ _)); first | exact List.Mem.head _ | exact mm1 | exact mm2 | exact mm3 | exact mm4 | exact mm5 | exact mm6 | exact mm7 | exact mm8 | exact mm9 | exact mm10 | exact mm11 | exact mm12 | exact mm13 | exact mm14 | exact mm15 | exact mm16 | exact mm17 | exact mm18 | exact mm19 | exact mm20 | exact mm21 | exact mm22 | exact mm23 | exact mm24)))
  (k_with "k_sub9" => (((fail_if_success (with_reducible exact subNil)); (repeat' (with_reducible first | exact subNil | exact sub0 | refine' subK ?_ | refine' subD ?_)); done)))
  trivial

section
--LED: []
example : True := by
  (k_with "exec For Name Call cons cons" => ((k_here; with_plain ((refine' for_else (a := 0) (b := 32) (n := 32) ?Fz54 ?hhz54 ?hxz54 ?hpz54 ?h1z54 ?h2z54 ?_ ?hsz54 ?hEz54); (case Fz54 => k_asm); (case hhz54 => exact rfl); (case hxz54 => exact rfl); (case hpz54 => exact rfl); (case h1z54 => decide); (case h2z54 => decide); (case hsz54 => intro _; rfl); (case hEz54 => passes_own); k_whole))))
  (k_with "call builtin:dict.get" => ((k_here; with_plain ((refine' get_flagS ?Xz55 ?Fz55 ?_); (case Xz55 => k_asm); (case Fz55 => k_asm); (intro tg9z55); (try dsimp only)))))
  (k_with "binaryOp LShift int int" => (with_plain ((refine' s_shl ?hyz56 ?hiz56 ?_); (case hyz56 => exact Int.zero_add _); (case hiz56 => omega); (intro tg9z56); (try dsimp only))))
  (k_with "binaryOp BitAnd int int" => (first
      | ((with_reducible show wpAny _ _ (binaryOp _ (Value.int (pw _) _) (Value.int (pw _) _)) _ _ _); with_plain ((refine' s_and1 ?hbz57 ?_ ?_); (case hbz57 => omega); (all_goals ((intro q9z57 tg9z57); (try (exfalso; omega)); (try dsimp only)))))
      | ((with_reducible show wpAny _ _ (binaryOp _ (Value.int (pq _) _) (Value.int (pw _) _)) _ _ _); with_plain ((refine' s_and2 ?hbz57 ?_ ?_); (case hbz57 => omega); (all_goals ((intro q9z57 tg9z57); (try (exfalso; omega)); (try dsimp only)))))
      | ((with_reducible show wpAny _ _ (binaryOp _ (Value.int 0 _) (Value.int (pw _) _)) _ _ _); with_plain ((refine' s_and0 ?_); (intro tg9z57); (try dsimp only)))))
  (k_with "call builtin:hex" => ((k_here; with_plain ((refine' s_hex ?hiz58 ?_); (case hiz58 => omega); (intro tg9z58); (try dsimp only)))))
  (k_with "inplaceOp BitXor int int" => (first
      | ((with_reducible show wpAny _ _ (inplaceOp _ (Value.int (pw _) _) (Value.int (pw _) _)) _ _ _); with_plain ((refine' s_xor1 ?hbz59 ?_); (case hbz59 => omega); (intro tg9z59); (try dsimp only)))
      | ((with_reducible show wpAny _ _ (inplaceOp _ (Value.int (pq _) _) (Value.int (pw _) _)) _ _ _); with_plain ((refine' s_xor2 ?hbz59 ?_); (case hbz59 => omega); (intro tg9z59); (try dsimp only)))))
  (k_with "truthy int" => (((with_reducible show wpAny _ _ (truthy (Value.int (pw _) _)) _ _ _); with_plain ((refine' s_nz ?_); (try dsimp only)))))
  (k_with "call builtin:str.join" => ((k_here; (with_reducible show wpAny _ _ (call (Value.builtin "str.join") [Value.str _ _, Value.ref _]) _ _ _); with_plain ((refine' s_join ?Nz61 ?mz61 ?hiz61 ?hsepz61 ?hwz61 ?_); (case Nz61 => k_asm); (case mz61 => k_mem); (case hiz61 => first | exact .cons _ _ .nil | exact .cons _ _ (.cons _ _ .nil)); (case hsepz61 => decide); (case hwz61 => first | exact jw0 (by omega) | exact jw2 (by omega) | decide +kernel); (intro tj9z61 kj9z61); (try dsimp only)))))
  (k_with "loadName" => ((k_here; with_plain ((refine' ldn ?k1z62 ?k2z62 ?_); (case k1z62 => k_asm); (case k2z62 => walk_at "mlook"); k_whole))))
  trivial
set_option maxHeartbeats 8000000 in
theorem c_pretty1 (w : World) (rest : List (Addr × Obj)) (k : Nat) (hk32 : k < 32) (t : Tok) (dis : ∀ x ∈ rest, x.1 ∉ ([] : List Addr)) :
    Ctr w 4 43 [.int (pw k) t] rest (fun r n => n = rest ∧ ∃ t, r = .str (Txt.join (Str.ofString ", ") [flagS k]) t) := by
  refine fillG PySem.Challenge.rw_tr0025_01 hd.heap_39 ?_
  k_fill
  unfold FillG Ctr
  intro mean mg mb dp un gd cn cs a ccd cl outer A₀ base h₀ L m s Q E B F X N T hk hroom hret
  have hlt := hroom.lt
  refine wpAny_call ?_
  have NR := subR N (n' := rest) (by walk_at "memR")
  k_dflt (refine' enterF (led := []) (rest := rest) ?k1 ?k2 ?k3 ?k4 ?kR ?kX ?k5 ?kA ?kF ?kK ?k6 ?k7 ?k8 ?k9 ?kB ?_ ?c2 ?c3 ?c4 ?c5; (case kA => exact rfl); (case kF => exact rfl); (case kK => assumption); (case k1 => k_asm); (case k2 => k_asm); (case k3 => k_asm); (case k4 => exact subN N (by k_subL)); (case kR => exact NR); (case kX => exact dis); (case k5 => k_asm); (case k6 => k_is); (case k7 => k_is); (case k8 => exact hlt); (case k9 => exact BindsTo.of_eq rfl); (case c5 => decide); (case kB => exact locs rfl); (case c2 => exact rfl); (case c3 => exact rfl); (case c4 => exact rfl); k_whole; intro g' L' h' FG' F' N' B' X' T' hrest; (try dsimp only); (try k_fold))
  clear N
  k_steps
  refine ⟨_, _, _, _, _, _, rfl, by k_asm, by k_asm, by k_asm, ?_⟩
  intro I lI
  k_lt lI
  refine cut_rest (fun R => ∀ j i m tf l, i + j = 32 → i ≤ k → @LT.lt Nat _ l I → m (Str.ofString "flags") = some (.int (pw k) tf) → m (Str.ofString "names") = some (.ref l) → R j i m [(l, listOf #[] 0)]) ?_ (fun gate => gate 32 0 _ _ _ rfl (Nat.zero_le _) (lI _ (List.mem_cons_self ..)) rfl rfl)
  intro j
  induction j with
  | zero => intro i m tf l h1 h2; exfalso; omega
  | succ j ih =>
    intro i m tf l h1 h2 hl m1 m2
    unfold ElseRest
    intro ti hi tki Fi Ni
    have h3 : k = i ∨ i + 1 ≤ k := by omega
    k_steps
    · have e : k = i := by omega
      subst e
      refine' hret _ _ _ _ ?_ (frame_ret NR hrest (by k_asm) (subN (n' := []) (by k_asm) trivial)) ⟨rfl, _, rfl⟩
      k_asm
    · refine ih _ _ tf l (by omega) (by omega) hl ?_ ?_ <;> walk_at "mlook"

end
example : True := by
  k_with_none
  w_top off
  trivial
example : True := by
  (k_with "lit" => (first | exact rfl | exact lit_0 | exact lit_1 | exact lit_2 | exact lit_6 | exact lit_05))
  (k_with "bd" => (first | assumption | (refine' bsub ?_ ?_ <;> walk_at "bd") | (refine' badd ?_ ?_ <;> walk_at "bd") | exact Nat.le_refl _))
  (k_with "bf" => (first | ((refine' bfit ?b1z3 ?b2z3 ?b3z3); (case b1z3 => walk_at "bd"); (case b2z3 => walk_at "bd"); (case b3z3 => decide)) | omega))
  (k_with "binaryOp Add float float" => (with_plain (refine' s_add ?fxz4 ?fyz4 ?fbz4 ?_; (case fxz4 => walk_at "lit"); (case fyz4 => walk_at "lit"); (case fbz4 => walk_at "bf"); intro t9z4; (try dsimp only))))
  (k_with "binaryOp Sub float float" => (with_plain (refine' s_sub ?fxz5 ?fyz5 ?fbz5 ?_; (case fxz5 => walk_at "lit"); (case fyz5 => walk_at "lit"); (case fbz5 => walk_at "bf"); intro t9z5; (try dsimp only))))
  (k_with "binaryOp Sub float float" => (with_plain (refine' s_sub0 ?fxz6 ?fyz6 ?fbz6 ?_; (case fxz6 => exact rfl); (case fyz6 => walk_at "lit"); (case fbz6 => (refine' Nat.lt_of_le_of_lt ?b1z6 ?b3z6; (case b1z6 => assumption); (case b3z6 => decide))); intro t9z6; (try dsimp only))))
  (k_with "binaryOp Add float float" => (with_plain (refine' s_add0 ?fxz7 ?fyz7 ?fbz7 ?_; (case fxz7 => exact rfl); (case fyz7 => walk_at "lit"); (case fbz7 => (refine' Nat.lt_of_le_of_lt ?b1z7 ?b3z7; (case b1z7 => assumption); (case b3z7 => decide))); intro t9z7; (try dsimp only))))
  (k_with "binaryOp Div float float" => (with_plain (refine' s_div rfl ?fyz8 ?fbz8 ?_; (case fyz8 => walk_at "lit"); (case fbz8 => omega); intro t9z8; (try dsimp only))))
  (k_with "binaryOp Mod float float" => (with_plain (refine' s_mod rfl ?fyz9 ?fbz9 ?_; (case fyz9 => walk_at "lit"); (case fbz9 => omega); intro z9z9 t9z9; (try dsimp only))))
  (k_with "compareOp Lt float float" => (with_plain (refine' s_lt ?fxz10 ?fyz10 ?fbz10 ?_ ?_; (case fxz10 => walk_at "lit"); (case fyz10 => walk_at "lit"); (case fbz10 => walk_at "bf"); (all_goals (intro q9z10; try first | exact absurd q9z10 (by with_reducible assumption) | exact absurd (by with_reducible assumption) q9z10 | exact absurd q9z10 (by decide) | exact absurd (by decide) q9z10 | (exfalso; omega))))))
  (k_with "compareOp Gt float float" => (with_plain (refine' s_gt ?fxz11 ?fyz11 ?fbz11 ?_ ?_; (case fxz11 => walk_at "lit"); (case fyz11 => walk_at "lit"); (case fbz11 => walk_at "bf"); (all_goals (intro q9z11; try first | exact absurd q9z11 (by with_reducible assumption) | exact absurd (by with_reducible assumption) q9z11 | exact absurd q9z11 (by decide) | exact absurd (by decide) q9z11 | (exfalso; omega))))))
  (k_with "compareOp Eq float float" => (with_plain (refine' s_eq ?fxz12 ?fyz12 ?fbz12 ?_ ?_; (case fxz12 => walk_at "lit"); (case fyz12 => walk_at "lit"); (case fbz12 => walk_at "bf"); (all_goals (intro q9z12; try first | exact absurd q9z12 (by with_reducible assumption) | exact absurd (by with_reducible assumption) q9z12 | exact absurd q9z12 (by decide) | exact absurd (by decide) q9z12 | (exfalso; omega))))))
  (k_with "compareOp NotEq float float" => (with_plain (refine' s_ne ?fxz13 ?fyz13 ?fbz13 ?_ ?_; (case fxz13 => walk_at "lit"); (case fyz13 => walk_at "lit"); (case fbz13 => walk_at "bf"); (all_goals (intro q9z13; try first | exact absurd q9z13 (by with_reducible assumption) | exact absurd (by with_reducible assumption) q9z13 | exact absurd q9z13 (by decide) | exact absurd (by decide) q9z13 | (exfalso; omega))))))
  (k_with "compareOp LtE float float" => (with_plain (refine' s_le ?fxz14 ?fyz14 ?fbz14 ?_ ?_; (case fxz14 => walk_at "lit"); (case fyz14 => walk_at "lit"); (case fbz14 => walk_at "bf"); (all_goals (intro q9z14; try first | exact absurd q9z14 (by with_reducible assumption) | exact absurd (by with_reducible assumption) q9z14 | exact absurd q9z14 (by decide) | exact absurd (by decide) q9z14 | (exfalso; omega))))))
  (k_with "call builtin:max" => ((refine' max3_hi rfl ?kFz15 ?kNz15 ?kaz15 ?kbz15 ?kcz15 ?_; (case kFz15 => k_asm); (case kNz15 => k_asm); (case kaz15 => assumption); (case kbz15 => assumption); (case kcz15 => assumption); intro h9z15 tk9z15 t9z15 F9z15 N9z15; (try dsimp only))))
  (k_with "call builtin:min" => ((refine' min3_lo rfl ?kFz16 ?kNz16 ?kaz16 ?kbz16 ?kcz16 ?_; (case kFz16 => k_asm); (case kNz16 => k_asm); (case kaz16 => assumption); (case kbz16 => assumption); (case kcz16 => assumption); intro h9z16 tk9z16 t9z16 F9z16 N9z16; (try dsimp only))))
  (k_with "binaryOp Div float float" => (with_plain ((refine' s_half rfl ?fxz17 ?fyz17 ?fbz17 ?_); (case fxz17 => exact rfl); (case fyz17 => first | exact lit_2 | exact rfl); (case fbz17 => omega); intro t9z17; (try dsimp only))))
  (k_with "binaryOp Mult float float" => (with_plain ((refine' s_two ?fxz18 ?fyz18 ?fbz18 ?_); (case fxz18 => first | exact lit_2 | exact rfl); (case fyz18 => exact rfl); (case fbz18 => omega); intro t9z18; (try dsimp only))))
  (k_with "binaryOp Mult float float" => (with_plain ((refine' s_16 ?fxz19 ?fyz19 ?fbz19 ?_); (case fxz19 => exact rfl); (case fyz19 => exact rfl); (case fbz19 => omega); intro t9z19; (try dsimp only))))
  (k_with "binaryOp Mult float float" => (with_plain ((refine' s_mulz ?fzz20 ?_); (case fzz20 => first | exact mz_0 | exact mz_1 | exact mz_2 | exact mz_3 | exact mz_4 | exact mz_5); intro t9z20; (try dsimp only))))
  (k_with "binaryOp Sub float int" => (with_plain ((refine' s_subint ?fxz21 ?fbz21 ?_); (case fxz21 => exact rfl); (case fbz21 => omega); intro t9z21; (try dsimp only))))
  (k_with "binaryOp Mult int float" => (with_plain ((refine' s_mulint ?fxz22 ?fyz22 ?fbz22 ?_); (case fxz22 => exact rfl); (case fyz22 => exact rfl); (case fbz22 => omega); intro t9z22; (try dsimp only))))
  (k_with "binaryOp Div int int" => (with_plain ((refine' s_divint rfl ?fxz23 ?fbz23 ?_); (case fxz23 => exact rfl); (case fbz23 => omega); intro t9z23; (try dsimp only))))
  (k_with "enter9" => ((refine' code_def ?k1z24 ?k2z24 ?k3z24 ?k4z24 ?k5z24 ?kAz24 ?kFz24 ?kKz24 ?k6z24 ?k7z24 ?k8z24 ?k9z24 ?kBz24 ?_ ?c2z24 ?c3z24 ?c4z24 ?c5z24; (case kAz24 => exact rfl); (case kFz24 => exact rfl); (case kKz24 => first | exact rfl | assumption); (case k1z24 => k_asm); (case k2z24 => k_asm); (case k3z24 => k_asm); (case k4z24 => k_asm); (case k5z24 => k_asm); (case k6z24 => k_is); (case k7z24 => k_is); (case k8z24 => exact (Room.deep (k' := 1) (by assumption) (by decide)).lt); (case k9z24 => exact BindsTo.of_eq rfl); (case c5z24 => decide); (case kBz24 => exact locs rfl); (case c2z24 => exact rfl); (case c3z24 => exact rfl); (case c4z24 => exact rfl); k_whole; intro g'z24 L'z24 h'z24 FG'z24 F'z24 N'z24 B'z24 X'z24 T'z24; (try dsimp only); (try k_fold))))
  (k_with "call ref" => ((k_here; (refine wpAny_call ?_); k_dflt (walk_at "enter9"))))
  trivial

example : True := by
  (k_with "mlook" => (first | with_reducible exact look_at | with_reducible assumption | (refine look_by2 (by decide) ?_; walk_at "mlook") | exact rfl))
  (k_with "eval Name" => ((k_here; with_plain ((refine' ld ?k1z27 ?k2z27 ?_); (case k1z27 => k_asm); (case k2z27 => walk_at "mlook"); k_whole))))
  trivial
example : True := by
  (k_with "k_ne" => (first | with_reducible assumption | (refine Ne.symm ?_; with_reducible assumption) | exact ltn (by assumption) (by k_mem) | exact Ne.symm (ltn (by assumption) (by k_mem)) | (refine neN ?_; (try dsimp only); first | with_reducible assumption | (refine Ne.symm ?_; with_reducible assumption) | exact ltn (by assumption) (by k_mem) | exact Ne.symm (ltn (by assumption) (by k_mem)) | omega)))
  trivial
example : True := by
  (k_with "memR" => (first | exact memR0 | (refine memR1 ?_; walk_at "memR")))
  (k_with "subscriptTail Name Name ref int" => ((k_here; with_plain ((refine' s_item ?k1z30 ?k2z30 ?k3z30 ?k4z30 ?_ ?k5z30); (case k1z30 => k_asm); (case k2z30 => first | k_mem | assumption | apply_assumption); (case k3z30 => first | assumption | decide | omega); (case k4z30 => first | assumption | rfl); (case k5z30 => with_unfolding_all rfl)))))
  (k_with "subscriptTail Subscript" => ((k_here; with_plain ((refine' s_item ?k1z31 ?k2z31 ?k3z31 ?k4z31 ?_ ?k5z31); (case k1z31 => k_asm); (case k2z31 => first | k_mem | assumption | apply_assumption); (case k3z31 => first | assumption | decide | omega); (case k4z31 => first | assumption | rfl); (case k5z31 => with_unfolding_all rfl)))))
  (k_with "RangeRest" => (with_plain (first | (refine' RangeRest.succ ?_; intro t'z32 h'z32 tk'z32 F'z32 N'z32) | (refine' RangeRest.zero ?_; intro h'z32 tk'z32 F'z32 N'z32))))
  (k_with "for9" => ((k_here; with_plain ((refine' For_turns ?Fz33 ?_ ?hsz33 ?hEz33); (case Fz33 => k_asm); (case hsz33 => intro _; rfl); (case hEz33 => passes_own); k_whole))))
  (k_with "exec For Tuple List cons nil" => (walk_at "for9"))
  (k_with "exec For Tuple Call cons nil" => (walk_at "for9"))
  (k_with "exec For Tuple Name cons nil" => (walk_at "for9"))
  (k_with "exec For Name List cons nil" => (walk_at "for9"))
  (k_with "pyIter ref" => ((k_here; (with_reducible show wpAny _ _ (pyIter (Value.ref _)) (fun it s₂ => TurnsAt _ _ _ _ _ _ _ _ _ it s₂) _ _); with_plain ((refine' iter_listTurns ?hhz38 ?Fz38 ?Nz38 ?mz38 ?cz38 ?dz38 ?_); (case hhz38 => exact rfl); (case Fz38 => k_asm); (case Nz38 => k_asm); (case mz38 => k_mem); (case cz38 => exact rfl); (case dz38 => exact rfl); (intro i'z38 l1z38); (try k_lt l1z38); (try dsimp only [List.map_cons, List.map_nil])))))
  (k_with "ItemsRest" => (with_plain (first | (refine' ItemsRest.val ?_; intro h'z39 tk'z39 F'z39; ktu_objs) | (refine' ItemsRest.pair ?_; intro T'z39 t'z39 h'z39 tk'z39 hT'z39 F'z39; (try dsimp only at hT'z39); ktu_objs) | (refine' ItemsRest.zero ?_; intro h'z39 tk'z39 F'z39 N'z39))))
  trivial
example : True := by
  (k_with "k_mem9" => (with_reducible ((fail_if_success (show (zz9, _) ∈ _)); first | exact List.Mem.head _ | exact mm1 | exact mm2 | exact mm3 | exact mm4 | exact mm5 | exact mm6 | exact mm7 | exact mm8 | exact mm9 | exact mm10 | exact mm11 | exact mm12 | exact mm13 | exact mm14 | exact mm15 | exact mm16 | exact mm17 | exact mm18 | exact mm19 | exact mm20 | exact mm21 | exact mm22 | exact mm23 | exact mm24)))
  (k_with "k_sub9" => (((fail_if_success (with_reducible exact subNil)); (repeat' (with_reducible first | exact subNil | exact sub0 | refine' subK ?_ | refine' subD ?_)); done)))
  trivial

section
--LED: []
example : True := by
  (k_with "exec For Name Call cons cons" => ((k_here; with_plain ((refine' for_else (a := 0) (b := 32) (n := 32) ?Fz63 ?hhz63 ?hxz63 ?hpz63 ?h1z63 ?h2z63 ?_ ?hsz63 ?hEz63); (case Fz63 => k_asm); (case hhz63 => exact rfl); (case hxz63 => exact rfl); (case hpz63 => exact rfl); (case h1z63 => decide); (case h2z63 => decide); (case hsz63 => intro _; rfl); (case hEz63 => passes_own); k_whole))))
  (k_with "call builtin:dict.get" => ((k_here; with_plain ((refine' get_flagS ?Xz64 ?Fz64 ?_); (case Xz64 => k_asm); (case Fz64 => k_asm); (intro tg9z64); (try dsimp only)))))
  (k_with "binaryOp LShift int int" => (with_plain ((refine' s_shl ?hyz65 ?hiz65 ?_); (case hyz65 => exact Int.zero_add _); (case hiz65 => omega); (intro tg9z65); (try dsimp only))))
  (k_with "binaryOp BitAnd int int" => (first
      | ((with_reducible show wpAny _ _ (binaryOp _ (Value.int (pw _) _) (Value.int (pw _) _)) _ _ _); with_plain ((refine' s_and1 ?hbz66 ?_ ?_); (case hbz66 => omega); (all_goals ((intro q9z66 tg9z66); (try (exfalso; omega)); (try dsimp only)))))
      | ((with_reducible show wpAny _ _ (binaryOp _ (Value.int (pq _) _) (Value.int (pw _) _)) _ _ _); with_plain ((refine' s_and2 ?hbz66 ?_ ?_); (case hbz66 => omega); (all_goals ((intro q9z66 tg9z66); (try (exfalso; omega)); (try dsimp only)))))
      | ((with_reducible show wpAny _ _ (binaryOp _ (Value.int 0 _) (Value.int (pw _) _)) _ _ _); with_plain ((refine' s_and0 ?_); (intro tg9z66); (try dsimp only)))))
  (k_with "call builtin:hex" => ((k_here; with_plain ((refine' s_hex ?hiz67 ?_); (case hiz67 => omega); (intro tg9z67); (try dsimp only)))))
  (k_with "inplaceOp BitXor int int" => (first
      | ((with_reducible show wpAny _ _ (inplaceOp _ (Value.int (pw _) _) (Value.int (pw _) _)) _ _ _); with_plain ((refine' s_xor1 ?hbz68 ?_); (case hbz68 => omega); (intro tg9z68); (try dsimp only)))
      | ((with_reducible show wpAny _ _ (inplaceOp _ (Value.int (pq _) _) (Value.int (pw _) _)) _ _ _); with_plain ((refine' s_xor2 ?hbz68 ?_); (case hbz68 => omega); (intro tg9z68); (try dsimp only)))))
  (k_with "truthy int" => (((with_reducible show wpAny _ _ (truthy (Value.int (pw _) _)) _ _ _); with_plain ((refine' s_nz ?_); (try dsimp only)))))
  (k_with "call builtin:str.join" => ((k_here; (with_reducible show wpAny _ _ (call (Value.builtin "str.join") [Value.str _ _, Value.ref _]) _ _ _); with_plain ((refine' s_join ?Nz70 ?mz70 ?hiz70 ?hsepz70 ?hwz70 ?_); (case Nz70 => k_asm); (case mz70 => k_mem); (case hiz70 => first | exact .cons _ _ .nil | exact .cons _ _ (.cons _ _ .nil)); (case hsepz70 => decide); (case hwz70 => first | exact jw0 (by omega) | exact jw2 (by omega) | decide +kernel); (intro tj9z70 kj9z70); (try dsimp only)))))
  (k_with "loadName" => ((k_here; with_plain ((refine' ldn ?k1z71 ?k2z71 ?_); (case k1z71 => k_asm); (case k2z71 => walk_at "mlook"); k_whole))))
  trivial
set_option maxHeartbeats 8000000 in
theorem c_pretty2 (w : World) (rest : List (Addr × Obj)) (k : Nat) (hk32 : k + 1 < 32) (t : Tok) (dis : ∀ x ∈ rest, x.1 ∉ ([] : List Addr)) :
    Ctr w 4 43 [.int (pq k) t] rest (fun r n => n = rest ∧ ∃ t, r = .str (Txt.join (Str.ofString ", ") [flagS k, flagS (k + 1)]) t) := by
  refine fillG PySem.Challenge.rw_tr0025_01 hd.heap_39 ?_
  k_fill
  unfold FillG Ctr
  intro mean mg mb dp un gd cn cs a ccd cl outer A₀ base h₀ L m s Q E B F X N T hk hroom hret
  have hlt := hroom.lt
  refine wpAny_call ?_
  have NR := subR N (n' := rest) (by walk_at "memR")
  k_dflt (refine' enterF (led := []) (rest := rest) ?k1 ?k2 ?k3 ?k4 ?kR ?kX ?k5 ?kA ?kF ?kK ?k6 ?k7 ?k8 ?k9 ?kB ?_ ?c2 ?c3 ?c4 ?c5; (case kA => exact rfl); (case kF => exact rfl); (case kK => assumption); (case k1 => k_asm); (case k2 => k_asm); (case k3 => k_asm); (case k4 => exact subN N (by k_subL)); (case kR => exact NR); (case kX => exact dis); (case k5 => k_asm); (case k6 => k_is); (case k7 => k_is); (case k8 => exact hlt); (case k9 => exact BindsTo.of_eq rfl); (case c5 => decide); (case kB => exact locs rfl); (case c2 => exact rfl); (case c3 => exact rfl); (case c4 => exact rfl); k_whole; intro g' L' h' FG' F' N' B' X' T' hrest; (try dsimp only); (try k_fold))
  clear N
  k_steps
  refine ⟨_, _, _, _, _, _, rfl, by k_asm, by k_asm, by k_asm, ?_⟩
  intro I lI
  k_lt lI
  refine cut_rest (fun R => ∀ j i m tf l, i + j = 32 → i ≤ k → @LT.lt Nat _ l I → m (Str.ofString "flags") = some (.int (pq k) tf) → m (Str.ofString "names") = some (.ref l) → R j i m [(l, listOf #[] 0)]) ?_ (fun gate => gate 32 0 _ _ _ rfl (Nat.zero_le _) (lI _ (List.mem_cons_self ..)) rfl rfl)
  intro j
  induction j with
  | zero => intro i m tf l h1 h2; exfalso; omega
  | succ j ih =>
    intro i m tf l h1 h2 hl m1 m2
    unfold ElseRest
    intro ti hi tki Fi Ni
    have h3 : k = i ∨ i + 1 ≤ k := by omega
    k_steps
    · have e : k = i := by omega
      subst e
      cases j with
      | zero => exfalso; omega
      | succ j =>
        unfold ElseRest
        intro tj hj tkj Fj Nj
        k_steps
        refine' hret _ _ _ _ ?_ (frame_ret NR hrest (by k_asm) (subN (n' := []) (by k_asm) trivial)) ⟨rfl, _, rfl⟩
        k_asm
    · refine ih _ _ tf l (by omega) (by omega) hl ?_ ?_ <;> walk_at "mlook"

end
section
section
variable {prog : Program} {w : World} {A A₀ : Around} {s : Shared} {K : Frag} {L : Addr} {h₀ base : Heap} {m mg mb : Str → Option Value} {led rest : List (Addr × Obj)} {p : Program} {loose : List Str} {mean : ExcName → Option Value}
/-- a call entered with a part of the ledger, of a def that has cells; the rest stays as it stands -/
theorem enterFC {env : Env} {outer : List Env} {R : Result → Shared → Prop} {name qual : Str} {params : Arguments} {body : List Stmt} {scope : Scope} {dV kV doc pm cdv ct oc : Value} {an od : Option Addr} {osl : Array (Option Value)} {f : Addr} {args : Args} {binds : List (Str × Value)}
    (B : Below A₀ base outer h₀) (F : Fr h₀ L s.heap m) (X₀ : K.In h₀) (N : News h₀ L s.heap led) (NR : News h₀ L s.heap rest) (dis : ∀ x ∈ rest, x.1 ∉ led.map (·.1)) (T : Top p loose mean mg mb h₀) (hA : A.frames = some (env :: outer)) (hf : env.frame = some L) (hke : env.scope.kind = .function)
    (ho : K.lookup f = some ⟨oc, od, .func (fnOf name qual params body scope dV kV doc pm an cdv ct), osl⟩) (hcd : codeIn K cdv qual = true) (hroom : A.depth < recursionLimit)
    (hbind : BindsTo s (fnOf name qual params body scope dV kV doc pm an cdv ct) args binds) (hkind : (binds.all fun y => scope.names.lookup y.1 == some .local || scope.names.lookup y.1 == some .cell) = true)
    (hnd : ((cellsFrom 0 scope.names []).map (·.1)).Nodup)
    (h : ∀ g L' h₁ tk cells, Fr h₀ L g m → Fr g L' h₁ (bindL (envOfC qual scope L' f cdv).kindOf binds fun _ => none) → News g L' h₁ (cells ++ led) →
      CellsAre (bindC (envOfC qual scope L' f cdv).kindOf binds fun _ => none) (cellsFrom (L' + 1) scope.names []) cells → Below A base (env :: outer) g → K.In g → Top p loose mean mg mb g → (∀ p ∈ led, p.1 < L') → (∀ x ∈ rest, g.get? x.1 = some x.2) →
      wpAny (model prog w) (A.deeper (envOfC qual scope L' f cdv)) (execs body (envOfC qual scope L' f cdv))
        (fun fl s' => LeaveK h₀ L m g R (match fl with | .ret v => v | _ => .none) s')
        (fun e s' => wpAny (model prog w) (A.deeper (envOfC qual scope L' f cdv)) (leaving (envOfC qual scope L' f cdv) e) (fun _ s'' => R (.error e) s'') (fun e' s'' => R (.error e') s'') s')
        { s with heap := h₁, toks := tk })
    (hco : scope.isCoroutine = false) (hgen : scope.isGenerator = false) (hk : scope.kind = .function) : codeAny (model prog w) A (.call (.ref f) args) R s := by
  obtain ⟨FG, BG, st, lv⟩ := groundX (R := R) B F N hA hf hke
  have X := X₀.keeps F.keep
  have hlim := T.nolimit.keeps F.keep
  refine codeAny_call_function (fd := fnOf name qual params body scope dV kV doc pm an cdv ct) hroom (X _ _ ho) rfl hco hgen rfl (codeRec_of X hcd) (hbind _ _ _ _ ?_)
  refine wpAny_newFunctionEnv_cells hk (kindsX hkind _) fun env' he s' x => ?_
  subst he
  refine ⟨hlim.keeps x.toInCall.keep, codeAny_func ?_⟩
  obtain ⟨h₁, tk, rfl, _⟩ := x.done
  have hk₁ := x.toInCall.keep
  obtain ⟨cells, NC, Y⟩ := Cl.news (h₀ := s.heap) (Nat.le_refl _) fun n c hm => ⟨x.cell n c (lookup_of_mem_nodup (cellsFrom_names scope.names 0 (s.heap.objs.size + 1) [] [] rfl ▸ hnd) hm), x.above n c hm⟩
  refine wpAny_mono (h _ s.heap.objs.size h₁ tk cells FG ⟨x.toInCall.ns, fun b o e => hk₁ b o (of_hideAll _ e), Nat.le_of_eq (hideAll_size _ _)⟩ (fun q hq => ?_) Y BG (X₀.keeps st) (T.keeps st) (fun q hq => Heap.lt_size (N q hq).1) (fun x hx => hideAll_get _ (NR x hx).1 (dis x hx))) (fun fl s' hl => lv _ _ hl) fun _ _ y => y
  rcases List.mem_append.mp hq with hq | hq
  · refine ⟨(NC q hq).1, (NC q hq).2.1, ?_⟩
    cases e : (hideAll s.heap (led.map (·.1))).get? q.1 with
    | none => rfl
    | some o => have := of_hideAll _ e; rw [(NC q hq).2.2] at this; cases this
  · exact ⟨hk₁ _ _ (N q hq).1, Nat.ne_of_lt (Heap.lt_size (N q hq).1), hideAll_none _ (List.mem_map_of_mem hq)⟩
end
section
variable {prog : Program} {w : World} {A : Around} {E : Value → Shared → Prop} {s : Shared} {env : Env} {h₀ : Heap} {body : List Stmt} {Q : Flow → Shared → Prop}
def rangeItems (a : Int) (n : Nat) : List Itm := (List.range n).map fun (i : Nat) => Itm.tok fun t => .int (a + (i : Int)) t
/-- a for over a range whose target may be a cell -/
theorem iter_rangeTurns {y : Str} {py : Pos} {r : Addr} {a b : Int} {t u v : Tok} {n : Nat} {m₀ : Str → Option Value} {news : List (Addr × Obj)}
    (hh : A.handled = none) (hr : IsRange s.heap r a b 1 t u v) (hsmall : Builtin.Range.small a b 1 = true) (hn : Builtin.Range.rangeSize a b 1 = (n : Int)) (F : Fr h₀ env.locals s.heap m₀) (N : News h₀ env.locals s.heap news)
    (rest₀ : ∀ I : Addr, (∀ p ∈ news, p.1 < I) → ItemsRest prog w A E h₀ env (.Name y py) body Q s [(I, "range_iterator")] [] (rangeItems a n) m₀ news) :
    wpAny (model prog w) A (pyIter (.ref r)) (fun it s₂ => TurnsAt prog w A h₀ env (.Name y py) body Q E it s₂) E s := by
  refine wpAny_pyIter_range hr hsmall ?_
  have W := (Walks.range (prog := prog) (w := w) hh s.heap.objs.size a 1 n).bound
  refine ktu_core (tk0 := s.toks) (keep := []) (KTurns.ofWalks W fun i v s Q E st q => wpAny_pure q) (by simp [rangeItems]) (fun i v h hp => ?_) (fun i h st => ?_) (fun b hb => ?_) (fun b hb => by simpa using hb) (fun b hb => ?_) ?_ (fun p hp hI => ?_) ?_ (F.push _) (fun p hp => ⟨Heap.get?_push_of_some _ (N p hp).1, (N p hp).2⟩) trivial (rest₀ _ fun p hp => Heap.lt_size (N p hp).1)
  · obtain ⟨hi, t, rfl⟩ := hp
    refine ⟨Itm.tok fun t => .int (a + (i : Int)) t, ?_, ⟨t, by rw [Int.mul_one]⟩⟩
    simp [rangeItems, hi]
  · exact ⟨[(s.heap.objs.size, _)], ⟨⟨rfl, rfl⟩, trivial⟩, fun p hp => by rw [List.mem_singleton.mp hp]; exact st⟩
  · have hb' : b = s.heap.objs.size := by simpa using hb
    rw [hb']
    exact ⟨List.mem_cons_self .., next_is_new F⟩
  · have hb' : b = s.heap.objs.size := by simpa using hb
    exact .inl (by simp [hb'])
  · intro hI
    exact absurd F.ns.lt ((List.mem_singleton.mp hI) ▸ Nat.lt_irrefl _)
  · exact absurd (Heap.lt_size (N p hp).1) ((List.mem_singleton.mp hI) ▸ Nat.lt_irrefl _)
  · show IsRangeIter _ _ _ _ _
    rw [hn]
    simpa using Heap.get?_push_size _ rfl
end

end
section
theorem ctr_mono {w : World} {k : Nat} {f : Addr} {vs : List Value} {news : List (Addr × Obj)} {P P' : Value → List (Addr × Obj) → Prop} (C : Ctr w k f vs news P) (h : ∀ r n, P r n → P' r n) : Ctr w k f vs news P' :=
  fun mean mg mb dp un gd cn cs a ccd cl outer A₀ base h₀ L m s Q E B F X N T hk hr ret => C mean mg mb dp un gd cn cs a ccd cl outer A₀ base h₀ L m s Q E B F X N T hk hr fun r n h' tk' F' N' p => ret r n h' tk' F' N' (h r n p)
@[irreducible] def bt (p l : Int) : Int := if l ≤ p then 16 else 0
theorem bt_or (p l : Int) : bt p l = 0 ∨ bt p l = 16 := by unfold bt; split <;> simp
@[irreducible] def cl3 (a b c : Int) : Int := if a = b ∧ b = c then 0 else 32
theorem cl3_or (a b c : Int) : cl3 a b c = 0 ∨ cl3 a b c = 32 := by unfold cl3; split <;> simp
inductive Yiq2P (p l : Int) (rest : List (Addr × Obj)) : Value → List (Addr × Obj) → Prop
  | mk (q : Addr) (t1 t2 t3 : Tok) : (∀ p ∈ rest, p.1 < q) → Yiq2P p l rest (.ref q) ((q, tup3 (.float (fl (2 * bt p l)) t1) (.float (fl (2 * bt p l)) t2) (.float (fl (2 * bt p l)) t3)) :: rest)
theorem c_yiq2 (w : World) (rest : List (Addr × Obj)) (p l : Int) (t u v : Tok) (hp : 0 ≤ p ∧ p ≤ 15) (hl : 1 ≤ l ∧ l ≤ 15) :
    Ctr w 2 21 [.float (fl (16 * (2 * p) - 32 * l + 32)) t, .float 0 u, .float 0 v] rest (Yiq2P p l rest) := by
  refine ctr_mono (c_yiq w rest _ t u v (by omega)) fun r n P => ?_
  obtain ⟨q, x, y, z, t1, t2, t3, lt, e4, e5, e6⟩ := P
  have e : max 0 (min (16 * (2 * p) - 32 * l + 32) 32) = 2 * bt p l := by unfold bt; split <;> omega
  rw [e] at e4 e5 e6
  subst e4 e5 e6
  exact .mk q t1 t2 t3 lt
theorem div_one : Float64.div (fl 32) (fl 32) = fl 32 := by rw [fl_def]; decide +kernel
theorem cl_bits : ∀ x y z : Bool, (lo3 (if x then 16 else 0) (if y then 16 else 0) (if z then 16 else 0) = hi3 (if x then 16 else 0) (if y then 16 else 0) (if z then 16 else 0) ∧ cl3 (if x then 16 else 0) (if y then 16 else 0) (if z then 16 else 0) = 0) ∨
    (lo3 (if x then 16 else 0) (if y then 16 else 0) (if z then 16 else 0) = 0 ∧ hi3 (if x then 16 else 0) (if y then 16 else 0) (if z then 16 else 0) = 16 ∧ cl3 (if x then 16 else 0) (if y then 16 else 0) (if z then 16 else 0) = 32) := by
  unfold lo3 hi3 cl3; decide
theorem bit_of {a : Int} (h : a = 0 ∨ a = 16) : ∃ x : Bool, a = if x then 16 else 0 := by
  rcases h with rfl | rfl
  · exact ⟨false, rfl⟩
  · exact ⟨true, rfl⟩
theorem in16 {a : Int} (h : a = 0 ∨ a = 16) : 0 ≤ a ∧ a ≤ 16 := by omega
inductive HsvbP (a b c : Int) (rest : List (Addr × Obj)) : Value → List (Addr × Obj) → Prop
  | mk (q : Addr) (x z : UInt64) (t1 t2 t3 : Tok) : (∀ p ∈ rest, p.1 < q) → HsvbP a b c rest (.ref q) ((q, tup3 (.float x t1) (.float (fl (cl3 a b c)) t2) (.float z t3)) :: rest)
theorem c_hsvb (w : World) (rest : List (Addr × Obj)) (a b c : Int) (t u v : Tok) (ha : a = 0 ∨ a = 16) (hb : b = 0 ∨ b = 16) (hc : c = 0 ∨ c = 16) :
    Ctr w 2 35 [.float (fl (2 * a)) t, .float (fl (2 * b)) u, .float (fl (2 * c)) v] rest (HsvbP a b c rest) := by
  refine ctr_mono (c_hsv w rest a b c t u v (in16 ha) (in16 hb) (in16 hc)) fun r n P => ?_
  obtain ⟨q, h, s, t1, t2, t3, lt, e5, e6⟩ := P
  have e : s = fl (cl3 a b c) := by
    obtain ⟨x, rfl⟩ := bit_of ha
    obtain ⟨y, rfl⟩ := bit_of hb
    obtain ⟨z, rfl⟩ := bit_of hc
    rcases cl_bits x y z with ⟨h1, h2⟩ | ⟨h1, h2, h3⟩
    · rw [e5 h1, h2]
    · rw [e6 (by rw [h1, h2]; decide), h1, h2, h3]
      exact div_one
  subst e
  exact .mk q h _ t1 t2 t3 lt
theorem bd16 {p : Int} (h : 0 ≤ p ∧ p ≤ 15) : 0 ≤ 2 * p ∧ 2 * p ≤ 30 ∧ 2 * p % 2 = 0 := by omega
theorem bdS {p l : Int} (h : 0 ≤ p ∧ p ≤ 15) (hl : 1 ≤ l ∧ l ≤ 15) : (16 * (2 * p)).natAbs < 262144 ∧ 0 ≤ l ∧ l ≤ 15 := by omega
theorem bdA {p l : Int} (h : 0 ≤ p ∧ p ≤ 15) (hl : 1 ≤ l ∧ l ≤ 15) : (16 * (2 * p) - 32 * l).natAbs < 262144 ∧ (32 : Int).natAbs < 262144 := by omega
theorem shl_eq (r k : Nat) : 0 + (r : Int) + (k : Int) = ((r + k : Nat) : Int) := by omega
/-- the text for n rows from k on -/
@[irreducible] def tell (k n : Nat) : Str := Txt.join (Str.ofString ", ") (match n with | 0 => [baseText "0x" 16 0] | 1 => [flagS k] | _ => [flagS k, flagS (k + 1)])
theorem tell_0 {k n : Nat} (h : n = 0) : Txt.join (Str.ofString ", ") [baseText "0x" 16 0] = tell k n := by subst h; unfold tell; rfl
theorem tell_1 {i k n : Nat} (h : n = 1 ∧ i = k) : Txt.join (Str.ofString ", ") [flagS i] = tell k n := by obtain ⟨rfl, rfl⟩ := h; unfold tell; rfl
theorem tell_2 {i k n : Nat} (h : n = 2 ∧ i = k) : Txt.join (Str.ofString ", ") [flagS i, flagS (i + 1)] = tell k n := by obtain ⟨rfl, rfl⟩ := h; unfold tell; rfl
section
variable {prog : Program} {w : World} {A : Around} {E Q : Value → Shared → Prop} {s : Shared}
theorem s_or0 {x : Int} {t u : Tok} (h : ∀ t, Q (.int x t) { s with toks := s.toks + 1 }) : wpAny (model prog w) A (binaryOp .BitOr (.int 0 t) (.int x u)) Q E s := by
  refine or_int ?_
  have e : Builtin.bitOr 0 x = x := by
    have := bitAnd_range x (y := 0) (by decide)
    rw [bitOr_and, bitAnd_comm]; omega
  rw [e]; exact h _
theorem s_or1 {i j : Nat} {t u : Tok} (hb : i < 32 ∧ j = i + 1 ∧ j < 32) (h : ∀ t, Q (.int (pq i) t) { s with toks := s.toks + 1 }) : wpAny (model prog w) A (binaryOp .BitOr (.int (pw i) t) (.int (pw j) u)) Q E s := by
  obtain ⟨h1, rfl, h2⟩ := hb
  refine or_int ?_
  have e := and_pp ⟨i, h1⟩ ⟨i + 1, h2⟩
  simp only [Fin.mk.injEq] at e
  rw [if_neg (by omega)] at e
  have e2 : Builtin.bitOr (pw i) (pw (i + 1)) = pq i := by
    rw [bitOr_and, pw_def, pw_def, pq_def, bitAnd_nat, e]; omega
  rw [e2]; exact h _
end
section
variable {h₀ h' : Heap} {L I : Addr} {it : Obj} {a b : Addr × Obj} {keep : List (Addr × Obj)} {rest : (Str → Option Value) → List (Addr × Obj) → Prop} {s₁ : Shared} {tk : Nat} {m' : Str → Option Value}
end
/-- row r is coloured just when it lies in a .. b -/
def RowC (a b r : Nat) (x : Int) : Prop := x ≠ 0 ↔ a ≤ r ∧ r < b
theorem RowC.t {a b r : Nat} {x : Int} (h : RowC a b r x) (q : x ≠ 0) : a ≤ r ∧ r < b := h.1 q
theorem RowC.f {a b r : Nat} {x : Int} (h : RowC a b r x) (q : x = 0) : r < a ∨ b ≤ r := by
  have : ¬ (a ≤ r ∧ r < b) := fun h' => h.2 h' q
  omega
/-- the mask ahead of row i -/
@[irreducible] def mkv (a b k i : Nat) : Int := match min b i - a with | 0 => 0 | 1 => pw (k + a) | _ => pq (k + a)
theorem mkv_0 {a b k i : Nat} (h : min b i - a = 0) : mkv a b k i = 0 := by unfold mkv; rw [h]; rfl
theorem mkv_1 {a b k i : Nat} (h : min b i - a = 1) : mkv a b k i = pw (k + a) := by unfold mkv; rw [h]; rfl
theorem mkv_2 {a b k i : Nat} (h : min b i - a = 2) : mkv a b k i = pq (k + a) := by unfold mkv; rw [h]; rfl
theorem mkv_skip {a b k i : Nat} (h : i < a ∨ b ≤ i) : mkv a b k (i + 1) = mkv a b k i := by
  have e : min b (i + 1) - a = min b i - a := by
    rcases h with h | h
    · rw [Nat.sub_eq_zero_of_le (Nat.le_trans (Nat.min_le_right ..) h), Nat.sub_eq_zero_of_le (Nat.le_trans (Nat.min_le_right ..) (Nat.le_of_lt h))]
    · rw [Nat.min_eq_left h, Nat.min_eq_left (Nat.le_succ_of_le h)]
  unfold mkv; rw [e]
section
variable {prog : Program} {w : World} {A : Around} {E Q : Value → Shared → Prop} {s : Shared}
theorem s_orM {a b k r : Nat} {t u : Tok} (hc : a ≤ r ∧ r < b) (hab : a ≤ b ∧ b ≤ a + 2 ∧ b ≤ 4) (hs : k ≤ 28) (h : ∀ t, Q (.int (mkv a b k (r + 1)) t) { s with toks := s.toks + 1 }) : wpAny (model prog w) A (binaryOp .BitOr (.int (mkv a b k r) t) (.int (pw (r + k)) u)) Q E s := by
  have e : r = a ∨ r = a + 1 := by omega
  rcases e with rfl | rfl
  · rw [mkv_0 (by omega)]
    refine s_or0 fun t => ?_
    have := h t
    rw [mkv_1 (by omega), Nat.add_comm] at this
    exact this
  · rw [mkv_1 (by omega)]
    refine s_or1 ⟨by omega, by omega, by omega⟩ fun t => ?_
    have := h t
    rw [mkv_2 (by omega)] at this
    exact this
end
theorem c_prettyM (w : World) (rest : List (Addr × Obj)) (a b k : Nat) (hab : a ≤ b ∧ b ≤ a + 2 ∧ b ≤ 4) (hs : k ≤ 28) (t : Tok) (dis : ∀ x ∈ rest, x.1 ∉ ([] : List Addr)) :
    Ctr w 4 43 [.int (mkv a b k 4) t] rest (fun r n => n = rest ∧ ∃ t, r = .str (tell (k + a) (b - a)) t) := by
  have e : b = a ∨ b = a + 1 ∨ b = a + 2 := by omega
  rcases e with rfl | rfl | rfl
  · rw [mkv_0 (by omega)]
    refine ctr_mono (c_pretty0 w rest t dis) ?_
    rintro r n ⟨e, t, h⟩
    exact ⟨e, t, h.trans (congrArg (fun z => Value.str z t) (tell_0 (by omega)))⟩
  · rw [mkv_1 (by omega)]
    refine ctr_mono (c_pretty1 w rest (k + a) (by omega) t dis) ?_
    rintro r n ⟨e, t, h⟩
    exact ⟨e, t, h.trans (congrArg (fun z => Value.str z t) (tell_1 ⟨by omega, rfl⟩))⟩
  · rw [mkv_2 (by omega)]
    refine ctr_mono (c_pretty2 w rest (k + a) (by omega) t dis) ?_
    rintro r n ⟨e, t, h⟩
    exact ⟨e, t, h.trans (congrArg (fun z => Value.str z t) (tell_2 ⟨by omega, rfl⟩))⟩
/-- a goal that waits -/
def Hold (p : Prop) : Prop := p
theorem Hold.of {p : Prop} (h : Hold p) : p := h
theorem Hold.mk {p : Prop} (h : p) : Hold p := h
theorem cut_items {prog : Program} {w : World} {A : Around} {E : Value → Shared → Prop} {h₀ : Heap} {env : Env} {target : Expr} {body : List Stmt} {Q : Flow → Shared → Prop} {s : Shared} {ws : List (Addr × String)} {keep : List (Addr × Obj)} {xs : List Itm} {m : Str → Option Value} {n : List (Addr × Obj)}
    (P : (List Itm → (Str → Option Value) → List (Addr × Obj) → Prop) → Prop) (gate : P (ItemsRest prog w A E h₀ env target body Q s ws keep)) (use : P (ItemsRest prog w A E h₀ env target body Q s ws keep) → ItemsRest prog w A E h₀ env target body Q s ws keep xs m n) : Hold (ItemsRest prog w A E h₀ env target body Q s ws keep xs m n) := use gate
theorem frame_ret2 {h₀ h h' g : Heap} {L L' : Addr} {m' : Str → Option Value} {n' all rest : List (Addr × Obj)} (NR : News h₀ L h rest) (hrest : ∀ x ∈ rest, g.get? x.1 = some x.2) (F' : Fr g L' h' m') (NL : News h₀ L h n') (N' : News g L' h' all) (sub : SubL n' all) : News h₀ L h' (n' ++ rest) := fun x hx => by
  rcases List.mem_append.mp hx with hx | hx
  · exact ⟨(N' x (sub.mem x hx)).1, (NL x hx).2⟩
  · exact ⟨F'.keep _ _ (hrest x hx), (NR x hx).2⟩
theorem look_by {c : Option Value} {x y : Str} {u : Option Value} {v : Value} [Decidable (x = y)] (h : x ≠ y) (e : c = some v) : (if x = y then u else c) = some v := by rw [if_neg h]; exact e

end
example : True := by
  k_with_none
  w_top off
  trivial
example : True := by
  (k_with "lit" => (first | exact rfl | exact lit_0 | exact lit_1 | exact lit_2 | exact lit_6 | exact lit_05))
  (k_with "bd" => (first | assumption | (refine' bsub ?_ ?_ <;> walk_at "bd") | (refine' badd ?_ ?_ <;> walk_at "bd") | exact Nat.le_refl _))
  (k_with "bf" => (first | ((refine' bfit ?b1z3 ?b2z3 ?b3z3); (case b1z3 => walk_at "bd"); (case b2z3 => walk_at "bd"); (case b3z3 => decide)) | omega))
  (k_with "binaryOp Add float float" => (with_plain (refine' s_add ?fxz4 ?fyz4 ?fbz4 ?_; (case fxz4 => walk_at "lit"); (case fyz4 => walk_at "lit"); (case fbz4 => walk_at "bf"); intro t9z4; (try dsimp only))))
  (k_with "binaryOp Sub float float" => (with_plain (refine' s_sub ?fxz5 ?fyz5 ?fbz5 ?_; (case fxz5 => walk_at "lit"); (case fyz5 => walk_at "lit"); (case fbz5 => walk_at "bf"); intro t9z5; (try dsimp only))))
  (k_with "binaryOp Sub float float" => (with_plain (refine' s_sub0 ?fxz6 ?fyz6 ?fbz6 ?_; (case fxz6 => exact rfl); (case fyz6 => walk_at "lit"); (case fbz6 => (refine' Nat.lt_of_le_of_lt ?b1z6 ?b3z6; (case b1z6 => assumption); (case b3z6 => decide))); intro t9z6; (try dsimp only))))
  (k_with "binaryOp Add float float" => (with_plain (refine' s_add0 ?fxz7 ?fyz7 ?fbz7 ?_; (case fxz7 => exact rfl); (case fyz7 => walk_at "lit"); (case fbz7 => (refine' Nat.lt_of_le_of_lt ?b1z7 ?b3z7; (case b1z7 => assumption); (case b3z7 => decide))); intro t9z7; (try dsimp only))))
  (k_with "binaryOp Div float float" => (with_plain (refine' s_div rfl ?fyz8 ?fbz8 ?_; (case fyz8 => walk_at "lit"); (case fbz8 => omega); intro t9z8; (try dsimp only))))
  (k_with "binaryOp Mod float float" => (with_plain (refine' s_mod rfl ?fyz9 ?fbz9 ?_; (case fyz9 => walk_at "lit"); (case fbz9 => omega); intro z9z9 t9z9; (try dsimp only))))
  (k_with "compareOp Lt float float" => (with_plain (refine' s_lt ?fxz10 ?fyz10 ?fbz10 ?_ ?_; (case fxz10 => walk_at "lit"); (case fyz10 => walk_at "lit"); (case fbz10 => walk_at "bf"); (all_goals (intro q9z10; try first | exact absurd q9z10 (by with_reducible assumption) | exact absurd (by with_reducible assumption) q9z10 | exact absurd q9z10 (by decide) | exact absurd (by decide) q9z10 | (exfalso; omega))))))
  (k_with "compareOp Gt float float" => (with_plain (refine' s_gt ?fxz11 ?fyz11 ?fbz11 ?_ ?_; (case fxz11 => walk_at "lit"); (case fyz11 => walk_at "lit"); (case fbz11 => walk_at "bf"); (all_goals (intro q9z11; try first | exact absurd q9z11 (by with_reducible assumption) | exact absurd (by with_reducible assumption) q9z11 | exact absurd q9z11 (by decide) | exact absurd (by decide) q9z11 | (exfalso; omega))))))
  (k_with "compareOp Eq float float" => (with_plain (refine' s_eq ?fxz12 ?fyz12 ?fbz12 ?_ ?_; (case fxz12 => walk_at "lit"); (case fyz12 => walk_at "lit"); (case fbz12 => walk_at "bf"); (all_goals (intro q9z12; try first | exact absurd q9z12 (by with_reducible assumption) | exact absurd (by with_reducible assumption) q9z12 | exact absurd q9z12 (by decide) | exact absurd (by decide) q9z12 | (exfalso; omega))))))
  (k_with "compareOp NotEq float float" => (with_plain (refine' s_ne ?fxz13 ?fyz13 ?fbz13 ?_ ?_; (case fxz13 => walk_at "lit"); (case fyz13 => walk_at "lit"); (case fbz13 => walk_at "bf"); (all_goals (intro q9z13; try first | exact absurd q9z13 (by with_reducible assumption) | exact absurd (by with_reducible assumption) q9z13 | exact absurd q9z13 (by decide) | exact absurd (by decide) q9z13 | (exfalso; omega))))))
  (k_with "compareOp LtE float float" => (with_plain (refine' s_le ?fxz14 ?fyz14 ?fbz14 ?_ ?_; (case fxz14 => walk_at "lit"); (case fyz14 => walk_at "lit"); (case fbz14 => walk_at "bf"); (all_goals (intro q9z14; try first | exact absurd q9z14 (by with_reducible assumption) | exact absurd (by with_reducible assumption) q9z14 | exact absurd q9z14 (by decide) | exact absurd (by decide) q9z14 | (exfalso; omega))))))
  (k_with "call builtin:max" => ((refine' max3_hi rfl ?kFz15 ?kNz15 ?kaz15 ?kbz15 ?kcz15 ?_; (case kFz15 => k_asm); (case kNz15 => k_asm); (case kaz15 => assumption); (case kbz15 => assumption); (case kcz15 => assumption); intro h9z15 tk9z15 t9z15 F9z15 N9z15; (try dsimp only))))
  (k_with "call builtin:min" => ((refine' min3_lo rfl ?kFz16 ?kNz16 ?kaz16 ?kbz16 ?kcz16 ?_; (case kFz16 => k_asm); (case kNz16 => k_asm); (case kaz16 => assumption); (case kbz16 => assumption); (case kcz16 => assumption); intro h9z16 tk9z16 t9z16 F9z16 N9z16; (try dsimp only))))
  (k_with "binaryOp Div float float" => (with_plain ((refine' s_half rfl ?fxz17 ?fyz17 ?fbz17 ?_); (case fxz17 => exact rfl); (case fyz17 => first | exact lit_2 | exact rfl); (case fbz17 => omega); intro t9z17; (try dsimp only))))
  (k_with "binaryOp Mult float float" => (with_plain ((refine' s_two ?fxz18 ?fyz18 ?fbz18 ?_); (case fxz18 => first | exact lit_2 | exact rfl); (case fyz18 => exact rfl); (case fbz18 => omega); intro t9z18; (try dsimp only))))
  (k_with "binaryOp Mult float float" => (with_plain ((refine' s_16 ?fxz19 ?fyz19 ?fbz19 ?_); (case fxz19 => exact rfl); (case fyz19 => exact rfl); (case fbz19 => omega); intro t9z19; (try dsimp only))))
  (k_with "binaryOp Mult float float" => (with_plain ((refine' s_mulz ?fzz20 ?_); (case fzz20 => first | exact mz_0 | exact mz_1 | exact mz_2 | exact mz_3 | exact mz_4 | exact mz_5); intro t9z20; (try dsimp only))))
  (k_with "binaryOp Sub float int" => (with_plain ((refine' s_subint ?fxz21 ?fbz21 ?_); (case fxz21 => exact rfl); (case fbz21 => omega); intro t9z21; (try dsimp only))))
  (k_with "binaryOp Mult int float" => (with_plain ((refine' s_mulint ?fxz22 ?fyz22 ?fbz22 ?_); (case fxz22 => exact rfl); (case fyz22 => exact rfl); (case fbz22 => omega); intro t9z22; (try dsimp only))))
  (k_with "binaryOp Div int int" => (with_plain ((refine' s_divint rfl ?fxz23 ?fbz23 ?_); (case fxz23 => exact rfl); (case fbz23 => omega); intro t9z23; (try dsimp only))))
  (k_with "enter9" => ((refine' code_def ?k1z24 ?k2z24 ?k3z24 ?k4z24 ?k5z24 ?kAz24 ?kFz24 ?kKz24 ?k6z24 ?k7z24 ?k8z24 ?k9z24 ?kBz24 ?_ ?c2z24 ?c3z24 ?c4z24 ?c5z24; (case kAz24 => exact rfl); (case kFz24 => exact rfl); (case kKz24 => first | exact rfl | assumption); (case k1z24 => k_asm); (case k2z24 => k_asm); (case k3z24 => k_asm); (case k4z24 => k_asm); (case k5z24 => k_asm); (case k6z24 => k_is); (case k7z24 => k_is); (case k8z24 => exact (Room.deep (k' := 1) (by assumption) (by decide)).lt); (case k9z24 => exact BindsTo.of_eq rfl); (case c5z24 => decide); (case kBz24 => exact locs rfl); (case c2z24 => exact rfl); (case c3z24 => exact rfl); (case c4z24 => exact rfl); k_whole; intro g'z24 L'z24 h'z24 FG'z24 F'z24 N'z24 B'z24 X'z24 T'z24; (try dsimp only); (try k_fold))))
  (k_with "call ref" => ((k_here; (refine wpAny_call ?_); k_dflt (walk_at "enter9"))))
  trivial

example : True := by
  (k_with "mlook" => (first | with_reducible exact look_at | with_reducible assumption | (refine look_by2 (by decide) ?_; walk_at "mlook") | exact rfl))
  trivial
example : True := by
  (k_with "k_ne" => (first | with_reducible assumption | (refine Ne.symm ?_; with_reducible assumption) | exact ltn (by assumption) (by k_mem) | exact Ne.symm (ltn (by assumption) (by k_mem)) | (refine neN ?_; (try dsimp only); first | with_reducible assumption | (refine Ne.symm ?_; with_reducible assumption) | exact ltn (by assumption) (by k_mem) | exact Ne.symm (ltn (by assumption) (by k_mem)) | omega)))
  trivial
example : True := by
  (k_with "memR" => (first | exact memR0 | (refine memR1 ?_; walk_at "memR")))
  (k_with "subscriptTail Name Name ref int" => ((k_here; with_plain ((refine' s_item ?k1z30 ?k2z30 ?k3z30 ?k4z30 ?_ ?k5z30); (case k1z30 => k_asm); (case k2z30 => first | k_mem | assumption | apply_assumption); (case k3z30 => first | assumption | decide | omega); (case k4z30 => first | assumption | rfl); (case k5z30 => with_unfolding_all rfl)))))
  (k_with "subscriptTail Subscript" => ((k_here; with_plain ((refine' s_item ?k1z31 ?k2z31 ?k3z31 ?k4z31 ?_ ?k5z31); (case k1z31 => k_asm); (case k2z31 => first | k_mem | assumption | apply_assumption); (case k3z31 => first | assumption | decide | omega); (case k4z31 => first | assumption | rfl); (case k5z31 => with_unfolding_all rfl)))))
  (k_with "RangeRest" => (with_plain (first | (refine' RangeRest.succ ?_; intro t'z32 h'z32 tk'z32 F'z32 N'z32) | (refine' RangeRest.zero ?_; intro h'z32 tk'z32 F'z32 N'z32))))
  (k_with "for9" => ((k_here; with_plain ((refine' For_turns ?Fz33 ?_ ?hsz33 ?hEz33); (case Fz33 => k_asm); (case hsz33 => intro _; rfl); (case hEz33 => passes_own); k_whole))))
  (k_with "exec For Tuple List cons nil" => (walk_at "for9"))
  (k_with "exec For Tuple Call cons nil" => (walk_at "for9"))
  (k_with "exec For Tuple Name cons nil" => (walk_at "for9"))
  (k_with "exec For Name List cons nil" => (walk_at "for9"))
  (k_with "pyIter ref" => ((k_here; (with_reducible show wpAny _ _ (pyIter (Value.ref _)) (fun it s₂ => TurnsAt _ _ _ _ _ _ _ _ _ it s₂) _ _); with_plain ((refine' iter_listTurns ?hhz38 ?Fz38 ?Nz38 ?mz38 ?cz38 ?dz38 ?_); (case hhz38 => exact rfl); (case Fz38 => k_asm); (case Nz38 => k_asm); (case mz38 => k_mem); (case cz38 => exact rfl); (case dz38 => exact rfl); (intro i'z38 l1z38); (try k_lt l1z38); (try dsimp only [List.map_cons, List.map_nil])))))
  (k_with "ItemsRest" => (with_plain (first | (refine' ItemsRest.val ?_; intro h'z39 tk'z39 F'z39; ktu_objs) | (refine' ItemsRest.pair ?_; intro T'z39 t'z39 h'z39 tk'z39 hT'z39 F'z39; (try dsimp only at hT'z39); ktu_objs) | (refine' ItemsRest.zero ?_; intro h'z39 tk'z39 F'z39 N'z39))))
  trivial
example : True := by
  (k_with "k_mem9" => (with_reducible ((fail_if_success (show (zz9, _) ∈ _)); first | exact List.Mem.head _ | exact mm1 | exact mm2 | exact mm3 | exact mm4 | exact mm5 | exact mm6 | exact mm7 | exact mm8 | exact mm9 | exact mm10 | exact mm11 | exact mm12 | exact mm13 | exact mm14 | exact mm15 | exact mm16 | exact mm17 | exact mm18 | exact mm19 | exact mm20 | exact mm21 | exact mm22 | exact mm23 | exact mm24)))
  (k_with "k_sub9" => (((fail_if_success (with_reducible exact subNil)); (repeat' (with_reducible first | exact subNil | exact sub0 | refine' subK ?_ | refine' subD ?_)); done)))
  trivial

section
--DROP eval Name
example : True := by
  (k_with "mlook2" => (first | with_reducible exact look_at | assumption | (refine look_by (by decide) ?_; walk_at "mlook2")))
  (k_with "exec For Name Call cons nil" => (walk_at "for9"))
  (k_with "CompSrc" => ((k_here; with_plain (first
      | ((refine' LCg.CompSrc.range ?hhz74 ?Fz74 ?Nz74 ?Rz74 ?h1z74 ?h2z74 ?h3z74 ?_); (case hhz74 => exact rfl); (case Fz74 => k_asm); (case Nz74 => k_asm); (case Rz74 => k_asm); (case h1z74 => decide); (case h2z74 => exact rfl); (case h3z74 => exact Nat.le_of_ble_eq_true rfl); (intro g'z74); lcg_lit)
      | ((refine' LCg.CompSrc.ledger ?hhz74 ?Fz74 ?Nz74 ?mz74 ?h3z74 ?_); (case hhz74 => exact rfl); (case Fz74 => k_asm); (case Nz74 => k_asm); (case mz74 => k_mem); (case h3z74 => exact Nat.le_of_ble_eq_true rfl); (intro g'z74); lcg_lit)))))
  (k_with "CompRest" => ((with_unfolding_all first
      | (refine LCg.CompRest.succ ?_; intro v'z75 I'z75 oI'z75 C'z75 oC'z75 D'z75 m'z75 h'z75 tk'z75 E'z75 hv'z75 hC'z75 hx'z75 F'z75 N'z75 off'z75 ne'z75; (first | lcg_open hv'z75 | (obtain ⟨t9'z75, hv9'z75⟩ := hv'z75; subst hv9'z75)); (have offKz75 := off'z75); (try simp only [LCg.Off3, and_true] at off'z75))
      | refine LCg.CompRest.zero ?_)))
  (k_with "CompEnd" => (with_plain ((refine' LCg.CompEnd.intro ?Fz76 ?Nz76 _ ?uz76 ?oz76 ?Sz76 ?_); (case Fz76 => assumption); (case oz76 => assumption); (case Nz76 => k_asm); (case uz76 => lcg_sub); (case Sz76 => lcg_src))))
  (k_with "call ref" => ((k_here; (with_reducible show wpAny _ _ (call (Value.ref 21) [Value.float _ _, Value.float _ _, Value.float _ _]) _ _ _); with_plain (
      (refine' ctr_use (c_yiq2 _ _ _ _ _ _ _ ?haz77 ?hbz77) ?k1z77 ?k2z77 ?k3z77 ?k4z77 ?k5z77 ?k6z77 ?k7z77 ?_; (case haz77 => assumption); (case hbz77 => assumption); (case k1z77 => k_asm); (case k2z77 => k_asm); (case k3z77 => k_asm); (case k4z77 => k_asm); (case k5z77 => k_asm); (case k6z77 => first | exact rfl | assumption); (case k7z77 => exact Room.deep (by assumption) (by decide)));
      (intro rY9z77 nY9z77 hY9z77 tkY9z77 FY9z77 NY9z77 PY9z77); (obtain ⟨qY9z77, t19z77, t29z77, t39z77, lY9z77⟩ := PY9z77); (try k_lt lY9z77); (try dsimp only); (try k_sweep)))))
  (k_with "call ref" => ((k_here; (with_reducible show wpAny _ _ (call (Value.ref 35) [Value.float _ _, Value.float _ _, Value.float _ _]) _ _ _); with_plain (
      (refine' ctr_use (c_hsvb _ _ _ _ _ _ _ _ ?haz78 ?hbz78 ?hcz78) ?k1z78 ?k2z78 ?k3z78 ?k4z78 ?k5z78 ?k6z78 ?k7z78 ?_; (case haz78 => exact bt_or _ _); (case hbz78 => exact bt_or _ _); (case hcz78 => exact bt_or _ _); (case k1z78 => k_asm); (case k2z78 => k_asm); (case k3z78 => k_asm); (case k4z78 => k_asm); (case k5z78 => k_asm); (case k6z78 => first | exact rfl | assumption); (case k7z78 => exact Room.deep (by assumption) (by decide)));
      (intro rH9z78 nH9z78 hH9z78 tkH9z78 FH9z78 NH9z78 PH9z78); (obtain ⟨qH9z78, xH9z78, zH9z78, t19z78, t29z78, t39z78, lH9z78⟩ := PH9z78); (try k_lt lH9z78); (try dsimp only); (try k_sweep)))))
  (k_with "subscriptTail Call" => ((k_here; with_plain ((refine' item_tupleT (News.isTup ?Nz79 ?mz79) ?az79 ?bz79 ?cz79 ?dz79 ?_ ?sz79); (case Nz79 => k_asm); (case mz79 => k_mem); (case az79 => decide); (case bz79 => decide); (case cz79 => exact rfl); (case dz79 => exact rfl); (case sz79 => with_unfolding_all rfl)))))
  (k_with "compareOp NotEq float float" => ((with_plain ((refine' s_ne ?fxz80 ?fyz80 ?fbz80 ?_ ?_); (case fxz80 => exact rfl); (case fyz80 => exact lit_0); (case fbz80 => exact ⟨by rcases cl3_or _ _ _ with e | e <;> rw [e] <;> decide, by decide⟩); (all_goals (intro q9z80; (first | replace q9z80 := RowC.t (by assumption) q9z80 | replace q9z80 := RowC.f (by assumption) q9z80)))))))
  (k_with "binaryOp Mult float float" => (with_plain ((refine' s_16 ?fxz81 ?fyz81 ?fbz81 ?_); (case fxz81 => exact rfl); (case fyz81 => exact rfl); (case fbz81 => exact bd16 (by assumption)); intro t9z81; (try dsimp only))))
  (k_with "binaryOp Sub float int" => (with_plain ((refine' s_subint ?fxz82 ?fbz82 ?_); (case fxz82 => exact rfl); (case fbz82 => exact bdS (by assumption) (by assumption)); intro t9z82; (try dsimp only))))
  (k_with "binaryOp Add float float" => (with_plain (refine' s_add ?fxz83 ?fyz83 ?fbz83 ?_; (case fxz83 => exact rfl); (case fyz83 => exact lit_1); (case fbz83 => exact bdA (by assumption) (by assumption)); intro t9z83; (try dsimp only))))
  (k_with "binaryOp LShift int int" => (with_plain ((refine' s_shl ?hyz84 ?hiz84 ?_); (case hyz84 => exact shl_eq _ _); (case hiz84 => omega); (intro tg9z84); (try dsimp only))))
  (k_with "binaryOp BitOr int int" => (with_plain ((refine' s_orM ?hcz85 ?habz85 ?hsz85 ?_); (case hcz85 => assumption); (case habz85 => assumption); (case hsz85 => assumption); (intro tg9z85); (try dsimp only))))
  (k_with "call ref" => ((k_here; (with_reducible show wpAny _ _ (call (Value.ref 43) [Value.int _ _]) _ _ _); with_plain (
      (refine' ctr_use (c_prettyM _ _ _ _ _ ?haz86 ?hbz86 _ ?hdz86) ?k1z86 ?k2z86 ?k3z86 ?k4z86 ?k5z86 ?k6z86 ?k7z86 ?_); (case haz86 => assumption); (case hbz86 => assumption); (case hdz86 => exact fun _ _ => List.not_mem_nil); (case k1z86 => k_asm); (case k2z86 => k_asm); (case k3z86 => k_asm); (case k4z86 => k_asm); (case k5z86 => k_asm); (case k6z86 => first | exact rfl | assumption); (case k7z86 => exact Room.deep (by assumption) (by decide)); (intro rP9z86 nP9z86 hP9z86 tkP9z86 FP9z86 NP9z86 PP9z86); (obtain ⟨e1z86, t19z86, e2z86⟩ := PP9z86); (subst e1z86 e2z86); (try dsimp only)))))
  (k_with "eval Name" => ((k_here; (first | (with_reducible show wpAny _ _ (eval (Expr.Name (Str.ofString "mask") _) _) _ _ _) | (with_reducible show wpAny _ _ (eval (Expr.Name (Str.ofString "shift") _) _) _ _ _)); with_plain ((refine' ldLoc ?k1z87 ?k2z87 ?_); (case k1z87 => k_asm); (case k2z87 => walk_at "mlook2"); k_whole))))
  (k_with "pyIter ref" => ((k_here; (with_reducible show wpAny _ _ (pyIter (Value.ref _)) (fun it s₂ => TurnsAt _ _ _ _ _ _ _ _ _ it s₂) _ _); with_plain ((refine' iter_rangeTurns (n := 4) ?hhz88 ?Rz88 ?h1z88 ?h2z88 ?Fz88 ?Nz88 ?_); (case hhz88 => exact rfl); (case Rz88 => k_asm); (case h1z88 => decide); (case h2z88 => decide); (case Fz88 => k_asm); (case Nz88 => k_asm); (intro i9z88 l9z88); (try k_lt l9z88); (try dsimp only [rangeItems, List.range, List.range.loop]); (try dsimp only [List.map_cons, List.map_nil])))))
  (k_with "ItemsRest" => (with_plain (first | ((refine' ItemsRest.tok ?_); (intro t'z89 h'z89 tk'z89 F'z89); (try dsimp only); ktu_objs) | (refine' ItemsRest.zero ?_; intro h'z89 tk'z89 F'z89 N'z89))))
  (k_with "itG" => (first | ((refine' s_item ?k1z90 ?k2z90 ?k3z90 ?k4z90 ?_ ?k5z90); (case k1z90 => k_asm); (case k2z90 => k_mem); (case k3z90 => first | assumption | decide); (case k4z90 => first | assumption | exact rfl); (case k5z90 => with_unfolding_all rfl)) | ((refine' s_itemG ?j1z90 ?j2z90 ?j3z90 ?j4z90 ?_ ?j5z90); (case j1z90 => k_asm); (case j2z90 => assumption); (case j3z90 => first | assumption | decide); (case j4z90 => first | assumption | exact rfl); (case j5z90 => with_unfolding_all rfl))))
  (k_with "subscriptTail Name Constant ref int" => ((k_here; with_plain (walk_at "itG"))))
  (k_with "subscriptTail Name Name ref int" => ((k_here; with_plain (walk_at "itG"))))
  (k_with "subscriptTail Subscript" => ((k_here; with_plain (walk_at "itG"))))
  trivial
theorem s_itemG {prog : Program} {w : World} {A : Around} {E Q : Value → Shared → Prop} {s : Shared} {h₀ : Heap} {L D : Addr} {m : Str → Option Value} {its : Array Value} {n : Nat} {k : Int} {v : Value} {u : Tok} {value slice : PySem.Expr} (F : Fr h₀ L s.heap m) (hg : h₀.get? D = some (listOf its n)) (h0 : 0 ≤ k ∧ k < 2 ^ 63) (hx : its.toList[k.toNat]? = some v) (h : Q v s)
    (hs : subscripted slice false (.ref D) (.int k u) = operate [.ref D, .int k u] (getItem (.ref D) (.int k u)) := by with_unfolding_all rfl) : wpAny (model prog w) A (subscriptTail value slice (.ref D) (.int k u)) Q E s :=
  tail_any (PySem.IsL.isList (n := n) (F.keep _ _ hg)).typeIs slot_list_getitem.lookup (wpAny_getItem_list (PySem.IsL.isList (n := n) (F.keep _ _ hg)) h0.1 h0.2 (by rw [← Array.getElem?_toList]; exact hx) h) hs
/-- one turn of the loop over the rows -/
def GateT (w : World) (g : Heap) (L : Nat) (p : Addr) (level : Int) (k ia ib : Nat) (ts : Tok) (oB oC : Obj) (A : Around) (T : Sem Flow) (E : Value → Shared → Prop) : Prop :=
  ∀ (ip : Array Value) (ep er : Nat) (rr : Addr) (x y z : Int) (t u v tr tm : Tok) (r : Nat) (I : Addr) (oI o : Obj) (m : Str → Option Value) (s : Shared) (Q : Flow → Shared → Prop),
  (0 ≤ x ∧ x ≤ 15) → (0 ≤ y ∧ y ≤ 15) → (0 ≤ z ∧ z ≤ 15) → RowC ia ib r (cl3 (bt x level) (bt y level) (bt z level)) → (0 ≤ (0 : Int) + (r : Int) ∧ (0 : Int) + (r : Int) < 2 ^ 63) → r + k < 62 → g.get? p = some (listOf ip ep) → ip.toList[((0 : Int) + (r : Int)).toNat]? = some (.ref rr) → g.get? rr = some (frow x y z t u v er) →
  o.data = .cell (some (.int (0 + (r : Int)) tr)) → m (Str.ofString "mask") = some (.int (mkv ia ib k r) tm) → m (Str.ofString "shift") = some (.int (k : Int) ts) → ((@Ne Nat I (L + 1 + 1 + 1)) ∧ (@Ne Nat I (L + 1 + 1)) ∧ (@Ne Nat I (L + 1))) →
  Fr g L s.heap m → News g L s.heap [(I, oI), (L + 1 + 1 + 1, o), (L + 1 + 1, oB), (L + 1, oC)] →
  (∀ m' tm' h' tk', m' (Str.ofString "mask") = some (.int (mkv ia ib k (r + 1)) tm') → m' (Str.ofString "shift") = some (.int (k : Int) ts) → Fr g L h' m' → News g L h' [(I, oI), (L + 1 + 1 + 1, o), (L + 1 + 1, oB), (L + 1, oC)] → Q .next { s with heap := h', toks := tk' }) →
  wpAny (model PySem.Challenge.rw_tr0025_01.row.prog w) A T Q E s
theorem gateT_use {w : World} {g : Heap} {L : Nat} {p : Addr} {level : Int} {k ia ib : Nat} {ts : Tok} {oB oC : Obj} {A : Around} {T : Sem Flow} {E : Value → Shared → Prop} (G : GateT w g L p level k ia ib ts oB oC A T E)
  {ip : Array Value} {ep er : Nat} {rr : Addr} {x y z : Int} {t u v tr tm : Tok} {r : Nat} {I : Addr} {oI o : Obj} {m : Str → Option Value} {s : Shared} {Q : Flow → Shared → Prop}
  (F : Fr g L s.heap m) (N : News g L s.heap [(I, oI), (L + 1 + 1 + 1, o), (L + 1 + 1, oB), (L + 1, oC)]) (od : o.data = .cell (some (.int (0 + (r : Int)) tr))) (k63 : 0 ≤ (0 : Int) + (r : Int) ∧ (0 : Int) + (r : Int) < 2 ^ 63) (rk : r + k < 62)
  (gp : g.get? p = some (listOf ip ep)) (gx : ip.toList[((0 : Int) + (r : Int)).toNat]? = some (.ref rr)) (gr : g.get? rr = some (frow x y z t u v er)) (hx : 0 ≤ x ∧ x ≤ 15) (hy : 0 ≤ y ∧ y ≤ 15) (hz : 0 ≤ z ∧ z ≤ 15) (hc : RowC ia ib r (cl3 (bt x level) (bt y level) (bt z level)))
  (m1 : m (Str.ofString "mask") = some (.int (mkv ia ib k r) tm)) (m2 : m (Str.ofString "shift") = some (.int (k : Int) ts)) (nI : (@Ne Nat I (L + 1 + 1 + 1)) ∧ (@Ne Nat I (L + 1 + 1)) ∧ (@Ne Nat I (L + 1)))
  (ret : ∀ m' tm' h' tk', m' (Str.ofString "mask") = some (.int (mkv ia ib k (r + 1)) tm') → m' (Str.ofString "shift") = some (.int (k : Int) ts) → Fr g L h' m' → News g L h' [(I, oI), (L + 1 + 1 + 1, o), (L + 1 + 1, oB), (L + 1, oC)] → Q .next { s with heap := h', toks := tk' }) :
  wpAny (model PySem.Challenge.rw_tr0025_01.row.prog w) A T Q E s := G ip ep er rr x y z t u v tr tm r I oI o m s Q hx hy hz hc k63 rk gp gx gr od m1 m2 nI F N ret
theorem mlk_0 {c : Option Value} {a b k i : Nat} {t : Tok} (h : min b i - a = 0) (hm : c = some (.int 0 t)) : c = some (.int (mkv a b k i) t) := by
  rw [mkv_0 h]; exact hm
theorem mlk_skipC {c : Option Value} {a b k i : Nat} {t : Tok} (h : i < a ∨ b ≤ i) (hm : c = some (.int (mkv a b k i) t)) : c = some (.int (mkv a b k (i + 1)) t) := by
  rw [mkv_skip h]; exact hm
inductive ColP (rest : List (Addr × Obj)) (k n : Nat) : Value → List (Addr × Obj) → Prop
  | mk (t : Tok) : ColP rest k n (.str (tell k n) t) rest
set_option maxHeartbeats 8000000 in
theorem c_coloured (w : World) (rest : List (Addr × Obj)) (P : Nat → Nat → Int) (hP : ∀ r c, 0 ≤ P r c ∧ P r c ≤ 15) (p r0 r1 r2 r3 : Addr) (e e0 e1 e2 e3 : Nat) (t00 t01 t02 t10 t11 t12 t20 t21 t22 t30 t31 t32 : Tok)
    (level : Int) (k ia ib : Nat) (tl ts : Tok) (hl : 1 ≤ level ∧ level ≤ 15) (hs : k ≤ 28) (hab : ia ≤ ib ∧ ib ≤ ia + 2 ∧ ib ≤ 4)
    (hc : ∀ r, r < 4 → (cl3 (bt (P r 0) level) (bt (P r 1) level) (bt (P r 2) level) ≠ 0 ↔ ia ≤ r ∧ r < ib)) (hp : (p, prow r0 r1 r2 r3 e) ∈ rest) (h0 : (r0, frow (P 0 0) (P 0 1) (P 0 2) t00 t01 t02 e0) ∈ rest) (h1 : (r1, frow (P 1 0) (P 1 1) (P 1 2) t10 t11 t12 e1) ∈ rest) (h2 : (r2, frow (P 2 0) (P 2 1) (P 2 2) t20 t21 t22 e2) ∈ rest) (h3 : (r3, frow (P 3 0) (P 3 1) (P 3 2) t30 t31 t32 e3) ∈ rest) :
    Ctr w 6 104 [.ref p, .int level tl, .int (k : Int) ts] rest (ColP rest (k + ia) (ib - ia)) := by
  have dis : ∀ x ∈ rest, x.1 ∉ ([] : List (Addr × Obj)).map (·.1) := fun _ _ => List.not_mem_nil
  refine fillG PySem.Challenge.rw_tr0025_01 hd.heap_39 ?_
  k_fill
  unfold FillG Ctr
  intro mean mg mb dp un gd cn cs a ccd cl outer A₀ base h₀ L m s Q E B F X N T hk hroom hret
  have hlt := hroom.lt
  refine wpAny_call ?_
  k_dflt (refine' enterFC (led := []) (rest := rest) ?k1 ?k2 ?k3 ?k4 ?kR ?kX ?k5 ?kA ?kF ?kK ?k6 ?k7 ?k8 ?k9 ?kB ?kD ?_ ?c2 ?c3 ?c4; (case kA => exact rfl); (case kF => exact rfl); (case kK => assumption); (case k1 => k_asm); (case k2 => k_asm); (case k3 => k_asm); (case k4 => exact News.nil); (case kR => exact N); (case kX => exact dis); (case k5 => k_asm); (case k6 => k_is); (case k7 => k_is); (case k8 => exact hlt); (case k9 => exact BindsTo.of_eq rfl); (case kB => exact rfl); (case kD => decide +kernel); (case c2 => exact rfl); (case c3 => exact rfl); (case c4 => exact rfl); k_whole; intro g' L' h' tk' cells' FG' F' N' Y' B' X' T' l1 hrest)
  clear l1 dis
  obtain ⟨oA, oB, oC, hE, dA, dB, dC⟩ := CellsAre.three Y'
  subst hE
  clear Y'
  replace dB : oB.data = .cell (some (.int level tl)) := dB
  replace dC : oC.data = .cell (some (.ref p)) := dC
  replace dA : oA.data = .cell none := dA
  have gp := hrest _ hp
  have g0 := hrest _ h0
  have g1 := hrest _ h1
  have g2 := hrest _ h2
  have g3 := hrest _ h3
  clear hp h0 h1 h2 h3
  dsimp only at gp g0 g1 g2 g3
  simp only [List.cons_append, List.nil_append] at N'
  (try dsimp only)
  (try k_fold)
  repeat' (first | ((fail_if_success (with_reducible show wpAny _ _ (execs (Stmt.Assign [Expr.Name (Str.ofString "shown") _] _ _ :: _) _) _ _ _)); first | (first | (k_unfold; (try dsimp only)) | (k_end; wrow_close) | walk1 | (dsimp only; walk1) | (leave1; walk_say "STEP leave1"; try dsimp only))) | fail "x")
  with_reducible refine' cut_treeE (GateT w g' L' p level k ia ib ts oB oC) ?_ ?_
  · unfold GateT
    clear hret hrest hP N hc gp g0 g1 g2 g3 dA
    intro ip ep er rr x y z t u v tr tm r I oI o m s Q hx hy hz hc k63 rk gp gx gr od hm1 hm2 ⟨i1, i2, i3⟩ F9 N9 ret
    repeat' (first | (k_unfold; (try dsimp only)) | (k_end; wrow_close) | walk1 | (dsimp only; walk1) | (leave1; walk_say "STEP leave1"; try dsimp only))
    all_goals ((with_reducible refine' ret _ _ _ _ ?rm1 ?rm2 ?rF ?rN); (case rF => k_asm); (case rm2 => walk_at "mlook2"); (case rm1 => first | walk_at "mlook2" | (refine' mlk_skipC ?gE ?gF; (case gF => walk_at "mlook2"); (case gE => assumption))); (case rN => (try dsimp only); (refine' subN ?rN1 ?rN2; (case rN1 => k_asm); (case rN2 => k_subL))))
  · intro gateT
    repeat' (first | ((with_reducible show wpAny _ _ (execs (Stmt.Assign [Expr.Name (Str.ofString "shown") _] _ _ :: _) _) _ _ _); ((with_reducible refine' gateT_use gateT ?tF ?tN ?td ?t6 ?tk ?tp ?tx ?tr ?ta ?tb ?tc ?tC ?t1 ?t2 ?tI ?_); (case tF => k_asm); (case tN => exact subN (by k_asm) (by k_subL)); (case td => assumption); (case t6 => decide); (case tk => omega); (case tp => assumption); (case tx => exact rfl); (case tr => assumption); (case ta => exact hP _ _); (case tb => exact hP _ _); (case tc => exact hP _ _); (case tC => exact hc _ (by decide)); (case t1 => first | walk_at "mlook2" | (refine' mlk_0 ?gD ?gE; (case gE => first | walk_at "mlook2" | exact rfl); (case gD => omega))); (case t2 => first | walk_at "mlook2" | exact rfl); (case tI => exact ⟨by k_ne, by k_ne, by k_ne⟩); (intro m9 tm9 h9 tk9 hm9 hn9 F9 N9); (try dsimp only at N9))) | (first | (k_unfold; (try dsimp only)) | (k_end; wrow_close) | walk1 | (dsimp only; walk1) | (leave1; walk_say "STEP leave1"; try dsimp only)))
    refine' hret _ _ _ _ ?zF (frame_ret (n' := []) N hrest ?zG News.nil) (ColP.mk _)
    (case zF => k_asm)
    (case zG => k_asm)

end
example : True := by
  k_with_none
  w_top off
  trivial
example : True := by
  (k_with "lit" => (first | exact rfl | exact lit_0 | exact lit_1 | exact lit_2 | exact lit_6 | exact lit_05))
  (k_with "bd" => (first | assumption | (refine' bsub ?_ ?_ <;> walk_at "bd") | (refine' badd ?_ ?_ <;> walk_at "bd") | exact Nat.le_refl _))
  (k_with "bf" => (first | ((refine' bfit ?b1z3 ?b2z3 ?b3z3); (case b1z3 => walk_at "bd"); (case b2z3 => walk_at "bd"); (case b3z3 => decide)) | omega))
  (k_with "binaryOp Add float float" => (with_plain (refine' s_add ?fxz4 ?fyz4 ?fbz4 ?_; (case fxz4 => walk_at "lit"); (case fyz4 => walk_at "lit"); (case fbz4 => walk_at "bf"); intro t9z4; (try dsimp only))))
  (k_with "binaryOp Sub float float" => (with_plain (refine' s_sub ?fxz5 ?fyz5 ?fbz5 ?_; (case fxz5 => walk_at "lit"); (case fyz5 => walk_at "lit"); (case fbz5 => walk_at "bf"); intro t9z5; (try dsimp only))))
  (k_with "binaryOp Sub float float" => (with_plain (refine' s_sub0 ?fxz6 ?fyz6 ?fbz6 ?_; (case fxz6 => exact rfl); (case fyz6 => walk_at "lit"); (case fbz6 => (refine' Nat.lt_of_le_of_lt ?b1z6 ?b3z6; (case b1z6 => assumption); (case b3z6 => decide))); intro t9z6; (try dsimp only))))
  (k_with "binaryOp Add float float" => (with_plain (refine' s_add0 ?fxz7 ?fyz7 ?fbz7 ?_; (case fxz7 => exact rfl); (case fyz7 => walk_at "lit"); (case fbz7 => (refine' Nat.lt_of_le_of_lt ?b1z7 ?b3z7; (case b1z7 => assumption); (case b3z7 => decide))); intro t9z7; (try dsimp only))))
  (k_with "binaryOp Div float float" => (with_plain (refine' s_div rfl ?fyz8 ?fbz8 ?_; (case fyz8 => walk_at "lit"); (case fbz8 => omega); intro t9z8; (try dsimp only))))
  (k_with "binaryOp Mod float float" => (with_plain (refine' s_mod rfl ?fyz9 ?fbz9 ?_; (case fyz9 => walk_at "lit"); (case fbz9 => omega); intro z9z9 t9z9; (try dsimp only))))
  (k_with "compareOp Lt float float" => (with_plain (refine' s_lt ?fxz10 ?fyz10 ?fbz10 ?_ ?_; (case fxz10 => walk_at "lit"); (case fyz10 => walk_at "lit"); (case fbz10 => walk_at "bf"); (all_goals (intro q9z10; try first | exact absurd q9z10 (by with_reducible assumption) | exact absurd (by with_reducible assumption) q9z10 | exact absurd q9z10 (by decide) | exact absurd (by decide) q9z10 | (exfalso; omega))))))
  (k_with "compareOp Gt float float" => (with_plain (refine' s_gt ?fxz11 ?fyz11 ?fbz11 ?_ ?_; (case fxz11 => walk_at "lit"); (case fyz11 => walk_at "lit"); (case fbz11 => walk_at "bf"); (all_goals (intro q9z11; try first | exact absurd q9z11 (by with_reducible assumption) | exact absurd (by with_reducible assumption) q9z11 | exact absurd q9z11 (by decide) | exact absurd (by decide) q9z11 | (exfalso; omega))))))
  (k_with "compareOp Eq float float" => (with_plain (refine' s_eq ?fxz12 ?fyz12 ?fbz12 ?_ ?_; (case fxz12 => walk_at "lit"); (case fyz12 => walk_at "lit"); (case fbz12 => walk_at "bf"); (all_goals (intro q9z12; try first | exact absurd q9z12 (by with_reducible assumption) | exact absurd (by with_reducible assumption) q9z12 | exact absurd q9z12 (by decide) | exact absurd (by decide) q9z12 | (exfalso; omega))))))
  (k_with "compareOp NotEq float float" => (with_plain (refine' s_ne ?fxz13 ?fyz13 ?fbz13 ?_ ?_; (case fxz13 => walk_at "lit"); (case fyz13 => walk_at "lit"); (case fbz13 => walk_at "bf"); (all_goals (intro q9z13; try first | exact absurd q9z13 (by with_reducible assumption) | exact absurd (by with_reducible assumption) q9z13 | exact absurd q9z13 (by decide) | exact absurd (by decide) q9z13 | (exfalso; omega))))))
  (k_with "compareOp LtE float float" => (with_plain (refine' s_le ?fxz14 ?fyz14 ?fbz14 ?_ ?_; (case fxz14 => walk_at "lit"); (case fyz14 => walk_at "lit"); (case fbz14 => walk_at "bf"); (all_goals (intro q9z14; try first | exact absurd q9z14 (by with_reducible assumption) | exact absurd (by with_reducible assumption) q9z14 | exact absurd q9z14 (by decide) | exact absurd (by decide) q9z14 | (exfalso; omega))))))
  (k_with "call builtin:max" => ((refine' max3_hi rfl ?kFz15 ?kNz15 ?kaz15 ?kbz15 ?kcz15 ?_; (case kFz15 => k_asm); (case kNz15 => k_asm); (case kaz15 => assumption); (case kbz15 => assumption); (case kcz15 => assumption); intro h9z15 tk9z15 t9z15 F9z15 N9z15; (try dsimp only))))
  (k_with "call builtin:min" => ((refine' min3_lo rfl ?kFz16 ?kNz16 ?kaz16 ?kbz16 ?kcz16 ?_; (case kFz16 => k_asm); (case kNz16 => k_asm); (case kaz16 => assumption); (case kbz16 => assumption); (case kcz16 => assumption); intro h9z16 tk9z16 t9z16 F9z16 N9z16; (try dsimp only))))
  (k_with "binaryOp Div float float" => (with_plain ((refine' s_half rfl ?fxz17 ?fyz17 ?fbz17 ?_); (case fxz17 => exact rfl); (case fyz17 => first | exact lit_2 | exact rfl); (case fbz17 => omega); intro t9z17; (try dsimp only))))
  (k_with "binaryOp Mult float float" => (with_plain ((refine' s_two ?fxz18 ?fyz18 ?fbz18 ?_); (case fxz18 => first | exact lit_2 | exact rfl); (case fyz18 => exact rfl); (case fbz18 => omega); intro t9z18; (try dsimp only))))
  (k_with "binaryOp Mult float float" => (with_plain ((refine' s_16 ?fxz19 ?fyz19 ?fbz19 ?_); (case fxz19 => exact rfl); (case fyz19 => exact rfl); (case fbz19 => omega); intro t9z19; (try dsimp only))))
  (k_with "binaryOp Mult float float" => (with_plain ((refine' s_mulz ?fzz20 ?_); (case fzz20 => first | exact mz_0 | exact mz_1 | exact mz_2 | exact mz_3 | exact mz_4 | exact mz_5); intro t9z20; (try dsimp only))))
  (k_with "binaryOp Sub float int" => (with_plain ((refine' s_subint ?fxz21 ?fbz21 ?_); (case fxz21 => exact rfl); (case fbz21 => omega); intro t9z21; (try dsimp only))))
  (k_with "binaryOp Mult int float" => (with_plain ((refine' s_mulint ?fxz22 ?fyz22 ?fbz22 ?_); (case fxz22 => exact rfl); (case fyz22 => exact rfl); (case fbz22 => omega); intro t9z22; (try dsimp only))))
  (k_with "binaryOp Div int int" => (with_plain ((refine' s_divint rfl ?fxz23 ?fbz23 ?_); (case fxz23 => exact rfl); (case fbz23 => omega); intro t9z23; (try dsimp only))))
  (k_with "enter9" => ((refine' code_def ?k1z24 ?k2z24 ?k3z24 ?k4z24 ?k5z24 ?kAz24 ?kFz24 ?kKz24 ?k6z24 ?k7z24 ?k8z24 ?k9z24 ?kBz24 ?_ ?c2z24 ?c3z24 ?c4z24 ?c5z24; (case kAz24 => exact rfl); (case kFz24 => exact rfl); (case kKz24 => first | exact rfl | assumption); (case k1z24 => k_asm); (case k2z24 => k_asm); (case k3z24 => k_asm); (case k4z24 => k_asm); (case k5z24 => k_asm); (case k6z24 => k_is); (case k7z24 => k_is); (case k8z24 => exact (Room.deep (k' := 1) (by assumption) (by decide)).lt); (case k9z24 => exact BindsTo.of_eq rfl); (case c5z24 => decide); (case kBz24 => exact locs rfl); (case c2z24 => exact rfl); (case c3z24 => exact rfl); (case c4z24 => exact rfl); k_whole; intro g'z24 L'z24 h'z24 FG'z24 F'z24 N'z24 B'z24 X'z24 T'z24; (try dsimp only); (try k_fold))))
  (k_with "call ref" => ((k_here; (refine wpAny_call ?_); k_dflt (walk_at "enter9"))))
  trivial

example : True := by
  (k_with "mlook" => (first | with_reducible exact look_at | with_reducible assumption | (refine look_by2 (by decide) ?_; walk_at "mlook") | exact rfl))
  (k_with "eval Name" => ((k_here; with_plain ((refine' ld ?k1z27 ?k2z27 ?_); (case k1z27 => k_asm); (case k2z27 => walk_at "mlook"); k_whole))))
  trivial
example : True := by
  (k_with "k_ne" => (first | with_reducible assumption | (refine Ne.symm ?_; with_reducible assumption) | exact ltn (by assumption) (by k_mem) | exact Ne.symm (ltn (by assumption) (by k_mem)) | (refine neN ?_; (try dsimp only); first | with_reducible assumption | (refine Ne.symm ?_; with_reducible assumption) | exact ltn (by assumption) (by k_mem) | exact Ne.symm (ltn (by assumption) (by k_mem)) | omega)))
  trivial
example : True := by
  (k_with "memR" => (first | exact memR0 | (refine memR1 ?_; walk_at "memR")))
  (k_with "subscriptTail Name Name ref int" => ((k_here; with_plain ((refine' s_item ?k1z30 ?k2z30 ?k3z30 ?k4z30 ?_ ?k5z30); (case k1z30 => k_asm); (case k2z30 => first | k_mem | assumption | apply_assumption); (case k3z30 => first | assumption | decide | omega); (case k4z30 => first | assumption | rfl); (case k5z30 => with_unfolding_all rfl)))))
  (k_with "subscriptTail Subscript" => ((k_here; with_plain ((refine' s_item ?k1z31 ?k2z31 ?k3z31 ?k4z31 ?_ ?k5z31); (case k1z31 => k_asm); (case k2z31 => first | k_mem | assumption | apply_assumption); (case k3z31 => first | assumption | decide | omega); (case k4z31 => first | assumption | rfl); (case k5z31 => with_unfolding_all rfl)))))
  (k_with "RangeRest" => (with_plain (first | (refine' RangeRest.succ ?_; intro t'z32 h'z32 tk'z32 F'z32 N'z32) | (refine' RangeRest.zero ?_; intro h'z32 tk'z32 F'z32 N'z32))))
  (k_with "for9" => ((k_here; with_plain ((refine' For_turns ?Fz33 ?_ ?hsz33 ?hEz33); (case Fz33 => k_asm); (case hsz33 => intro _; rfl); (case hEz33 => passes_own); k_whole))))
  (k_with "exec For Tuple List cons nil" => (walk_at "for9"))
  (k_with "exec For Tuple Call cons nil" => (walk_at "for9"))
  (k_with "exec For Tuple Name cons nil" => (walk_at "for9"))
  (k_with "exec For Name List cons nil" => (walk_at "for9"))
  (k_with "pyIter ref" => ((k_here; (with_reducible show wpAny _ _ (pyIter (Value.ref _)) (fun it s₂ => TurnsAt _ _ _ _ _ _ _ _ _ it s₂) _ _); with_plain ((refine' iter_listTurns ?hhz38 ?Fz38 ?Nz38 ?mz38 ?cz38 ?dz38 ?_); (case hhz38 => exact rfl); (case Fz38 => k_asm); (case Nz38 => k_asm); (case mz38 => k_mem); (case cz38 => exact rfl); (case dz38 => exact rfl); (intro i'z38 l1z38); (try k_lt l1z38); (try dsimp only [List.map_cons, List.map_nil])))))
  (k_with "ItemsRest" => (with_plain (first | (refine' ItemsRest.val ?_; intro h'z39 tk'z39 F'z39; ktu_objs) | (refine' ItemsRest.pair ?_; intro T'z39 t'z39 h'z39 tk'z39 hT'z39 F'z39; (try dsimp only at hT'z39); ktu_objs) | (refine' ItemsRest.zero ?_; intro h'z39 tk'z39 F'z39 N'z39))))
  trivial
example : True := by
  (k_with "k_mem9" => (with_reducible ((fail_if_success (show (zz9, _) ∈ _)); first | exact List.Mem.head _ | exact mm1 | exact mm2 | exact mm3 | exact mm4 | exact mm5 | exact mm6 | exact mm7 | exact mm8 | exact mm9 | exact mm10 | exact mm11 | exact mm12 | exact mm13 | exact mm14 | exact mm15 | exact mm16 | exact mm17 | exact mm18 | exact mm19 | exact mm20 | exact mm21 | exact mm22 | exact mm23 | exact mm24)))
  (k_with "k_sub9" => (((fail_if_success (with_reducible exact subNil)); (repeat' (with_reducible first | exact subNil | exact sub0 | refine' subK ?_ | refine' subD ?_)); done)))
  trivial

section
@[irreducible] def nz (r c v : Int) : Int := if (if r.fmod 2 = 0 then c else 2 - c) < 3 - v then 1 else 0
theorem nz_a {r c v : Int} (h : r.fmod 2 = 0) (k : c < 3 - v) : nz r c v = 1 := by unfold nz; rw [if_pos h, if_pos k]
theorem nz_b {r c v : Int} (h : r.fmod 2 = 0) (k : ¬ c < 3 - v) : nz r c v = 0 := by unfold nz; rw [if_pos h, if_neg k]
theorem nz_c {r c v : Int} (h : ¬ r.fmod 2 = 0) (k : 2 - c < 3 - v) : nz r c v = 1 := by unfold nz; rw [if_neg h, if_pos k]
theorem nz_d {r c v : Int} (h : ¬ r.fmod 2 = 0) (k : ¬ 2 - c < 3 - v) : nz r c v = 0 := by unfold nz; rw [if_neg h, if_neg k]
theorem lt_restG {L' q : Addr} {rest : List (Addr × Obj)} {g h' : Heap} {m' : Str → Option Value} (hrest : ∀ x ∈ rest, g.get? x.1 = some x.2) (F' : Fr g L' h' m') (lL : L' < q) : ∀ p ∈ rest, p.1 < q := fun p hp =>
  Nat.lt_trans (Nat.lt_of_lt_of_le (Heap.lt_size (hrest p hp)) F'.above) lL
@[irreducible] def nought (v : Nat → Int) (c : Int) : Int := 0 + nz 0 c (v 0) + nz 1 c (v 1) + nz 2 c (v 2) + nz 3 c (v 3)
theorem nought_at (v : Nat → Int) (c : Int) : 0 + nz 0 c (v 0) + nz 1 c (v 1) + nz 2 c (v 2) + nz 3 c (v 3) = nought v c := by unfold nought; rfl
section
variable {prog : Program} {w : World} {A : Around} {E : Value → Shared → Prop} {s : Shared} {h₀ : Heap} {L : Addr} {m : Str → Option Value} {news : List (Addr × Obj)}
theorem newList_L {vs : List Value} {Q : Value → Shared → Prop} (F : Fr h₀ L s.heap m) (N : News h₀ L s.heap news)
    (h : ∀ l h', Fr h₀ L h' m → News h₀ L h' ((l, listOf vs.toArray 0) :: news) → (∀ p ∈ news, p.1 < l) → L < l → Q (.ref l) { s with heap := h' }) (hsz : vs.length ≤ sizeLine := by size_fits) : wpAny (model prog w) A (newList vs) Q E s :=
  newList_N F N (fun h' F' N' => h _ h' F' N' (fun p hp => Heap.lt_size (N p hp).1) F.ns.lt) hsz
end
def GateN (w : World) (g : Heap) (L o : Addr) (A : Around) (T : Sem Flow) : Prop :=
  ∀ (q : Addr) (V W : Array Value) (eq eo : Nat) (r c x v : Int) (tr tc tx tv : Tok) (fv : Value → List Value) (m : Str → Option Value) (news : List (Addr × Obj)) (news1 : Value → List (Addr × Obj)) (s : Shared) (Q : Flow → Shared → Prop) (E : Value → Shared → Prop),
  m (Str.ofString "noughts") = some (.ref q) → m (Str.ofString "ones") = some (.ref o) → m (Str.ofString "r") = some (.int r tr) → m (Str.ofString "c") = some (.int c tc) →
  (0 ≤ r ∧ r < 2 ^ 63) → (0 ≤ c ∧ c < 2 ^ 63) →
  g.get? o = some (listOf W eo) → (q, listOf V eq) ∈ news → W.toList[r.toNat]? = some (.int v tv) → V.toList[c.toNat]? = some (.int x tx) →
  (∀ u, ki_setL V.toList c.toNat u = some (fv u) ∧ Upd q (listOf V eq) (listOf (fv u).toArray eq) news (news1 u)) →
  news1 (.int x tx) = news →
  Fr g L s.heap m → News g L s.heap news →
  (∀ t h' tk', Fr g L h' m → News g L h' (news1 (.int (x + nz r c v) t)) → Q .next { s with heap := h', toks := tk' }) →
  wpAny (model PySem.Challenge.rw_tr0025_01.row.prog w) A T Q E s
theorem gateN_use {w : World} {g : Heap} {L o : Addr} {A : Around} {T : Sem Flow} (G : GateN w g L o A T)
  {q : Addr} {V W : Array Value} {eq eo : Nat} {r c x v : Int} {tr tc tx tv : Tok} {fv : Value → List Value} {m : Str → Option Value} {news : List (Addr × Obj)} {news1 : Value → List (Addr × Obj)} {s : Shared} {Q : Flow → Shared → Prop} {E : Value → Shared → Prop}
  (F : Fr g L s.heap m) (N : News g L s.heap news)
  (m1 : m (Str.ofString "noughts") = some (.ref q)) (m2 : m (Str.ofString "ones") = some (.ref o)) (m3 : m (Str.ofString "r") = some (.int r tr)) (m4 : m (Str.ofString "c") = some (.int c tc))
  (br : 0 ≤ r ∧ r < 2 ^ 63) (bc : 0 ≤ c ∧ c < 2 ^ 63)
  (ho : g.get? o = some (listOf W eo)) (hq : (q, listOf V eq) ∈ news) (iv : W.toList[r.toNat]? = some (.int v tv)) (ix : V.toList[c.toNat]? = some (.int x tx))
  (hf : ∀ u, ki_setL V.toList c.toNat u = some (fv u)) (u1 : ∀ u, Upd q (listOf V eq) (listOf (fv u).toArray eq) news (news1 u)) (nn : news1 (.int x tx) = news)
  (ret : ∀ t h' tk', Fr g L h' m → News g L h' (news1 (.int (x + nz r c v) t)) → Q .next { s with heap := h', toks := tk' }) :
  wpAny (model PySem.Challenge.rw_tr0025_01.row.prog w) A T Q E s :=
  G q V W eq eo r c x v tr tc tx tv fv m news news1 s Q E m1 m2 m3 m4 br bc ho hq iv ix (fun u => ⟨hf u, u1 u⟩) nn F N ret
/-- one row: the inner loop -/
def GateR (w : World) (g : Heap) (L o : Addr) (A : Around) (T : Sem Flow) (E : Value → Shared → Prop) : Prop :=
  ∀ (q I : Addr) (oI : Obj) (W : Array Value) (eo : Nat) (r x0 x1 x2 v : Int) (tr tv u0 u1 u2 : Tok) (m : Str → Option Value) (s : Shared) (Q : Flow → Shared → Prop),
  m (Str.ofString "noughts") = some (.ref q) → m (Str.ofString "ones") = some (.ref o) → m (Str.ofString "r") = some (.int r tr) → (0 ≤ r ∧ r < 2 ^ 63) →
  g.get? o = some (listOf W eo) → W.toList[r.toNat]? = some (.int v tv) → @Ne Nat I q →
  Fr g L s.heap m → News g L s.heap [(I, oI), (q, listOf #[.int x0 u0, .int x1 u1, .int x2 u2] 0)] →
  (∀ u0 u1 u2 m' h' tk', m' (Str.ofString "noughts") = some (.ref q) → m' (Str.ofString "ones") = some (.ref o) → Fr g L h' m' → News g L h' [(I, oI), (q, listOf #[.int (x0 + nz r 0 v) u0, .int (x1 + nz r 1 v) u1, .int (x2 + nz r 2 v) u2] 0)] → Q .next { s with heap := h', toks := tk' }) →
  wpAny (model PySem.Challenge.rw_tr0025_01.row.prog w) A T Q E s
theorem gateR_use {w : World} {g : Heap} {L o : Addr} {A : Around} {T : Sem Flow} {E : Value → Shared → Prop} (G : GateR w g L o A T E)
  {q I : Addr} {oI : Obj} {W : Array Value} {eo : Nat} {r x0 x1 x2 v : Int} {tr tv u0 u1 u2 : Tok} {m : Str → Option Value} {s : Shared} {Q : Flow → Shared → Prop}
  (F : Fr g L s.heap m) (N : News g L s.heap [(I, oI), (q, listOf #[.int x0 u0, .int x1 u1, .int x2 u2] 0)]) (m1 : m (Str.ofString "noughts") = some (.ref q)) (m2 : m (Str.ofString "ones") = some (.ref o)) (m3 : m (Str.ofString "r") = some (.int r tr)) (br : 0 ≤ r ∧ r < 2 ^ 63)
  (ho : g.get? o = some (listOf W eo)) (iv : W.toList[r.toNat]? = some (.int v tv)) (nI : @Ne Nat I q)
  (ret : ∀ u0 u1 u2 m' h' tk', m' (Str.ofString "noughts") = some (.ref q) → m' (Str.ofString "ones") = some (.ref o) → Fr g L h' m' → News g L h' [(I, oI), (q, listOf #[.int (x0 + nz r 0 v) u0, .int (x1 + nz r 1 v) u1, .int (x2 + nz r 2 v) u2] 0)] → Q .next { s with heap := h', toks := tk' }) :
  wpAny (model PySem.Challenge.rw_tr0025_01.row.prog w) A T Q E s := G q I oI W eo r x0 x1 x2 v tr tv u0 u1 u2 m s Q m1 m2 m3 br ho iv nI F N ret
inductive NouP (v : Nat → Int) (rest : List (Addr × Obj)) : Value → List (Addr × Obj) → Prop
  | mk (q : Addr) (s0 s1 s2 : Tok) : (∀ p ∈ rest, p.1 < q) → NouP v rest (.ref q) ((q, listOf #[.int (nought v 0) s0, .int (nought v 1) s1, .int (nought v 2) s2] 0) :: rest)
example : True := by
  (k_with "itG" => (first | ((refine' s_item ?k1z94 ?k2z94 ?k3z94 ?k4z94 ?_ ?k5z94); (case k1z94 => k_asm); (case k2z94 => first | k_mem | assumption); (case k3z94 => first | assumption | decide); (case k4z94 => first | assumption | exact rfl); (case k5z94 => with_unfolding_all rfl)) | ((refine' s_itemG ?j1z94 ?j2z94 ?j3z94 ?j4z94 ?_ ?j5z94); (case j1z94 => k_asm); (case j2z94 => assumption); (case j3z94 => first | assumption | decide); (case j4z94 => first | assumption | exact rfl); (case j5z94 => with_unfolding_all rfl))))
  (k_with "subscriptTail Name Name ref int" => ((k_here; with_plain (walk_at "itG"))))
  (k_with "newList" => ((k_here; k_dflt (refine' newList_L ?k1z96 ?k2z96 ?_; (case k1z96 => k_asm); (case k2z96 => k_asm); k_whole); intro l'z96 h'z96 F'z96 N'z96 l1z96 lLz96; (try k_lt l1z96); (try k_sweep))))
  (k_with "setItem ref int" => ((k_here; with_plain ((rename (∀ v : Value, ki_setL _ _ _ = some _ ∧ _) => hU9z97); (refine' ki_set ?Fz97 ?Nz97 ?az97 ?bz97 (hU9z97 _).1 (hU9z97 _).2 ?_); (case Fz97 => k_asm); (case Nz97 => k_asm); (case az97 => omega); (case bz97 => omega); (clear hU9z97); (intro h9z97 F9z97 N9z97); (try k_sweep)))))
  trivial
set_option maxHeartbeats 8000000 in
theorem c_noughtsM (w : World) (rest : List (Addr × Obj)) (v : Nat → Int) (o : Addr) (e : Nat) (t0 t1 t2 t3 : Tok) (hm : (o, listOf #[.int (v 0) t0, .int (v 1) t1, .int (v 2) t2, .int (v 3) t3] e) ∈ rest) :
    Ctr w 4 111 [.ref o] rest (NouP v rest) := by
  refine fillG PySem.Challenge.rw_tr0025_01 hd.heap_39 ?_
  k_fill
  unfold FillG Ctr
  intro mean mg mb dp un gd cn cs a ccd cl outer A₀ base h₀ L m s Q E B F X N T hk hroom hret
  have hlt := hroom.lt
  refine wpAny_call ?_
  k_dflt (refine' enterF (led := []) (rest := rest) ?k1 ?k2 ?k3 ?k4 ?kR ?kX ?k5 ?kA ?kF ?kK ?k6 ?k7 ?k8 ?k9 ?kB ?_ ?c2 ?c3 ?c4 ?c5; (case kA => exact rfl); (case kF => exact rfl); (case kK => assumption); (case k1 => k_asm); (case k2 => k_asm); (case k3 => k_asm); (case k4 => exact News.nil); (case kR => exact N); (case kX => exact fun _ _ => List.not_mem_nil); (case k5 => k_asm); (case k6 => k_is); (case k7 => k_is); (case k8 => exact hlt); (case k9 => exact BindsTo.of_eq rfl); (case c5 => decide); (case kB => exact locs rfl); (case c2 => exact rfl); (case c3 => exact rfl); (case c4 => exact rfl); k_whole; intro g' L' h' FG' F' N' B' X' T' hrest; (try dsimp only); (try k_fold))
  have go := hrest _ hm
  clear hm
  dsimp only at go
  repeat' (first | ((fail_if_success (with_reducible show wpAny _ _ (execs [Stmt.For _ _ _ _ _] _) _ _ _)); first | (first | (k_unfold; (try dsimp only)) | (k_end; wrow_close) | walk1 | (dsimp only; walk1) | (leave1; walk_say "STEP leave1"; try dsimp only))) | fail "x")
  with_reducible refine' cut_treeE (GateR w g' L' o) ?_ ?_
  · unfold GateR
    clear hret hrest N go
    intro q I oI W eo r x0 x1 x2 v tr tv u0 u1 u2 m s Q hm1 hm2 hm3 hr ho hv nI F9 N9 ret
    repeat' (first | ((fail_if_success (with_reducible show wpAny _ _ (execs [Stmt.If _ _ _ _] _) _ _ _)); first | (first | (k_unfold; (try dsimp only)) | (k_end; wrow_close) | walk1 | (dsimp only; walk1) | (leave1; walk_say "STEP leave1"; try dsimp only))) | fail "x")
    with_reducible refine' cut_tree (GateN w g' L' o) ?_ ?_
    · unfold GateN
      clear ret ho hv hr
      intro q V W eq eo r c x v tr tc tx tv fv m news news1 s Q E hm1 hm2 hm3 hm4 hr hc ho hq hv hx hu hn F9 N9 ret
      repeat' (first | (k_unfold; (try dsimp only)) | (k_end; wrow_close) | walk1 | (dsimp only; walk1) | (leave1; walk_say "STEP leave1"; try dsimp only))
      all_goals first
        | (have e := nz_a (c := c) (v := v) (by assumption) (by assumption); rw [e] at ret; exact ret _ _ _ (by k_asm) (by k_asm))
        | (have e := nz_c (c := c) (v := v) (by assumption) (by assumption); rw [e] at ret; exact ret _ _ _ (by k_asm) (by k_asm))
        | (have e := nz_b (c := c) (v := v) (by assumption) (by assumption); have ret := ret tx; rw [e, Int.add_zero, hn] at ret; exact ret _ _ F9 N9)
        | (have e := nz_d (c := c) (v := v) (by assumption) (by assumption); have ret := ret tx; rw [e, Int.add_zero, hn] at ret; exact ret _ _ F9 N9)
    · intro gate
      repeat' (first | ((with_reducible show wpAny _ _ (execs [Stmt.If _ _ _ _] _) _ _ _); ((with_reducible refine' gateN_use gate ?nF ?nN ?n1 ?n2 ?n3 ?n4 hr ?nc ho ?nq hv ?nx ?nf ?nu ?nn ?_); (case nF => k_asm); (case nN => k_asm); (case n1 => walk_at "mlook"); (case n2 => walk_at "mlook"); (case n3 => walk_at "mlook"); (case n4 => exact rfl); (case nc => decide); (case nq => k_mem); (case nx => exact rfl); (case nf => (intro v; exact rfl)); (case nu => (intro v; k_upd)); (case nn => exact rfl); (intro tG9 hG9 tkG9 FG9 NG9); (try dsimp only at NG9); (try k_sweep))) | (first | (k_unfold; (try dsimp only)) | (k_end; wrow_close) | walk1 | (dsimp only; walk1) | (leave1; walk_say "STEP leave1"; try dsimp only)))
      with_plain (refine' ret _ _ _ _ _ _ ?rm ?ro ?rF ?rN)
      (case rF => k_asm)
      (case rm => walk_at "mlook")
      (case ro => walk_at "mlook")
      (case rN => (try dsimp only); exact subN (by k_asm) (by k_subL))
  · intro gateR
    repeat' (first | ((with_reducible show wpAny _ _ (execs [Stmt.For _ _ _ _ _] _) _ _ _); ((with_reducible refine' gateR_use gateR ?rF ?rN ?r1 ?r2 ?r3 ?rb go ?rv ?rI ?_); (case rF => k_asm); (case rN => exact subN (by k_asm) (by k_subL)); (case r1 => walk_at "mlook"); (case r2 => walk_at "mlook"); (case r3 => exact rfl); (case rb => decide); (case rv => exact rfl); (case rI => k_ne); (intro y0 y1 y2 m9 h9 tk9 hm9 hn9 F9 N9); (try dsimp only at N9))) | (first | (k_unfold; (try dsimp only)) | (k_end; wrow_close) | walk1 | (dsimp only; walk1) | (leave1; walk_say "STEP leave1"; try dsimp only)))
    refine' hret _ _ _ _ ?zF (frame_ret (n' := [(_, _)]) N hrest ?zG ?zN) (NouP.mk _ _ _ _ (lt_restG hrest ?zH (by assumption)))
    (case zF => k_asm)
    (case zN => rw [← nought_at v 0, ← nought_at v 1, ← nought_at v 2]; exact subN (by k_asm) (by k_subL))
    (case zG => k_asm)
    (case zH => k_asm)

end
section
def numS (k : Int) : Str := Str.ofString "0x" ++ Txt.item (Str.ofString "1248") (k.fmod 4) ++ Txt.mul (Str.ofString "0") (k.fdiv 4)
theorem numS_eq : ∀ i : Fin 32, 10 ≤ i.val → numS (i.val : Int) = flagS i.val := by decide +kernel
theorem numS_len : ∀ i : Fin 32, (Str.ofString "0x" ++ Txt.item (Str.ofString "1248") ((i.val : Int).fmod 4)).length + (Txt.mul (Str.ofString "0") ((i.val : Int).fdiv 4)).length ≤ 100 := by decide +kernel
theorem mulN : ∀ i : Fin 32, ((Str.ofString "0").length ≤ 1 ∧ (i.val : Int).fdiv 4 ≤ 8) ∧ -(2 ^ 63 : Int) ≤ (i.val : Int).fdiv 4 := by decide +kernel
theorem namS : ∀ i : Fin 10, [Str.ofString "OPTIMIZED", Str.ofString "NEWLOCALS", Str.ofString "VARARGS", Str.ofString "VARKEYWORDS", Str.ofString "NESTED", Str.ofString "GENERATOR", Str.ofString "NOFREE", Str.ofString "COROUTINE", Str.ofString "ITERABLE_COROUTINE", Str.ofString "ASYNC_GENERATOR"][i.val]? = some (flagS i.val) := by decide +kernel
theorem nam_at {t0 t1 t2 t3 t4 t5 t6 t7 t8 t9 : Tok} {k : Nat} (h : (k : Int) < 10) : ∃ t, (#[Value.str (Str.ofString "OPTIMIZED") t0, .str (Str.ofString "NEWLOCALS") t1, .str (Str.ofString "VARARGS") t2, .str (Str.ofString "VARKEYWORDS") t3, .str (Str.ofString "NESTED") t4, .str (Str.ofString "GENERATOR") t5, .str (Str.ofString "NOFREE") t6, .str (Str.ofString "COROUTINE") t7, .str (Str.ofString "ITERABLE_COROUTINE") t8, .str (Str.ofString "ASYNC_GENERATOR") t9] : Array Value).toList[((k : Int)).toNat]? = some (.str (flagS k) t) := by
  have e := namS ⟨k, by omega⟩
  simp only at e
  rw [Int.toNat_natCast]
  match k, e with
  | 0, e => have e := Option.some.inj e; exact ⟨t0, by rw [← e]; rfl⟩
  | 1, e => have e := Option.some.inj e; exact ⟨t1, by rw [← e]; rfl⟩
  | 2, e => have e := Option.some.inj e; exact ⟨t2, by rw [← e]; rfl⟩
  | 3, e => have e := Option.some.inj e; exact ⟨t3, by rw [← e]; rfl⟩
  | 4, e => have e := Option.some.inj e; exact ⟨t4, by rw [← e]; rfl⟩
  | 5, e => have e := Option.some.inj e; exact ⟨t5, by rw [← e]; rfl⟩
  | 6, e => have e := Option.some.inj e; exact ⟨t6, by rw [← e]; rfl⟩
  | 7, e => have e := Option.some.inj e; exact ⟨t7, by rw [← e]; rfl⟩
  | 8, e => have e := Option.some.inj e; exact ⟨t8, by rw [← e]; rfl⟩
  | 9, e => have e := Option.some.inj e; exact ⟨t9, by rw [← e]; rfl⟩
  | k + 10, e => omega
section
variable {prog : Program} {w : World} {A : Around} {E Q : Value → Shared → Prop} {s : Shared} {h₀ : Heap} {L D : Addr} {news : List (Addr × Obj)}
theorem s_nm {t0 t1 t2 t3 t4 t5 t6 t7 t8 t9 : Tok} {k n : Nat} {u : Tok} {value slice : PySem.Expr} (N : News h₀ L s.heap news) (hm : (D, listOf #[Value.str (Str.ofString "OPTIMIZED") t0, .str (Str.ofString "NEWLOCALS") t1, .str (Str.ofString "VARARGS") t2, .str (Str.ofString "VARKEYWORDS") t3, .str (Str.ofString "NESTED") t4, .str (Str.ofString "GENERATOR") t5, .str (Str.ofString "NOFREE") t6, .str (Str.ofString "COROUTINE") t7, .str (Str.ofString "ITERABLE_COROUTINE") t8, .str (Str.ofString "ASYNC_GENERATOR") t9] n) ∈ news) (hk : (k : Int) < 10) (h : ∀ t, Q (.str (flagS k) t) s)
    (hs : subscripted slice false (.ref D) (.int k u) = operate [.ref D, .int k u] (getItem (.ref D) (.int k u)) := by with_unfolding_all rfl) : wpAny (model prog w) A (subscriptTail value slice (.ref D) (.int k u)) Q E s := by
  obtain ⟨t, e⟩ := nam_at (t0 := t0) (t1 := t1) (t2 := t2) (t3 := t3) (t4 := t4) (t5 := t5) (t6 := t6) (t7 := t7) (t8 := t8) (t9 := t9) hk
  exact s_item N hm ⟨by omega, by omega⟩ e (h t) hs
theorem s_mulN {k : Nat} {t u : Tok} (hk : k < 32) (h : ∀ t k', Q (.str (Txt.mul (Str.ofString "0") ((k : Int).fdiv 4)) t) { s with toks := k' }) : wpAny (model prog w) A (binaryOp .Mult (.str (Str.ofString "0") t) (.int ((k : Int).fdiv 4) u)) Q E s := by
  have e := mulN ⟨k, hk⟩
  exact SB.mul (mulOk_of 1 8 e.1.1 e.1.2 e.2 (by decide) (by decide)) h
theorem s_catN {k : Nat} {t u : Tok} (hk : k < 32) (hk10 : ¬ (k : Int) < 10) (h : ∀ t k', Q (.str (flagS k) t) { s with toks := k' }) : wpAny (model prog w) A (binaryOp .Add (.str (Str.ofString "0x" ++ Txt.item (Str.ofString "1248") ((k : Int).fmod 4)) t) (.str (Txt.mul (Str.ofString "0") ((k : Int).fdiv 4)) u)) Q E s := by
  refine SB.add (fun t' k' => ?_) (Nat.le_trans (numS_len ⟨k, hk⟩) (by decide))
  have e := numS_eq ⟨k, hk⟩ (by simp only; omega)
  unfold numS at e
  simp only at e
  rw [e]
  exact h _ _
end
theorem canLay_strs : ∀ ns : List Str, (∀ x ∈ ns, PyData.strOk x = true) → PyData.canLayAll0 (ns.map PyData.str) = true
  | [], _ => by simp [PyData.canLayAll0]
  | n :: r, h => by simp [PyData.canLayAll0, PyData.canLay0, canLay_strs r (fun x hx => h x (List.mem_cons_of_mem _ hx)), h n (List.mem_cons_self ..)]
theorem ok_flags : ∀ i : Fin 32, PyData.strOk (flagS i.val) = true := by decide +kernel
theorem ok_flag {k : Nat} (h : k < 32) : PyData.strOk (flagS k) = true := ok_flags ⟨k, h⟩
theorem ok_0 : ∀ x ∈ ([] : List Str), PyData.strOk x = true := fun _ h => nomatch h
theorem ok_c {n : Str} {r : List Str} (h : PyData.strOk n = true) (hr : ∀ x ∈ r, PyData.strOk x = true) : ∀ x ∈ n :: r, PyData.strOk x = true := fun x hx => by
  rcases List.mem_cons.mp hx with rfl | hx
  · exact h
  · exact hr x hx
theorem depth_strs : ∀ ns : List Str, PyData.depthAll (ns.map PyData.str) ≤ 1
  | [] => by simp [PyData.depthAll]
  | n :: r => by
    have := depth_strs r
    simp only [List.map_cons, PyData.depthAll, PyData.depth]
    omega
theorem shaped_strs (ns : List Str) (ok : ∀ x ∈ ns, PyData.strOk x = true) : SeqAt.shaped (.list (ns.map PyData.str)) = true := by
  have h1 := depth_strs ns
  have h2 : PyData.depth (.list (ns.map PyData.str)) ≤ 64 := by simp only [PyData.depth]; omega
  show (PyData.canLay0 (.list (ns.map PyData.str)) && decide (PyData.depth (.list (ns.map PyData.str)) ≤ 64)) = true
  rw [Bool.and_eq_true]
  exact ⟨by simp only [PyData.canLay0]; exact canLay_strs ns ok, decide_eq_true h2⟩
theorem noMix_strs (ns : List Str) : SeqAt.noMixAll (ns.map PyData.str) (([] : List Str).map PyData.str) = true := by
  cases ns <;> simp [SeqAt.noMixAll]
theorem same_strs (ns : List Str) : PySem.Spec.sameAll (ns.map PyData.str) (([] : List Str).map PyData.str) = ns.isEmpty := by
  cases ns <;> simp [PySem.Spec.sameAll]
theorem reads_strs {h : Heap} {a : Addr} {vs : List Value} {ns : List Str} (hl : h.IsList a vs.toArray) (hi : StrsAre vs ns) : Reads h (.ref a) (.list (ns.map PyData.str)) [a] := by
  obtain ⟨o, ho, hc, n, hd⟩ := hl
  exact Reads.list ho hc hd (by simpa using strs_readAll h hi)
theorem Room.un9 {dp un : Nat} (h : Room dp un 6) : un + 96 < cLine := h.2
theorem un_le {A : Around} {un : Nat} (h : un + 96 < cLine) (e : A.units = un + 3) : A.units + 64 < cLine := by omega
theorem s_ne_nil {prog : Program} {w : World} {A : Around} {E Q : Value → Shared → Prop} {s : Shared} {h₀ : Heap} {L D D2 : Addr} {news : List (Addr × Obj)} {vs : List Value} {ns : List Str} {n n2 : Nat} (N : News h₀ L s.heap news) (hm : (D, listOf vs.toArray n) ∈ news) (hi : StrsAre vs ns) (hm2 : (D2, listOf #[] n2) ∈ news) (hu : A.units + 64 < cLine) (ok : ∀ x ∈ ns, PyData.strOk x = true)
    (h : Q (.bool (!ns.isEmpty)) s) : wpAny (model prog w) A (compareOp .NotEq (.ref D) (.ref D2)) Q E s :=
  ne_dataH_same (reads_strs (N.isList hm) hi) (reads_strs (vs := []) (ns := []) (N.isList hm2) .nil) (shaped_strs ns ok) (shaped_strs [] ok_0) hu (by simp only [SeqAt.noMix]; exact noMix_strs ns) (by simp only [PySem.Spec.same]; rw [same_strs]; exact h)
theorem tell_s0 {k : Nat} : Str.ofString "0x0" = tell k 0 := by
  rw [← tell_0 (k := k) (n := 0) rfl]; decide +kernel

end
example : True := by
  k_with_none
  w_top off
  trivial
example : True := by
  (k_with "lit" => (first | exact rfl | exact lit_0 | exact lit_1 | exact lit_2 | exact lit_6 | exact lit_05))
  (k_with "bd" => (first | assumption | (refine' bsub ?_ ?_ <;> walk_at "bd") | (refine' badd ?_ ?_ <;> walk_at "bd") | exact Nat.le_refl _))
  (k_with "bf" => (first | ((refine' bfit ?b1z3 ?b2z3 ?b3z3); (case b1z3 => walk_at "bd"); (case b2z3 => walk_at "bd"); (case b3z3 => decide)) | omega))
  (k_with "binaryOp Add float float" => (with_plain (refine' s_add ?fxz4 ?fyz4 ?fbz4 ?_; (case fxz4 => walk_at "lit"); (case fyz4 => walk_at "lit"); (case fbz4 => walk_at "bf"); intro t9z4; (try dsimp only))))
  (k_with "binaryOp Sub float float" => (with_plain (refine' s_sub ?fxz5 ?fyz5 ?fbz5 ?_; (case fxz5 => walk_at "lit"); (case fyz5 => walk_at "lit"); (case fbz5 => walk_at "bf"); intro t9z5; (try dsimp only))))
  (k_with "binaryOp Sub float float" => (with_plain (refine' s_sub0 ?fxz6 ?fyz6 ?fbz6 ?_; (case fxz6 => exact rfl); (case fyz6 => walk_at "lit"); (case fbz6 => (refine' Nat.lt_of_le_of_lt ?b1z6 ?b3z6; (case b1z6 => assumption); (case b3z6 => decide))); intro t9z6; (try dsimp only))))
  (k_with "binaryOp Add float float" => (with_plain (refine' s_add0 ?fxz7 ?fyz7 ?fbz7 ?_; (case fxz7 => exact rfl); (case fyz7 => walk_at "lit"); (case fbz7 => (refine' Nat.lt_of_le_of_lt ?b1z7 ?b3z7; (case b1z7 => assumption); (case b3z7 => decide))); intro t9z7; (try dsimp only))))
  (k_with "binaryOp Div float float" => (with_plain (refine' s_div rfl ?fyz8 ?fbz8 ?_; (case fyz8 => walk_at "lit"); (case fbz8 => omega); intro t9z8; (try dsimp only))))
  (k_with "binaryOp Mod float float" => (with_plain (refine' s_mod rfl ?fyz9 ?fbz9 ?_; (case fyz9 => walk_at "lit"); (case fbz9 => omega); intro z9z9 t9z9; (try dsimp only))))
  (k_with "compareOp Lt float float" => (with_plain (refine' s_lt ?fxz10 ?fyz10 ?fbz10 ?_ ?_; (case fxz10 => walk_at "lit"); (case fyz10 => walk_at "lit"); (case fbz10 => walk_at "bf"); (all_goals (intro q9z10; try first | exact absurd q9z10 (by with_reducible assumption) | exact absurd (by with_reducible assumption) q9z10 | exact absurd q9z10 (by decide) | exact absurd (by decide) q9z10 | (exfalso; omega))))))
  (k_with "compareOp Gt float float" => (with_plain (refine' s_gt ?fxz11 ?fyz11 ?fbz11 ?_ ?_; (case fxz11 => walk_at "lit"); (case fyz11 => walk_at "lit"); (case fbz11 => walk_at "bf"); (all_goals (intro q9z11; try first | exact absurd q9z11 (by with_reducible assumption) | exact absurd (by with_reducible assumption) q9z11 | exact absurd q9z11 (by decide) | exact absurd (by decide) q9z11 | (exfalso; omega))))))
  (k_with "compareOp Eq float float" => (with_plain (refine' s_eq ?fxz12 ?fyz12 ?fbz12 ?_ ?_; (case fxz12 => walk_at "lit"); (case fyz12 => walk_at "lit"); (case fbz12 => walk_at "bf"); (all_goals (intro q9z12; try first | exact absurd q9z12 (by with_reducible assumption) | exact absurd (by with_reducible assumption) q9z12 | exact absurd q9z12 (by decide) | exact absurd (by decide) q9z12 | (exfalso; omega))))))
  (k_with "compareOp NotEq float float" => (with_plain (refine' s_ne ?fxz13 ?fyz13 ?fbz13 ?_ ?_; (case fxz13 => walk_at "lit"); (case fyz13 => walk_at "lit"); (case fbz13 => walk_at "bf"); (all_goals (intro q9z13; try first | exact absurd q9z13 (by with_reducible assumption) | exact absurd (by with_reducible assumption) q9z13 | exact absurd q9z13 (by decide) | exact absurd (by decide) q9z13 | (exfalso; omega))))))
  (k_with "compareOp LtE float float" => (with_plain (refine' s_le ?fxz14 ?fyz14 ?fbz14 ?_ ?_; (case fxz14 => walk_at "lit"); (case fyz14 => walk_at "lit"); (case fbz14 => walk_at "bf"); (all_goals (intro q9z14; try first | exact absurd q9z14 (by with_reducible assumption) | exact absurd (by with_reducible assumption) q9z14 | exact absurd q9z14 (by decide) | exact absurd (by decide) q9z14 | (exfalso; omega))))))
  (k_with "call builtin:max" => ((refine' max3_hi rfl ?kFz15 ?kNz15 ?kaz15 ?kbz15 ?kcz15 ?_; (case kFz15 => k_asm); (case kNz15 => k_asm); (case kaz15 => assumption); (case kbz15 => assumption); (case kcz15 => assumption); intro h9z15 tk9z15 t9z15 F9z15 N9z15; (try dsimp only))))
  (k_with "call builtin:min" => ((refine' min3_lo rfl ?kFz16 ?kNz16 ?kaz16 ?kbz16 ?kcz16 ?_; (case kFz16 => k_asm); (case kNz16 => k_asm); (case kaz16 => assumption); (case kbz16 => assumption); (case kcz16 => assumption); intro h9z16 tk9z16 t9z16 F9z16 N9z16; (try dsimp only))))
  (k_with "binaryOp Div float float" => (with_plain ((refine' s_half rfl ?fxz17 ?fyz17 ?fbz17 ?_); (case fxz17 => exact rfl); (case fyz17 => first | exact lit_2 | exact rfl); (case fbz17 => omega); intro t9z17; (try dsimp only))))
  (k_with "binaryOp Mult float float" => (with_plain ((refine' s_two ?fxz18 ?fyz18 ?fbz18 ?_); (case fxz18 => first | exact lit_2 | exact rfl); (case fyz18 => exact rfl); (case fbz18 => omega); intro t9z18; (try dsimp only))))
  (k_with "binaryOp Mult float float" => (with_plain ((refine' s_16 ?fxz19 ?fyz19 ?fbz19 ?_); (case fxz19 => exact rfl); (case fyz19 => exact rfl); (case fbz19 => omega); intro t9z19; (try dsimp only))))
  (k_with "binaryOp Mult float float" => (with_plain ((refine' s_mulz ?fzz20 ?_); (case fzz20 => first | exact mz_0 | exact mz_1 | exact mz_2 | exact mz_3 | exact mz_4 | exact mz_5); intro t9z20; (try dsimp only))))
  (k_with "binaryOp Sub float int" => (with_plain ((refine' s_subint ?fxz21 ?fbz21 ?_); (case fxz21 => exact rfl); (case fbz21 => omega); intro t9z21; (try dsimp only))))
  (k_with "binaryOp Mult int float" => (with_plain ((refine' s_mulint ?fxz22 ?fyz22 ?fbz22 ?_); (case fxz22 => exact rfl); (case fyz22 => exact rfl); (case fbz22 => omega); intro t9z22; (try dsimp only))))
  (k_with "binaryOp Div int int" => (with_plain ((refine' s_divint rfl ?fxz23 ?fbz23 ?_); (case fxz23 => exact rfl); (case fbz23 => omega); intro t9z23; (try dsimp only))))
  (k_with "enter9" => ((refine' code_def ?k1z24 ?k2z24 ?k3z24 ?k4z24 ?k5z24 ?kAz24 ?kFz24 ?kKz24 ?k6z24 ?k7z24 ?k8z24 ?k9z24 ?kBz24 ?_ ?c2z24 ?c3z24 ?c4z24 ?c5z24; (case kAz24 => exact rfl); (case kFz24 => exact rfl); (case kKz24 => first | exact rfl | assumption); (case k1z24 => k_asm); (case k2z24 => k_asm); (case k3z24 => k_asm); (case k4z24 => k_asm); (case k5z24 => k_asm); (case k6z24 => k_is); (case k7z24 => k_is); (case k8z24 => exact (Room.deep (k' := 1) (by assumption) (by decide)).lt); (case k9z24 => exact BindsTo.of_eq rfl); (case c5z24 => decide); (case kBz24 => exact locs rfl); (case c2z24 => exact rfl); (case c3z24 => exact rfl); (case c4z24 => exact rfl); k_whole; intro g'z24 L'z24 h'z24 FG'z24 F'z24 N'z24 B'z24 X'z24 T'z24; (try dsimp only); (try k_fold))))
  (k_with "call ref" => ((k_here; (refine wpAny_call ?_); k_dflt (walk_at "enter9"))))
  trivial

example : True := by
  (k_with "mlook" => (first | with_reducible exact look_at | with_reducible assumption | (refine look_by2 (by decide) ?_; walk_at "mlook") | exact rfl))
  trivial
example : True := by
  (k_with "k_ne" => (first | with_reducible assumption | (refine Ne.symm ?_; with_reducible assumption) | exact ltn (by assumption) (by k_mem) | exact Ne.symm (ltn (by assumption) (by k_mem)) | (refine neN ?_; (try dsimp only); first | with_reducible assumption | (refine Ne.symm ?_; with_reducible assumption) | exact ltn (by assumption) (by k_mem) | exact Ne.symm (ltn (by assumption) (by k_mem)) | omega)))
  trivial
example : True := by
  (k_with "memR" => (first | exact memR0 | (refine memR1 ?_; walk_at "memR")))
  (k_with "subscriptTail Name Name ref int" => ((k_here; with_plain ((refine' s_item ?k1z30 ?k2z30 ?k3z30 ?k4z30 ?_ ?k5z30); (case k1z30 => k_asm); (case k2z30 => first | k_mem | assumption | apply_assumption); (case k3z30 => first | assumption | decide | omega); (case k4z30 => first | assumption | rfl); (case k5z30 => with_unfolding_all rfl)))))
  (k_with "subscriptTail Subscript" => ((k_here; with_plain ((refine' s_item ?k1z31 ?k2z31 ?k3z31 ?k4z31 ?_ ?k5z31); (case k1z31 => k_asm); (case k2z31 => first | k_mem | assumption | apply_assumption); (case k3z31 => first | assumption | decide | omega); (case k4z31 => first | assumption | rfl); (case k5z31 => with_unfolding_all rfl)))))
  (k_with "RangeRest" => (with_plain (first | (refine' RangeRest.succ ?_; intro t'z32 h'z32 tk'z32 F'z32 N'z32) | (refine' RangeRest.zero ?_; intro h'z32 tk'z32 F'z32 N'z32))))
  (k_with "for9" => ((k_here; with_plain ((refine' For_turns ?Fz33 ?_ ?hsz33 ?hEz33); (case Fz33 => k_asm); (case hsz33 => intro _; rfl); (case hEz33 => passes_own); k_whole))))
  (k_with "exec For Tuple List cons nil" => (walk_at "for9"))
  (k_with "exec For Tuple Call cons nil" => (walk_at "for9"))
  (k_with "exec For Tuple Name cons nil" => (walk_at "for9"))
  (k_with "exec For Name List cons nil" => (walk_at "for9"))
  (k_with "pyIter ref" => ((k_here; (with_reducible show wpAny _ _ (pyIter (Value.ref _)) (fun it s₂ => TurnsAt _ _ _ _ _ _ _ _ _ it s₂) _ _); with_plain ((refine' iter_listTurns ?hhz38 ?Fz38 ?Nz38 ?mz38 ?cz38 ?dz38 ?_); (case hhz38 => exact rfl); (case Fz38 => k_asm); (case Nz38 => k_asm); (case mz38 => k_mem); (case cz38 => exact rfl); (case dz38 => exact rfl); (intro i'z38 l1z38); (try k_lt l1z38); (try dsimp only [List.map_cons, List.map_nil])))))
  (k_with "ItemsRest" => (with_plain (first | (refine' ItemsRest.val ?_; intro h'z39 tk'z39 F'z39; ktu_objs) | (refine' ItemsRest.pair ?_; intro T'z39 t'z39 h'z39 tk'z39 hT'z39 F'z39; (try dsimp only at hT'z39); ktu_objs) | (refine' ItemsRest.zero ?_; intro h'z39 tk'z39 F'z39 N'z39))))
  trivial
example : True := by
  (k_with "k_mem9" => (with_reducible ((fail_if_success (show (zz9, _) ∈ _)); first | exact List.Mem.head _ | exact mm1 | exact mm2 | exact mm3 | exact mm4 | exact mm5 | exact mm6 | exact mm7 | exact mm8 | exact mm9 | exact mm10 | exact mm11 | exact mm12 | exact mm13 | exact mm14 | exact mm15 | exact mm16 | exact mm17 | exact mm18 | exact mm19 | exact mm20 | exact mm21 | exact mm22 | exact mm23 | exact mm24)))
  (k_with "k_sub9" => (((fail_if_success (with_reducible exact subNil)); (repeat' (with_reducible first | exact subNil | exact sub0 | refine' subK ?_ | refine' subD ?_)); done)))
  trivial

section
--DROP eval Name
example : True := by
  (k_with "CompSrc" => ((k_here; with_plain (first
      | ((refine' LCg.CompSrc.range ?hhz98 ?Fz98 ?Nz98 ?Rz98 ?h1z98 ?h2z98 ?h3z98 ?_); (case hhz98 => exact rfl); (case Fz98 => k_asm); (case Nz98 => k_asm); (case Rz98 => k_asm); (case h1z98 => decide); (case h2z98 => exact rfl); (case h3z98 => exact Nat.le_of_ble_eq_true rfl); (intro g'z98); lcg_lit)
      | ((refine' LCg.CompSrc.ledger ?hhz98 ?Fz98 ?Nz98 ?mz98 ?h3z98 ?_); (case hhz98 => exact rfl); (case Fz98 => k_asm); (case Nz98 => k_asm); (case mz98 => k_mem); (case h3z98 => exact Nat.le_of_ble_eq_true rfl); (intro g'z98); lcg_lit)))))
  (k_with "CompRest" => ((with_unfolding_all first
      | (refine LCg.CompRest.succ ?_; intro v'z99 I'z99 oI'z99 C'z99 oC'z99 D'z99 m'z99 h'z99 tk'z99 E'z99 hv'z99 hC'z99 hx'z99 F'z99 N'z99 off'z99 ne'z99; (first | lcg_open hv'z99 | (obtain ⟨t9'z99, hv9'z99⟩ := hv'z99; subst hv9'z99)); (have offKz99 := off'z99); (try simp only [LCg.Off3, and_true] at off'z99))
      | refine LCg.CompRest.zero ?_)))
  (k_with "CompEnd" => (with_plain ((refine' LCg.CompEnd.intro ?Fz100 ?Nz100 _ ?uz100 ?oz100 ?Sz100 ?_); (case Fz100 => assumption); (case oz100 => assumption); (case Nz100 => k_asm); (case uz100 => lcg_sub); (case Sz100 => lcg_src))))
  (k_with "subscriptTail Name Name ref int" => ((k_here; with_plain ((refine' s_nm ?Nz101 ?mz101 ?hz101 ?_ ?sz101); (case Nz101 => k_asm); (case mz101 => k_mem); (case hz101 => assumption); (case sz101 => with_unfolding_all rfl); (intro t9z101)))))
  (k_with "binaryOp Mult str int" => ((k_here; (with_reducible show wpAny _ _ (binaryOp _ (Value.str _ _) (Value.int (Int.fdiv _ _) _)) _ _ _); with_plain ((refine' s_mulN ?hz102 ?_); (case hz102 => omega); (intro t9z102 k9z102); (try dsimp only)))))
  (k_with "binaryOp Add str str" => ((k_here; (with_reducible show wpAny _ _ (binaryOp _ (Value.str _ _) (Value.str (Txt.mul _ _) _)) _ _ _); with_plain ((refine' s_catN ?hz103 ?gz103 ?_); (case hz103 => omega); (case gz103 => assumption); (intro t9z103 k9z103); (try dsimp only)))))
  (k_with "call builtin:str.join" => ((k_here; (with_reducible show wpAny _ _ (call (Value.builtin "str.join") [Value.str _ _, Value.ref _]) _ _ _); with_plain ((refine' s_join ?Nz104 ?mz104 ?hiz104 ?hsepz104 ?hwz104 ?_); (case Nz104 => k_asm); (case mz104 => k_mem); (case hiz104 => first | exact .cons _ _ .nil | exact .cons _ _ (.cons _ _ .nil)); (case hsepz104 => decide); (case hwz104 => first | exact jw0 (by omega) | exact jw2 (by omega) | decide +kernel); (intro tj9z104 kj9z104); (try dsimp only)))))
  (k_with "compareOp NotEq ref ref" => ((k_here; with_plain ((refine' s_ne_nil ?Nz105 ?mz105 ?iz105 ?oz105 ?uz105 ?kz105 ?_); (case Nz105 => k_asm); (case mz105 => k_mem); (case iz105 => first | exact .nil | exact .cons _ _ .nil | exact .cons _ _ (.cons _ _ .nil)); (case oz105 => k_mem); (case kz105 => first | exact ok_0 | exact ok_c (ok_flag (by omega)) ok_0 | exact ok_c (ok_flag (by omega)) (ok_c (ok_flag (by omega)) ok_0)); (case uz105 => exact un_le (Room.un9 (by assumption)) rfl); (try dsimp only [List.isEmpty, Bool.not_false, Bool.not_true])))))
  trivial
--LED: [(o, listOf #[] e)]
set_option maxHeartbeats 8000000 in
theorem c_names0 (w : World) (rest : List (Addr × Obj)) (k : Nat) (o : Addr) (e : Nat) (dis : ∀ x ∈ rest, x.1 ∉ [o]) :
    Ctr w 6 116 [.ref o] ((o, listOf #[] e) :: rest) (fun r n => n = (o, listOf #[] e) :: rest ∧ ∃ t, r = .str (tell k 0) t) := by
  refine fillG PySem.Challenge.rw_tr0025_01 hd.heap_39 ?_
  k_fill
  unfold FillG Ctr
  intro mean mg mb dp un gd cn cs a ccd cl outer A₀ base h₀ L m s Q E B F X N T hk hroom hret
  have hlt := hroom.lt
  refine wpAny_call ?_
  have NR := subR N (n' := rest) (by walk_at "memR")
  k_dflt (refine' enterFC (led := [(o, listOf #[] e)]) (rest := rest) ?k1 ?k2 ?k3 ?k4 ?kR ?kX ?k5 ?kA ?kF ?kK ?k6 ?k7 ?k8 ?k9 ?kB ?kD ?_ ?c2 ?c3 ?c4; (case kA => exact rfl); (case kF => exact rfl); (case kK => assumption); (case k1 => k_asm); (case k2 => k_asm); (case k3 => k_asm); (case k4 => exact subN N (by k_subL)); (case kR => exact NR); (case kX => exact dis); (case k5 => k_asm); (case k6 => k_is); (case k7 => k_is); (case k8 => exact hlt); (case k9 => exact BindsTo.of_eq rfl); (case kB => exact rfl); (case kD => decide +kernel); (case c2 => exact rfl); (case c3 => exact rfl); (case c4 => exact rfl); k_whole; intro g' L' h' tk' cells' FG' F' N' Y' B' X' T' l1 hrest; (try k_lt l1))
  have NL := subN N (n' := [(o, listOf #[] e)]) (by k_subL)
  clear N
  obtain ⟨oA, hE, dA⟩ := CellsAre.one Y'
  subst hE
  replace dA : oA.data = .cell none := dA
  simp only [List.cons_append, List.nil_append] at N'
  (try dsimp only)
  (try k_fold)
  k_steps
  all_goals (refine' hret _ _ _ _ ?_ (frame_ret2 NR hrest (by k_asm) NL (by k_asm) (by k_subL)) ⟨rfl, _, congrArg (fun z => Value.str z _) tell_s0⟩; k_asm)

end
example : True := by
  k_with_none
  w_top off
  trivial
example : True := by
  (k_with "lit" => (first | exact rfl | exact lit_0 | exact lit_1 | exact lit_2 | exact lit_6 | exact lit_05))
  (k_with "bd" => (first | assumption | (refine' bsub ?_ ?_ <;> walk_at "bd") | (refine' badd ?_ ?_ <;> walk_at "bd") | exact Nat.le_refl _))
  (k_with "bf" => (first | ((refine' bfit ?b1z3 ?b2z3 ?b3z3); (case b1z3 => walk_at "bd"); (case b2z3 => walk_at "bd"); (case b3z3 => decide)) | omega))
  (k_with "binaryOp Add float float" => (with_plain (refine' s_add ?fxz4 ?fyz4 ?fbz4 ?_; (case fxz4 => walk_at "lit"); (case fyz4 => walk_at "lit"); (case fbz4 => walk_at "bf"); intro t9z4; (try dsimp only))))
  (k_with "binaryOp Sub float float" => (with_plain (refine' s_sub ?fxz5 ?fyz5 ?fbz5 ?_; (case fxz5 => walk_at "lit"); (case fyz5 => walk_at "lit"); (case fbz5 => walk_at "bf"); intro t9z5; (try dsimp only))))
  (k_with "binaryOp Sub float float" => (with_plain (refine' s_sub0 ?fxz6 ?fyz6 ?fbz6 ?_; (case fxz6 => exact rfl); (case fyz6 => walk_at "lit"); (case fbz6 => (refine' Nat.lt_of_le_of_lt ?b1z6 ?b3z6; (case b1z6 => assumption); (case b3z6 => decide))); intro t9z6; (try dsimp only))))
  (k_with "binaryOp Add float float" => (with_plain (refine' s_add0 ?fxz7 ?fyz7 ?fbz7 ?_; (case fxz7 => exact rfl); (case fyz7 => walk_at "lit"); (case fbz7 => (refine' Nat.lt_of_le_of_lt ?b1z7 ?b3z7; (case b1z7 => assumption); (case b3z7 => decide))); intro t9z7; (try dsimp only))))
  (k_with "binaryOp Div float float" => (with_plain (refine' s_div rfl ?fyz8 ?fbz8 ?_; (case fyz8 => walk_at "lit"); (case fbz8 => omega); intro t9z8; (try dsimp only))))
  (k_with "binaryOp Mod float float" => (with_plain (refine' s_mod rfl ?fyz9 ?fbz9 ?_; (case fyz9 => walk_at "lit"); (case fbz9 => omega); intro z9z9 t9z9; (try dsimp only))))
  (k_with "compareOp Lt float float" => (with_plain (refine' s_lt ?fxz10 ?fyz10 ?fbz10 ?_ ?_; (case fxz10 => walk_at "lit"); (case fyz10 => walk_at "lit"); (case fbz10 => walk_at "bf"); (all_goals (intro q9z10; try first | exact absurd q9z10 (by with_reducible assumption) | exact absurd (by with_reducible assumption) q9z10 | exact absurd q9z10 (by decide) | exact absurd (by decide) q9z10 | (exfalso; omega))))))
  (k_with "compareOp Gt float float" => (with_plain (refine' s_gt ?fxz11 ?fyz11 ?fbz11 ?_ ?_; (case fxz11 => walk_at "lit"); (case fyz11 => walk_at "lit"); (case fbz11 => walk_at "bf"); (all_goals (intro q9z11; try first | exact absurd q9z11 (by with_reducible assumption) | exact absurd (by with_reducible assumption) q9z11 | exact absurd q9z11 (by decide) | exact absurd (by decide) q9z11 | (exfalso; omega))))))
  (k_with "compareOp Eq float float" => (with_plain (refine' s_eq ?fxz12 ?fyz12 ?fbz12 ?_ ?_; (case fxz12 => walk_at "lit"); (case fyz12 => walk_at "lit"); (case fbz12 => walk_at "bf"); (all_goals (intro q9z12; try first | exact absurd q9z12 (by with_reducible assumption) | exact absurd (by with_reducible assumption) q9z12 | exact absurd q9z12 (by decide) | exact absurd (by decide) q9z12 | (exfalso; omega))))))
  (k_with "compareOp NotEq float float" => (with_plain (refine' s_ne ?fxz13 ?fyz13 ?fbz13 ?_ ?_; (case fxz13 => walk_at "lit"); (case fyz13 => walk_at "lit"); (case fbz13 => walk_at "bf"); (all_goals (intro q9z13; try first | exact absurd q9z13 (by with_reducible assumption) | exact absurd (by with_reducible assumption) q9z13 | exact absurd q9z13 (by decide) | exact absurd (by decide) q9z13 | (exfalso; omega))))))
  (k_with "compareOp LtE float float" => (with_plain (refine' s_le ?fxz14 ?fyz14 ?fbz14 ?_ ?_; (case fxz14 => walk_at "lit"); (case fyz14 => walk_at "lit"); (case fbz14 => walk_at "bf"); (all_goals (intro q9z14; try first | exact absurd q9z14 (by with_reducible assumption) | exact absurd (by with_reducible assumption) q9z14 | exact absurd q9z14 (by decide) | exact absurd (by decide) q9z14 | (exfalso; omega))))))
  (k_with "call builtin:max" => ((refine' max3_hi rfl ?kFz15 ?kNz15 ?kaz15 ?kbz15 ?kcz15 ?_; (case kFz15 => k_asm); (case kNz15 => k_asm); (case kaz15 => assumption); (case kbz15 => assumption); (case kcz15 => assumption); intro h9z15 tk9z15 t9z15 F9z15 N9z15; (try dsimp only))))
  (k_with "call builtin:min" => ((refine' min3_lo rfl ?kFz16 ?kNz16 ?kaz16 ?kbz16 ?kcz16 ?_; (case kFz16 => k_asm); (case kNz16 => k_asm); (case kaz16 => assumption); (case kbz16 => assumption); (case kcz16 => assumption); intro h9z16 tk9z16 t9z16 F9z16 N9z16; (try dsimp only))))
  (k_with "binaryOp Div float float" => (with_plain ((refine' s_half rfl ?fxz17 ?fyz17 ?fbz17 ?_); (case fxz17 => exact rfl); (case fyz17 => first | exact lit_2 | exact rfl); (case fbz17 => omega); intro t9z17; (try dsimp only))))
  (k_with "binaryOp Mult float float" => (with_plain ((refine' s_two ?fxz18 ?fyz18 ?fbz18 ?_); (case fxz18 => first | exact lit_2 | exact rfl); (case fyz18 => exact rfl); (case fbz18 => omega); intro t9z18; (try dsimp only))))
  (k_with "binaryOp Mult float float" => (with_plain ((refine' s_16 ?fxz19 ?fyz19 ?fbz19 ?_); (case fxz19 => exact rfl); (case fyz19 => exact rfl); (case fbz19 => omega); intro t9z19; (try dsimp only))))
  (k_with "binaryOp Mult float float" => (with_plain ((refine' s_mulz ?fzz20 ?_); (case fzz20 => first | exact mz_0 | exact mz_1 | exact mz_2 | exact mz_3 | exact mz_4 | exact mz_5); intro t9z20; (try dsimp only))))
  (k_with "binaryOp Sub float int" => (with_plain ((refine' s_subint ?fxz21 ?fbz21 ?_); (case fxz21 => exact rfl); (case fbz21 => omega); intro t9z21; (try dsimp only))))
  (k_with "binaryOp Mult int float" => (with_plain ((refine' s_mulint ?fxz22 ?fyz22 ?fbz22 ?_); (case fxz22 => exact rfl); (case fyz22 => exact rfl); (case fbz22 => omega); intro t9z22; (try dsimp only))))
  (k_with "binaryOp Div int int" => (with_plain ((refine' s_divint rfl ?fxz23 ?fbz23 ?_); (case fxz23 => exact rfl); (case fbz23 => omega); intro t9z23; (try dsimp only))))
  (k_with "enter9" => ((refine' code_def ?k1z24 ?k2z24 ?k3z24 ?k4z24 ?k5z24 ?kAz24 ?kFz24 ?kKz24 ?k6z24 ?k7z24 ?k8z24 ?k9z24 ?kBz24 ?_ ?c2z24 ?c3z24 ?c4z24 ?c5z24; (case kAz24 => exact rfl); (case kFz24 => exact rfl); (case kKz24 => first | exact rfl | assumption); (case k1z24 => k_asm); (case k2z24 => k_asm); (case k3z24 => k_asm); (case k4z24 => k_asm); (case k5z24 => k_asm); (case k6z24 => k_is); (case k7z24 => k_is); (case k8z24 => exact (Room.deep (k' := 1) (by assumption) (by decide)).lt); (case k9z24 => exact BindsTo.of_eq rfl); (case c5z24 => decide); (case kBz24 => exact locs rfl); (case c2z24 => exact rfl); (case c3z24 => exact rfl); (case c4z24 => exact rfl); k_whole; intro g'z24 L'z24 h'z24 FG'z24 F'z24 N'z24 B'z24 X'z24 T'z24; (try dsimp only); (try k_fold))))
  (k_with "call ref" => ((k_here; (refine wpAny_call ?_); k_dflt (walk_at "enter9"))))
  trivial

example : True := by
  (k_with "mlook" => (first | with_reducible exact look_at | with_reducible assumption | (refine look_by2 (by decide) ?_; walk_at "mlook") | exact rfl))
  trivial
example : True := by
  (k_with "k_ne" => (first | with_reducible assumption | (refine Ne.symm ?_; with_reducible assumption) | exact ltn (by assumption) (by k_mem) | exact Ne.symm (ltn (by assumption) (by k_mem)) | (refine neN ?_; (try dsimp only); first | with_reducible assumption | (refine Ne.symm ?_; with_reducible assumption) | exact ltn (by assumption) (by k_mem) | exact Ne.symm (ltn (by assumption) (by k_mem)) | omega)))
  trivial
example : True := by
  (k_with "memR" => (first | exact memR0 | (refine memR1 ?_; walk_at "memR")))
  (k_with "subscriptTail Name Name ref int" => ((k_here; with_plain ((refine' s_item ?k1z30 ?k2z30 ?k3z30 ?k4z30 ?_ ?k5z30); (case k1z30 => k_asm); (case k2z30 => first | k_mem | assumption | apply_assumption); (case k3z30 => first | assumption | decide | omega); (case k4z30 => first | assumption | rfl); (case k5z30 => with_unfolding_all rfl)))))
  (k_with "subscriptTail Subscript" => ((k_here; with_plain ((refine' s_item ?k1z31 ?k2z31 ?k3z31 ?k4z31 ?_ ?k5z31); (case k1z31 => k_asm); (case k2z31 => first | k_mem | assumption | apply_assumption); (case k3z31 => first | assumption | decide | omega); (case k4z31 => first | assumption | rfl); (case k5z31 => with_unfolding_all rfl)))))
  (k_with "RangeRest" => (with_plain (first | (refine' RangeRest.succ ?_; intro t'z32 h'z32 tk'z32 F'z32 N'z32) | (refine' RangeRest.zero ?_; intro h'z32 tk'z32 F'z32 N'z32))))
  (k_with "for9" => ((k_here; with_plain ((refine' For_turns ?Fz33 ?_ ?hsz33 ?hEz33); (case Fz33 => k_asm); (case hsz33 => intro _; rfl); (case hEz33 => passes_own); k_whole))))
  (k_with "exec For Tuple List cons nil" => (walk_at "for9"))
  (k_with "exec For Tuple Call cons nil" => (walk_at "for9"))
  (k_with "exec For Tuple Name cons nil" => (walk_at "for9"))
  (k_with "exec For Name List cons nil" => (walk_at "for9"))
  (k_with "pyIter ref" => ((k_here; (with_reducible show wpAny _ _ (pyIter (Value.ref _)) (fun it s₂ => TurnsAt _ _ _ _ _ _ _ _ _ it s₂) _ _); with_plain ((refine' iter_listTurns ?hhz38 ?Fz38 ?Nz38 ?mz38 ?cz38 ?dz38 ?_); (case hhz38 => exact rfl); (case Fz38 => k_asm); (case Nz38 => k_asm); (case mz38 => k_mem); (case cz38 => exact rfl); (case dz38 => exact rfl); (intro i'z38 l1z38); (try k_lt l1z38); (try dsimp only [List.map_cons, List.map_nil])))))
  (k_with "ItemsRest" => (with_plain (first | (refine' ItemsRest.val ?_; intro h'z39 tk'z39 F'z39; ktu_objs) | (refine' ItemsRest.pair ?_; intro T'z39 t'z39 h'z39 tk'z39 hT'z39 F'z39; (try dsimp only at hT'z39); ktu_objs) | (refine' ItemsRest.zero ?_; intro h'z39 tk'z39 F'z39 N'z39))))
  trivial
example : True := by
  (k_with "k_mem9" => (with_reducible ((fail_if_success (show (zz9, _) ∈ _)); first | exact List.Mem.head _ | exact mm1 | exact mm2 | exact mm3 | exact mm4 | exact mm5 | exact mm6 | exact mm7 | exact mm8 | exact mm9 | exact mm10 | exact mm11 | exact mm12 | exact mm13 | exact mm14 | exact mm15 | exact mm16 | exact mm17 | exact mm18 | exact mm19 | exact mm20 | exact mm21 | exact mm22 | exact mm23 | exact mm24)))
  (k_with "k_sub9" => (((fail_if_success (with_reducible exact subNil)); (repeat' (with_reducible first | exact subNil | exact sub0 | refine' subK ?_ | refine' subD ?_)); done)))
  trivial

section
--DROP eval Name
example : True := by
  (k_with "CompSrc" => ((k_here; with_plain (first
      | ((refine' LCg.CompSrc.range ?hhz106 ?Fz106 ?Nz106 ?Rz106 ?h1z106 ?h2z106 ?h3z106 ?_); (case hhz106 => exact rfl); (case Fz106 => k_asm); (case Nz106 => k_asm); (case Rz106 => k_asm); (case h1z106 => decide); (case h2z106 => exact rfl); (case h3z106 => exact Nat.le_of_ble_eq_true rfl); (intro g'z106); lcg_lit)
      | ((refine' LCg.CompSrc.ledger ?hhz106 ?Fz106 ?Nz106 ?mz106 ?h3z106 ?_); (case hhz106 => exact rfl); (case Fz106 => k_asm); (case Nz106 => k_asm); (case mz106 => k_mem); (case h3z106 => exact Nat.le_of_ble_eq_true rfl); (intro g'z106); lcg_lit)))))
  (k_with "CompRest" => ((with_unfolding_all first
      | (refine LCg.CompRest.succ ?_; intro v'z107 I'z107 oI'z107 C'z107 oC'z107 D'z107 m'z107 h'z107 tk'z107 E'z107 hv'z107 hC'z107 hx'z107 F'z107 N'z107 off'z107 ne'z107; (first | lcg_open hv'z107 | (obtain ⟨t9'z107, hv9'z107⟩ := hv'z107; subst hv9'z107)); (have offKz107 := off'z107); (try simp only [LCg.Off3, and_true] at off'z107))
      | refine LCg.CompRest.zero ?_)))
  (k_with "CompEnd" => (with_plain ((refine' LCg.CompEnd.intro ?Fz108 ?Nz108 _ ?uz108 ?oz108 ?Sz108 ?_); (case Fz108 => assumption); (case oz108 => assumption); (case Nz108 => k_asm); (case uz108 => lcg_sub); (case Sz108 => lcg_src))))
  (k_with "subscriptTail Name Name ref int" => ((k_here; with_plain ((refine' s_nm ?Nz109 ?mz109 ?hz109 ?_ ?sz109); (case Nz109 => k_asm); (case mz109 => k_mem); (case hz109 => assumption); (case sz109 => with_unfolding_all rfl); (intro t9z109)))))
  (k_with "binaryOp Mult str int" => ((k_here; (with_reducible show wpAny _ _ (binaryOp _ (Value.str _ _) (Value.int (Int.fdiv _ _) _)) _ _ _); with_plain ((refine' s_mulN ?hz110 ?_); (case hz110 => omega); (intro t9z110 k9z110); (try dsimp only)))))
  (k_with "binaryOp Add str str" => ((k_here; (with_reducible show wpAny _ _ (binaryOp _ (Value.str _ _) (Value.str (Txt.mul _ _) _)) _ _ _); with_plain ((refine' s_catN ?hz111 ?gz111 ?_); (case hz111 => omega); (case gz111 => assumption); (intro t9z111 k9z111); (try dsimp only)))))
  (k_with "call builtin:str.join" => ((k_here; (with_reducible show wpAny _ _ (call (Value.builtin "str.join") [Value.str _ _, Value.ref _]) _ _ _); with_plain ((refine' s_join ?Nz112 ?mz112 ?hiz112 ?hsepz112 ?hwz112 ?_); (case Nz112 => k_asm); (case mz112 => k_mem); (case hiz112 => first | exact .cons _ _ .nil | exact .cons _ _ (.cons _ _ .nil)); (case hsepz112 => decide); (case hwz112 => first | exact jw0 (by omega) | exact jw2 (by omega) | decide +kernel); (intro tj9z112 kj9z112); (try dsimp only)))))
  (k_with "compareOp NotEq ref ref" => ((k_here; with_plain ((refine' s_ne_nil ?Nz113 ?mz113 ?iz113 ?oz113 ?uz113 ?kz113 ?_); (case Nz113 => k_asm); (case mz113 => k_mem); (case iz113 => first | exact .nil | exact .cons _ _ .nil | exact .cons _ _ (.cons _ _ .nil)); (case oz113 => k_mem); (case kz113 => first | exact ok_0 | exact ok_c (ok_flag (by omega)) ok_0 | exact ok_c (ok_flag (by omega)) (ok_c (ok_flag (by omega)) ok_0)); (case uz113 => exact un_le (Room.un9 (by assumption)) rfl); (try dsimp only [List.isEmpty, Bool.not_false, Bool.not_true])))))
  trivial
--LED: [(o, listOf #[.int (k : Int) t0] e)]
set_option maxHeartbeats 8000000 in
theorem c_names1 (w : World) (rest : List (Addr × Obj)) (k : Nat) (x : Int) (t0 : Tok) (o : Addr) (e : Nat) (hk32 : k < 32) (hx : x = (k : Int)) (dis : ∀ x ∈ rest, x.1 ∉ [o]) :
    Ctr w 6 116 [.ref o] ((o, listOf #[.int x t0] e) :: rest) (fun r n => n = (o, listOf #[.int x t0] e) :: rest ∧ ∃ t, r = .str (tell k 1) t) := by
  subst hx
  refine fillG PySem.Challenge.rw_tr0025_01 hd.heap_39 ?_
  k_fill
  unfold FillG Ctr
  intro mean mg mb dp un gd cn cs a ccd cl outer A₀ base h₀ L m s Q E B F X N T hk hroom hret
  have hlt := hroom.lt
  refine wpAny_call ?_
  have NR := subR N (n' := rest) (by walk_at "memR")
  k_dflt (refine' enterFC (led := [(o, listOf #[.int (k : Int) t0] e)]) (rest := rest) ?k1 ?k2 ?k3 ?k4 ?kR ?kX ?k5 ?kA ?kF ?kK ?k6 ?k7 ?k8 ?k9 ?kB ?kD ?_ ?c2 ?c3 ?c4; (case kA => exact rfl); (case kF => exact rfl); (case kK => assumption); (case k1 => k_asm); (case k2 => k_asm); (case k3 => k_asm); (case k4 => exact subN N (by k_subL)); (case kR => exact NR); (case kX => exact dis); (case k5 => k_asm); (case k6 => k_is); (case k7 => k_is); (case k8 => exact hlt); (case k9 => exact BindsTo.of_eq rfl); (case kB => exact rfl); (case kD => decide +kernel); (case c2 => exact rfl); (case c3 => exact rfl); (case c4 => exact rfl); k_whole; intro g' L' h' tk' cells' FG' F' N' Y' B' X' T' l1 hrest; (try k_lt l1))
  have NL := subN N (n' := [(o, listOf #[.int (k : Int) t0] e)]) (by k_subL)
  clear N
  obtain ⟨oA, hE, dA⟩ := CellsAre.one Y'
  subst hE
  replace dA : oA.data = .cell none := dA
  simp only [List.cons_append, List.nil_append] at N'
  (try dsimp only)
  (try k_fold)
  k_steps
  all_goals (refine' hret _ _ _ _ ?_ (frame_ret2 NR hrest (by k_asm) NL (by k_asm) (by k_subL)) ⟨rfl, _, congrArg (fun z => Value.str z _) (tell_1 ⟨rfl, rfl⟩)⟩; k_asm)

end
example : True := by
  k_with_none
  w_top off
  trivial
example : True := by
  (k_with "lit" => (first | exact rfl | exact lit_0 | exact lit_1 | exact lit_2 | exact lit_6 | exact lit_05))
  (k_with "bd" => (first | assumption | (refine' bsub ?_ ?_ <;> walk_at "bd") | (refine' badd ?_ ?_ <;> walk_at "bd") | exact Nat.le_refl _))
  (k_with "bf" => (first | ((refine' bfit ?b1z3 ?b2z3 ?b3z3); (case b1z3 => walk_at "bd"); (case b2z3 => walk_at "bd"); (case b3z3 => decide)) | omega))
  (k_with "binaryOp Add float float" => (with_plain (refine' s_add ?fxz4 ?fyz4 ?fbz4 ?_; (case fxz4 => walk_at "lit"); (case fyz4 => walk_at "lit"); (case fbz4 => walk_at "bf"); intro t9z4; (try dsimp only))))
  (k_with "binaryOp Sub float float" => (with_plain (refine' s_sub ?fxz5 ?fyz5 ?fbz5 ?_; (case fxz5 => walk_at "lit"); (case fyz5 => walk_at "lit"); (case fbz5 => walk_at "bf"); intro t9z5; (try dsimp only))))
  (k_with "binaryOp Sub float float" => (with_plain (refine' s_sub0 ?fxz6 ?fyz6 ?fbz6 ?_; (case fxz6 => exact rfl); (case fyz6 => walk_at "lit"); (case fbz6 => (refine' Nat.lt_of_le_of_lt ?b1z6 ?b3z6; (case b1z6 => assumption); (case b3z6 => decide))); intro t9z6; (try dsimp only))))
  (k_with "binaryOp Add float float" => (with_plain (refine' s_add0 ?fxz7 ?fyz7 ?fbz7 ?_; (case fxz7 => exact rfl); (case fyz7 => walk_at "lit"); (case fbz7 => (refine' Nat.lt_of_le_of_lt ?b1z7 ?b3z7; (case b1z7 => assumption); (case b3z7 => decide))); intro t9z7; (try dsimp only))))
  (k_with "binaryOp Div float float" => (with_plain (refine' s_div rfl ?fyz8 ?fbz8 ?_; (case fyz8 => walk_at "lit"); (case fbz8 => omega); intro t9z8; (try dsimp only))))
  (k_with "binaryOp Mod float float" => (with_plain (refine' s_mod rfl ?fyz9 ?fbz9 ?_; (case fyz9 => walk_at "lit"); (case fbz9 => omega); intro z9z9 t9z9; (try dsimp only))))
  (k_with "compareOp Lt float float" => (with_plain (refine' s_lt ?fxz10 ?fyz10 ?fbz10 ?_ ?_; (case fxz10 => walk_at "lit"); (case fyz10 => walk_at "lit"); (case fbz10 => walk_at "bf"); (all_goals (intro q9z10; try first | exact absurd q9z10 (by with_reducible assumption) | exact absurd (by with_reducible assumption) q9z10 | exact absurd q9z10 (by decide) | exact absurd (by decide) q9z10 | (exfalso; omega))))))
  (k_with "compareOp Gt float float" => (with_plain (refine' s_gt ?fxz11 ?fyz11 ?fbz11 ?_ ?_; (case fxz11 => walk_at "lit"); (case fyz11 => walk_at "lit"); (case fbz11 => walk_at "bf"); (all_goals (intro q9z11; try first | exact absurd q9z11 (by with_reducible assumption) | exact absurd (by with_reducible assumption) q9z11 | exact absurd q9z11 (by decide) | exact absurd (by decide) q9z11 | (exfalso; omega))))))
  (k_with "compareOp Eq float float" => (with_plain (refine' s_eq ?fxz12 ?fyz12 ?fbz12 ?_ ?_; (case fxz12 => walk_at "lit"); (case fyz12 => walk_at "lit"); (case fbz12 => walk_at "bf"); (all_goals (intro q9z12; try first | exact absurd q9z12 (by with_reducible assumption) | exact absurd (by with_reducible assumption) q9z12 | exact absurd q9z12 (by decide) | exact absurd (by decide) q9z12 | (exfalso; omega))))))
  (k_with "compareOp NotEq float float" => (with_plain (refine' s_ne ?fxz13 ?fyz13 ?fbz13 ?_ ?_; (case fxz13 => walk_at "lit"); (case fyz13 => walk_at "lit"); (case fbz13 => walk_at "bf"); (all_goals (intro q9z13; try first | exact absurd q9z13 (by with_reducible assumption) | exact absurd (by with_reducible assumption) q9z13 | exact absurd q9z13 (by decide) | exact absurd (by decide) q9z13 | (exfalso; omega))))))
  (k_with "compareOp LtE float float" => (with_plain (refine' s_le ?fxz14 ?fyz14 ?fbz14 ?_ ?_; (case fxz14 => walk_at "lit"); (case fyz14 => walk_at "lit"); (case fbz14 => walk_at "bf"); (all_goals (intro q9z14; try first | exact absurd q9z14 (by with_reducible assumption) | exact absurd (by with_reducible assumption) q9z14 | exact absurd q9z14 (by decide) | exact absurd (by decide) q9z14 | (exfalso; omega))))))
  (k_with "call builtin:max" => ((refine' max3_hi rfl ?kFz15 ?kNz15 ?kaz15 ?kbz15 ?kcz15 ?_; (case kFz15 => k_asm); (case kNz15 => k_asm); (case kaz15 => assumption); (case kbz15 => assumption); (case kcz15 => assumption); intro h9z15 tk9z15 t9z15 F9z15 N9z15; (try dsimp only))))
  (k_with "call builtin:min" => ((refine' min3_lo rfl ?kFz16 ?kNz16 ?kaz16 ?kbz16 ?kcz16 ?_; (case kFz16 => k_asm); (case kNz16 => k_asm); (case kaz16 => assumption); (case kbz16 => assumption); (case kcz16 => assumption); intro h9z16 tk9z16 t9z16 F9z16 N9z16; (try dsimp only))))
  (k_with "binaryOp Div float float" => (with_plain ((refine' s_half rfl ?fxz17 ?fyz17 ?fbz17 ?_); (case fxz17 => exact rfl); (case fyz17 => first | exact lit_2 | exact rfl); (case fbz17 => omega); intro t9z17; (try dsimp only))))
  (k_with "binaryOp Mult float float" => (with_plain ((refine' s_two ?fxz18 ?fyz18 ?fbz18 ?_); (case fxz18 => first | exact lit_2 | exact rfl); (case fyz18 => exact rfl); (case fbz18 => omega); intro t9z18; (try dsimp only))))
  (k_with "binaryOp Mult float float" => (with_plain ((refine' s_16 ?fxz19 ?fyz19 ?fbz19 ?_); (case fxz19 => exact rfl); (case fyz19 => exact rfl); (case fbz19 => omega); intro t9z19; (try dsimp only))))
  (k_with "binaryOp Mult float float" => (with_plain ((refine' s_mulz ?fzz20 ?_); (case fzz20 => first | exact mz_0 | exact mz_1 | exact mz_2 | exact mz_3 | exact mz_4 | exact mz_5); intro t9z20; (try dsimp only))))
  (k_with "binaryOp Sub float int" => (with_plain ((refine' s_subint ?fxz21 ?fbz21 ?_); (case fxz21 => exact rfl); (case fbz21 => omega); intro t9z21; (try dsimp only))))
  (k_with "binaryOp Mult int float" => (with_plain ((refine' s_mulint ?fxz22 ?fyz22 ?fbz22 ?_); (case fxz22 => exact rfl); (case fyz22 => exact rfl); (case fbz22 => omega); intro t9z22; (try dsimp only))))
  (k_with "binaryOp Div int int" => (with_plain ((refine' s_divint rfl ?fxz23 ?fbz23 ?_); (case fxz23 => exact rfl); (case fbz23 => omega); intro t9z23; (try dsimp only))))
  (k_with "enter9" => ((refine' code_def ?k1z24 ?k2z24 ?k3z24 ?k4z24 ?k5z24 ?kAz24 ?kFz24 ?kKz24 ?k6z24 ?k7z24 ?k8z24 ?k9z24 ?kBz24 ?_ ?c2z24 ?c3z24 ?c4z24 ?c5z24; (case kAz24 => exact rfl); (case kFz24 => exact rfl); (case kKz24 => first | exact rfl | assumption); (case k1z24 => k_asm); (case k2z24 => k_asm); (case k3z24 => k_asm); (case k4z24 => k_asm); (case k5z24 => k_asm); (case k6z24 => k_is); (case k7z24 => k_is); (case k8z24 => exact (Room.deep (k' := 1) (by assumption) (by decide)).lt); (case k9z24 => exact BindsTo.of_eq rfl); (case c5z24 => decide); (case kBz24 => exact locs rfl); (case c2z24 => exact rfl); (case c3z24 => exact rfl); (case c4z24 => exact rfl); k_whole; intro g'z24 L'z24 h'z24 FG'z24 F'z24 N'z24 B'z24 X'z24 T'z24; (try dsimp only); (try k_fold))))
  (k_with "call ref" => ((k_here; (refine wpAny_call ?_); k_dflt (walk_at "enter9"))))
  trivial

example : True := by
  (k_with "mlook" => (first | with_reducible exact look_at | with_reducible assumption | (refine look_by2 (by decide) ?_; walk_at "mlook") | exact rfl))
  trivial
example : True := by
  (k_with "k_ne" => (first | with_reducible assumption | (refine Ne.symm ?_; with_reducible assumption) | exact ltn (by assumption) (by k_mem) | exact Ne.symm (ltn (by assumption) (by k_mem)) | (refine neN ?_; (try dsimp only); first | with_reducible assumption | (refine Ne.symm ?_; with_reducible assumption) | exact ltn (by assumption) (by k_mem) | exact Ne.symm (ltn (by assumption) (by k_mem)) | omega)))
  trivial
example : True := by
  (k_with "memR" => (first | exact memR0 | (refine memR1 ?_; walk_at "memR")))
  (k_with "subscriptTail Name Name ref int" => ((k_here; with_plain ((refine' s_item ?k1z30 ?k2z30 ?k3z30 ?k4z30 ?_ ?k5z30); (case k1z30 => k_asm); (case k2z30 => first | k_mem | assumption | apply_assumption); (case k3z30 => first | assumption | decide | omega); (case k4z30 => first | assumption | rfl); (case k5z30 => with_unfolding_all rfl)))))
  (k_with "subscriptTail Subscript" => ((k_here; with_plain ((refine' s_item ?k1z31 ?k2z31 ?k3z31 ?k4z31 ?_ ?k5z31); (case k1z31 => k_asm); (case k2z31 => first | k_mem | assumption | apply_assumption); (case k3z31 => first | assumption | decide | omega); (case k4z31 => first | assumption | rfl); (case k5z31 => with_unfolding_all rfl)))))
  (k_with "RangeRest" => (with_plain (first | (refine' RangeRest.succ ?_; intro t'z32 h'z32 tk'z32 F'z32 N'z32) | (refine' RangeRest.zero ?_; intro h'z32 tk'z32 F'z32 N'z32))))
  (k_with "for9" => ((k_here; with_plain ((refine' For_turns ?Fz33 ?_ ?hsz33 ?hEz33); (case Fz33 => k_asm); (case hsz33 => intro _; rfl); (case hEz33 => passes_own); k_whole))))
  (k_with "exec For Tuple List cons nil" => (walk_at "for9"))
  (k_with "exec For Tuple Call cons nil" => (walk_at "for9"))
  (k_with "exec For Tuple Name cons nil" => (walk_at "for9"))
  (k_with "exec For Name List cons nil" => (walk_at "for9"))
  (k_with "pyIter ref" => ((k_here; (with_reducible show wpAny _ _ (pyIter (Value.ref _)) (fun it s₂ => TurnsAt _ _ _ _ _ _ _ _ _ it s₂) _ _); with_plain ((refine' iter_listTurns ?hhz38 ?Fz38 ?Nz38 ?mz38 ?cz38 ?dz38 ?_); (case hhz38 => exact rfl); (case Fz38 => k_asm); (case Nz38 => k_asm); (case mz38 => k_mem); (case cz38 => exact rfl); (case dz38 => exact rfl); (intro i'z38 l1z38); (try k_lt l1z38); (try dsimp only [List.map_cons, List.map_nil])))))
  (k_with "ItemsRest" => (with_plain (first | (refine' ItemsRest.val ?_; intro h'z39 tk'z39 F'z39; ktu_objs) | (refine' ItemsRest.pair ?_; intro T'z39 t'z39 h'z39 tk'z39 hT'z39 F'z39; (try dsimp only at hT'z39); ktu_objs) | (refine' ItemsRest.zero ?_; intro h'z39 tk'z39 F'z39 N'z39))))
  trivial
example : True := by
  (k_with "k_mem9" => (with_reducible ((fail_if_success (show (zz9, _) ∈ _)); first | exact List.Mem.head _ | exact mm1 | exact mm2 | exact mm3 | exact mm4 | exact mm5 | exact mm6 | exact mm7 | exact mm8 | exact mm9 | exact mm10 | exact mm11 | exact mm12 | exact mm13 | exact mm14 | exact mm15 | exact mm16 | exact mm17 | exact mm18 | exact mm19 | exact mm20 | exact mm21 | exact mm22 | exact mm23 | exact mm24)))
  (k_with "k_sub9" => (((fail_if_success (with_reducible exact subNil)); (repeat' (with_reducible first | exact subNil | exact sub0 | refine' subK ?_ | refine' subD ?_)); done)))
  trivial

section
--DROP eval Name
example : True := by
  (k_with "CompSrc" => ((k_here; with_plain (first
      | ((refine' LCg.CompSrc.range ?hhz114 ?Fz114 ?Nz114 ?Rz114 ?h1z114 ?h2z114 ?h3z114 ?_); (case hhz114 => exact rfl); (case Fz114 => k_asm); (case Nz114 => k_asm); (case Rz114 => k_asm); (case h1z114 => decide); (case h2z114 => exact rfl); (case h3z114 => exact Nat.le_of_ble_eq_true rfl); (intro g'z114); lcg_lit)
      | ((refine' LCg.CompSrc.ledger ?hhz114 ?Fz114 ?Nz114 ?mz114 ?h3z114 ?_); (case hhz114 => exact rfl); (case Fz114 => k_asm); (case Nz114 => k_asm); (case mz114 => k_mem); (case h3z114 => exact Nat.le_of_ble_eq_true rfl); (intro g'z114); lcg_lit)))))
  (k_with "CompRest" => ((with_unfolding_all first
      | (refine LCg.CompRest.succ ?_; intro v'z115 I'z115 oI'z115 C'z115 oC'z115 D'z115 m'z115 h'z115 tk'z115 E'z115 hv'z115 hC'z115 hx'z115 F'z115 N'z115 off'z115 ne'z115; (first | lcg_open hv'z115 | (obtain ⟨t9'z115, hv9'z115⟩ := hv'z115; subst hv9'z115)); (have offKz115 := off'z115); (try simp only [LCg.Off3, and_true] at off'z115))
      | refine LCg.CompRest.zero ?_)))
  (k_with "CompEnd" => (with_plain ((refine' LCg.CompEnd.intro ?Fz116 ?Nz116 _ ?uz116 ?oz116 ?Sz116 ?_); (case Fz116 => assumption); (case oz116 => assumption); (case Nz116 => k_asm); (case uz116 => lcg_sub); (case Sz116 => lcg_src))))
  (k_with "subscriptTail Name Name ref int" => ((k_here; with_plain ((refine' s_nm ?Nz117 ?mz117 ?hz117 ?_ ?sz117); (case Nz117 => k_asm); (case mz117 => k_mem); (case hz117 => assumption); (case sz117 => with_unfolding_all rfl); (intro t9z117)))))
  (k_with "binaryOp Mult str int" => ((k_here; (with_reducible show wpAny _ _ (binaryOp _ (Value.str _ _) (Value.int (Int.fdiv _ _) _)) _ _ _); with_plain ((refine' s_mulN ?hz118 ?_); (case hz118 => omega); (intro t9z118 k9z118); (try dsimp only)))))
  (k_with "binaryOp Add str str" => ((k_here; (with_reducible show wpAny _ _ (binaryOp _ (Value.str _ _) (Value.str (Txt.mul _ _) _)) _ _ _); with_plain ((refine' s_catN ?hz119 ?gz119 ?_); (case hz119 => omega); (case gz119 => first | assumption | omega); (intro t9z119 k9z119); (try dsimp only)))))
  (k_with "call builtin:str.join" => ((k_here; (with_reducible show wpAny _ _ (call (Value.builtin "str.join") [Value.str _ _, Value.ref _]) _ _ _); with_plain ((refine' s_join ?Nz120 ?mz120 ?hiz120 ?hsepz120 ?hwz120 ?_); (case Nz120 => k_asm); (case mz120 => k_mem); (case hiz120 => first | exact .cons _ _ .nil | exact .cons _ _ (.cons _ _ .nil)); (case hsepz120 => decide); (case hwz120 => first | exact jw0 (by omega) | exact jw2 (by omega) | decide +kernel); (intro tj9z120 kj9z120); (try dsimp only)))))
  (k_with "compareOp NotEq ref ref" => ((k_here; with_plain ((refine' s_ne_nil ?Nz121 ?mz121 ?iz121 ?oz121 ?uz121 ?kz121 ?_); (case Nz121 => k_asm); (case mz121 => k_mem); (case iz121 => first | exact .nil | exact .cons _ _ .nil | exact .cons _ _ (.cons _ _ .nil)); (case oz121 => k_mem); (case kz121 => first | exact ok_0 | exact ok_c (ok_flag (by omega)) ok_0 | exact ok_c (ok_flag (by omega)) (ok_c (ok_flag (by omega)) ok_0)); (case uz121 => exact un_le (Room.un9 (by assumption)) rfl); (try dsimp only [List.isEmpty, Bool.not_false, Bool.not_true])))))
  trivial
--LED: [(o, listOf #[.int (k : Int) t0, .int ((k + 1 : Nat) : Int) t1] e)]
set_option maxHeartbeats 8000000 in
theorem c_names2 (w : World) (rest : List (Addr × Obj)) (k : Nat) (x y : Int) (t0 t1 : Tok) (o : Addr) (e : Nat) (hk32 : k + 1 < 32) (hx : x = (k : Int)) (hy : y = ((k + 1 : Nat) : Int)) (dis : ∀ x ∈ rest, x.1 ∉ [o]) :
    Ctr w 6 116 [.ref o] ((o, listOf #[.int x t0, .int y t1] e) :: rest) (fun r n => n = (o, listOf #[.int x t0, .int y t1] e) :: rest ∧ ∃ t, r = .str (tell k 2) t) := by
  subst hx hy
  refine fillG PySem.Challenge.rw_tr0025_01 hd.heap_39 ?_
  k_fill
  unfold FillG Ctr
  intro mean mg mb dp un gd cn cs a ccd cl outer A₀ base h₀ L m s Q E B F X N T hk hroom hret
  have hlt := hroom.lt
  refine wpAny_call ?_
  have NR := subR N (n' := rest) (by walk_at "memR")
  k_dflt (refine' enterFC (led := [(o, listOf #[.int (k : Int) t0, .int ((k + 1 : Nat) : Int) t1] e)]) (rest := rest) ?k1 ?k2 ?k3 ?k4 ?kR ?kX ?k5 ?kA ?kF ?kK ?k6 ?k7 ?k8 ?k9 ?kB ?kD ?_ ?c2 ?c3 ?c4; (case kA => exact rfl); (case kF => exact rfl); (case kK => assumption); (case k1 => k_asm); (case k2 => k_asm); (case k3 => k_asm); (case k4 => exact subN N (by k_subL)); (case kR => exact NR); (case kX => exact dis); (case k5 => k_asm); (case k6 => k_is); (case k7 => k_is); (case k8 => exact hlt); (case k9 => exact BindsTo.of_eq rfl); (case kB => exact rfl); (case kD => decide +kernel); (case c2 => exact rfl); (case c3 => exact rfl); (case c4 => exact rfl); k_whole; intro g' L' h' tk' cells' FG' F' N' Y' B' X' T' l1 hrest; (try k_lt l1))
  have NL := subN N (n' := [(o, listOf #[.int (k : Int) t0, .int ((k + 1 : Nat) : Int) t1] e)]) (by k_subL)
  clear N
  obtain ⟨oA, hE, dA⟩ := CellsAre.one Y'
  subst hE
  replace dA : oA.data = .cell none := dA
  simp only [List.cons_append, List.nil_append] at N'
  (try dsimp only)
  (try k_fold)
  k_steps
  all_goals (refine' hret _ _ _ _ ?_ (frame_ret2 NR hrest (by k_asm) NL (by k_asm) (by k_subL)) ⟨rfl, _, congrArg (fun z => Value.str z _) (tell_2 ⟨rfl, rfl⟩)⟩; k_asm)

end
example : True := by
  k_with_none
  w_top off
  trivial
example : True := by
  (k_with "lit" => (first | exact rfl | exact lit_0 | exact lit_1 | exact lit_2 | exact lit_6 | exact lit_05))
  (k_with "bd" => (first | assumption | (refine' bsub ?_ ?_ <;> walk_at "bd") | (refine' badd ?_ ?_ <;> walk_at "bd") | exact Nat.le_refl _))
  (k_with "bf" => (first | ((refine' bfit ?b1z3 ?b2z3 ?b3z3); (case b1z3 => walk_at "bd"); (case b2z3 => walk_at "bd"); (case b3z3 => decide)) | omega))
  (k_with "binaryOp Add float float" => (with_plain (refine' s_add ?fxz4 ?fyz4 ?fbz4 ?_; (case fxz4 => walk_at "lit"); (case fyz4 => walk_at "lit"); (case fbz4 => walk_at "bf"); intro t9z4; (try dsimp only))))
  (k_with "binaryOp Sub float float" => (with_plain (refine' s_sub ?fxz5 ?fyz5 ?fbz5 ?_; (case fxz5 => walk_at "lit"); (case fyz5 => walk_at "lit"); (case fbz5 => walk_at "bf"); intro t9z5; (try dsimp only))))
  (k_with "binaryOp Sub float float" => (with_plain (refine' s_sub0 ?fxz6 ?fyz6 ?fbz6 ?_; (case fxz6 => exact rfl); (case fyz6 => walk_at "lit"); (case fbz6 => (refine' Nat.lt_of_le_of_lt ?b1z6 ?b3z6; (case b1z6 => assumption); (case b3z6 => decide))); intro t9z6; (try dsimp only))))
  (k_with "binaryOp Add float float" => (with_plain (refine' s_add0 ?fxz7 ?fyz7 ?fbz7 ?_; (case fxz7 => exact rfl); (case fyz7 => walk_at "lit"); (case fbz7 => (refine' Nat.lt_of_le_of_lt ?b1z7 ?b3z7; (case b1z7 => assumption); (case b3z7 => decide))); intro t9z7; (try dsimp only))))
  (k_with "binaryOp Div float float" => (with_plain (refine' s_div rfl ?fyz8 ?fbz8 ?_; (case fyz8 => walk_at "lit"); (case fbz8 => omega); intro t9z8; (try dsimp only))))
  (k_with "binaryOp Mod float float" => (with_plain (refine' s_mod rfl ?fyz9 ?fbz9 ?_; (case fyz9 => walk_at "lit"); (case fbz9 => omega); intro z9z9 t9z9; (try dsimp only))))
  (k_with "compareOp Lt float float" => (with_plain (refine' s_lt ?fxz10 ?fyz10 ?fbz10 ?_ ?_; (case fxz10 => walk_at "lit"); (case fyz10 => walk_at "lit"); (case fbz10 => walk_at "bf"); (all_goals (intro q9z10; try first | exact absurd q9z10 (by with_reducible assumption) | exact absurd (by with_reducible assumption) q9z10 | exact absurd q9z10 (by decide) | exact absurd (by decide) q9z10 | (exfalso; omega))))))
  (k_with "compareOp Gt float float" => (with_plain (refine' s_gt ?fxz11 ?fyz11 ?fbz11 ?_ ?_; (case fxz11 => walk_at "lit"); (case fyz11 => walk_at "lit"); (case fbz11 => walk_at "bf"); (all_goals (intro q9z11; try first | exact absurd q9z11 (by with_reducible assumption) | exact absurd (by with_reducible assumption) q9z11 | exact absurd q9z11 (by decide) | exact absurd (by decide) q9z11 | (exfalso; omega))))))
  (k_with "compareOp Eq float float" => (with_plain (refine' s_eq ?fxz12 ?fyz12 ?fbz12 ?_ ?_; (case fxz12 => walk_at "lit"); (case fyz12 => walk_at "lit"); (case fbz12 => walk_at "bf"); (all_goals (intro q9z12; try first | exact absurd q9z12 (by with_reducible assumption) | exact absurd (by with_reducible assumption) q9z12 | exact absurd q9z12 (by decide) | exact absurd (by decide) q9z12 | (exfalso; omega))))))
  (k_with "compareOp NotEq float float" => (with_plain (refine' s_ne ?fxz13 ?fyz13 ?fbz13 ?_ ?_; (case fxz13 => walk_at "lit"); (case fyz13 => walk_at "lit"); (case fbz13 => walk_at "bf"); (all_goals (intro q9z13; try first | exact absurd q9z13 (by with_reducible assumption) | exact absurd (by with_reducible assumption) q9z13 | exact absurd q9z13 (by decide) | exact absurd (by decide) q9z13 | (exfalso; omega))))))
  (k_with "compareOp LtE float float" => (with_plain (refine' s_le ?fxz14 ?fyz14 ?fbz14 ?_ ?_; (case fxz14 => walk_at "lit"); (case fyz14 => walk_at "lit"); (case fbz14 => walk_at "bf"); (all_goals (intro q9z14; try first | exact absurd q9z14 (by with_reducible assumption) | exact absurd (by with_reducible assumption) q9z14 | exact absurd q9z14 (by decide) | exact absurd (by decide) q9z14 | (exfalso; omega))))))
  (k_with "call builtin:max" => ((refine' max3_hi rfl ?kFz15 ?kNz15 ?kaz15 ?kbz15 ?kcz15 ?_; (case kFz15 => k_asm); (case kNz15 => k_asm); (case kaz15 => assumption); (case kbz15 => assumption); (case kcz15 => assumption); intro h9z15 tk9z15 t9z15 F9z15 N9z15; (try dsimp only))))
  (k_with "call builtin:min" => ((refine' min3_lo rfl ?kFz16 ?kNz16 ?kaz16 ?kbz16 ?kcz16 ?_; (case kFz16 => k_asm); (case kNz16 => k_asm); (case kaz16 => assumption); (case kbz16 => assumption); (case kcz16 => assumption); intro h9z16 tk9z16 t9z16 F9z16 N9z16; (try dsimp only))))
  (k_with "binaryOp Div float float" => (with_plain ((refine' s_half rfl ?fxz17 ?fyz17 ?fbz17 ?_); (case fxz17 => exact rfl); (case fyz17 => first | exact lit_2 | exact rfl); (case fbz17 => omega); intro t9z17; (try dsimp only))))
  (k_with "binaryOp Mult float float" => (with_plain ((refine' s_two ?fxz18 ?fyz18 ?fbz18 ?_); (case fxz18 => first | exact lit_2 | exact rfl); (case fyz18 => exact rfl); (case fbz18 => omega); intro t9z18; (try dsimp only))))
  (k_with "binaryOp Mult float float" => (with_plain ((refine' s_16 ?fxz19 ?fyz19 ?fbz19 ?_); (case fxz19 => exact rfl); (case fyz19 => exact rfl); (case fbz19 => omega); intro t9z19; (try dsimp only))))
  (k_with "binaryOp Mult float float" => (with_plain ((refine' s_mulz ?fzz20 ?_); (case fzz20 => first | exact mz_0 | exact mz_1 | exact mz_2 | exact mz_3 | exact mz_4 | exact mz_5); intro t9z20; (try dsimp only))))
  (k_with "binaryOp Sub float int" => (with_plain ((refine' s_subint ?fxz21 ?fbz21 ?_); (case fxz21 => exact rfl); (case fbz21 => omega); intro t9z21; (try dsimp only))))
  (k_with "binaryOp Mult int float" => (with_plain ((refine' s_mulint ?fxz22 ?fyz22 ?fbz22 ?_); (case fxz22 => exact rfl); (case fyz22 => exact rfl); (case fbz22 => omega); intro t9z22; (try dsimp only))))
  (k_with "binaryOp Div int int" => (with_plain ((refine' s_divint rfl ?fxz23 ?fbz23 ?_); (case fxz23 => exact rfl); (case fbz23 => omega); intro t9z23; (try dsimp only))))
  (k_with "enter9" => ((refine' code_def ?k1z24 ?k2z24 ?k3z24 ?k4z24 ?k5z24 ?kAz24 ?kFz24 ?kKz24 ?k6z24 ?k7z24 ?k8z24 ?k9z24 ?kBz24 ?_ ?c2z24 ?c3z24 ?c4z24 ?c5z24; (case kAz24 => exact rfl); (case kFz24 => exact rfl); (case kKz24 => first | exact rfl | assumption); (case k1z24 => k_asm); (case k2z24 => k_asm); (case k3z24 => k_asm); (case k4z24 => k_asm); (case k5z24 => k_asm); (case k6z24 => k_is); (case k7z24 => k_is); (case k8z24 => exact (Room.deep (k' := 1) (by assumption) (by decide)).lt); (case k9z24 => exact BindsTo.of_eq rfl); (case c5z24 => decide); (case kBz24 => exact locs rfl); (case c2z24 => exact rfl); (case c3z24 => exact rfl); (case c4z24 => exact rfl); k_whole; intro g'z24 L'z24 h'z24 FG'z24 F'z24 N'z24 B'z24 X'z24 T'z24; (try dsimp only); (try k_fold))))
  (k_with "call ref" => ((k_here; (refine wpAny_call ?_); k_dflt (walk_at "enter9"))))
  trivial

example : True := by
  (k_with "mlook" => (first | with_reducible exact look_at | with_reducible assumption | (refine look_by2 (by decide) ?_; walk_at "mlook") | exact rfl))
  trivial
example : True := by
  (k_with "k_ne" => (first | with_reducible assumption | (refine Ne.symm ?_; with_reducible assumption) | exact ltn (by assumption) (by k_mem) | exact Ne.symm (ltn (by assumption) (by k_mem)) | (refine neN ?_; (try dsimp only); first | with_reducible assumption | (refine Ne.symm ?_; with_reducible assumption) | exact ltn (by assumption) (by k_mem) | exact Ne.symm (ltn (by assumption) (by k_mem)) | omega)))
  trivial
example : True := by
  (k_with "memR" => (first | exact memR0 | (refine memR1 ?_; walk_at "memR")))
  (k_with "subscriptTail Name Name ref int" => ((k_here; with_plain ((refine' s_item ?k1z30 ?k2z30 ?k3z30 ?k4z30 ?_ ?k5z30); (case k1z30 => k_asm); (case k2z30 => first | k_mem | assumption | apply_assumption); (case k3z30 => first | assumption | decide | omega); (case k4z30 => first | assumption | rfl); (case k5z30 => with_unfolding_all rfl)))))
  (k_with "subscriptTail Subscript" => ((k_here; with_plain ((refine' s_item ?k1z31 ?k2z31 ?k3z31 ?k4z31 ?_ ?k5z31); (case k1z31 => k_asm); (case k2z31 => first | k_mem | assumption | apply_assumption); (case k3z31 => first | assumption | decide | omega); (case k4z31 => first | assumption | rfl); (case k5z31 => with_unfolding_all rfl)))))
  (k_with "RangeRest" => (with_plain (first | (refine' RangeRest.succ ?_; intro t'z32 h'z32 tk'z32 F'z32 N'z32) | (refine' RangeRest.zero ?_; intro h'z32 tk'z32 F'z32 N'z32))))
  (k_with "for9" => ((k_here; with_plain ((refine' For_turns ?Fz33 ?_ ?hsz33 ?hEz33); (case Fz33 => k_asm); (case hsz33 => intro _; rfl); (case hEz33 => passes_own); k_whole))))
  (k_with "exec For Tuple List cons nil" => (walk_at "for9"))
  (k_with "exec For Tuple Call cons nil" => (walk_at "for9"))
  (k_with "exec For Tuple Name cons nil" => (walk_at "for9"))
  (k_with "exec For Name List cons nil" => (walk_at "for9"))
  (k_with "pyIter ref" => ((k_here; (with_reducible show wpAny _ _ (pyIter (Value.ref _)) (fun it s₂ => TurnsAt _ _ _ _ _ _ _ _ _ it s₂) _ _); with_plain ((refine' iter_listTurns ?hhz38 ?Fz38 ?Nz38 ?mz38 ?cz38 ?dz38 ?_); (case hhz38 => exact rfl); (case Fz38 => k_asm); (case Nz38 => k_asm); (case mz38 => k_mem); (case cz38 => exact rfl); (case dz38 => exact rfl); (intro i'z38 l1z38); (try k_lt l1z38); (try dsimp only [List.map_cons, List.map_nil])))))
  (k_with "ItemsRest" => (with_plain (first | (refine' ItemsRest.val ?_; intro h'z39 tk'z39 F'z39; ktu_objs) | (refine' ItemsRest.pair ?_; intro T'z39 t'z39 h'z39 tk'z39 hT'z39 F'z39; (try dsimp only at hT'z39); ktu_objs) | (refine' ItemsRest.zero ?_; intro h'z39 tk'z39 F'z39 N'z39))))
  trivial
example : True := by
  (k_with "k_mem9" => (with_reducible ((fail_if_success (show (zz9, _) ∈ _)); first | exact List.Mem.head _ | exact mm1 | exact mm2 | exact mm3 | exact mm4 | exact mm5 | exact mm6 | exact mm7 | exact mm8 | exact mm9 | exact mm10 | exact mm11 | exact mm12 | exact mm13 | exact mm14 | exact mm15 | exact mm16 | exact mm17 | exact mm18 | exact mm19 | exact mm20 | exact mm21 | exact mm22 | exact mm23 | exact mm24)))
  (k_with "k_sub9" => (((fail_if_success (with_reducible exact subNil)); (repeat' (with_reducible first | exact subNil | exact sub0 | refine' subK ?_ | refine' subD ?_)); done)))
  trivial

section
--DROP eval Name
--KEEP l0 lL i9 l9
--LED: ([] : List (Addr × Obj))
/-- a contract with a fact of the base heap -/
def CtrH (w : World) (k : Nat) (f : Addr) (H : Heap → Prop) (vs : List Value) (news : List (Addr × Obj)) (Post : Value → List (Addr × Obj) → Prop) : Prop :=
  ∀ (mean : ExcName → Option Value) (mg mb : Str → Option Value) (dp un : Nat) (gd : Option (List Code)) (cn : Str) (cs : Scope) (a : Addr) (ccd : Value) (cl : List (Str × Addr)) (outer : List Env) (A₀ : Around) (base h₀ : Heap) (L : Addr) (m : Str → Option Value) (s : Shared) (Q E : Value → Shared → Prop), H h₀ →
    Below A₀ base outer h₀ → Fr h₀ L s.heap m → (hd.heap_39 w.params).In h₀ → News h₀ L s.heap news → Top hd.view_39 L0 mean mg mb h₀ → cs.kind = .function → Room dp un k →
    (∀ r news' h' tk', Fr h₀ L h' m → News h₀ L h' news' → Post r news' → Q r { s with heap := h', toks := tk' }) →
    wpAny (model PySem.Challenge.rw_tr0025_01.row.prog w) (ktrTop dp un gd cn cs L a ccd cl outer) (call (.ref f) vs) Q E s
theorem ctrH_use {w : World} {k : Nat} {f : Addr} {H : Heap → Prop} {vs : List Value} {news : List (Addr × Obj)} {Post : Value → List (Addr × Obj) → Prop} (C : CtrH w k f H vs news Post)
    {mean : ExcName → Option Value} {mg mb : Str → Option Value} {dp un : Nat} {gd : Option (List Code)} {cn : Str} {cs : Scope} {a : Addr} {ccd : Value} {cl : List (Str × Addr)} {outer : List Env} {A₀ : Around} {base h₀ : Heap} {L : Addr} {m : Str → Option Value} {s : Shared} {Q E : Value → Shared → Prop} (hH : H h₀)
    (B : Below A₀ base outer h₀) (F : Fr h₀ L s.heap m) (X : (hd.heap_39 w.params).In h₀) (N : News h₀ L s.heap news) (T : Top hd.view_39 L0 mean mg mb h₀) (hk : cs.kind = .function) (hr : Room dp un k)
    (ret : ∀ r news' h' tk', Fr h₀ L h' m → News h₀ L h' news' → Post r news' → Q r { s with heap := h', toks := tk' }) :
    wpAny (model PySem.Challenge.rw_tr0025_01.row.prog w) (ktrTop dp un gd cn cs L a ccd cl outer) (call (.ref f) vs) Q E s := C _ _ _ _ _ _ _ _ _ _ _ _ _ _ _ _ _ _ _ _ hH B F X N T hk hr ret
theorem isList_fr {h₀ g : Heap} {L sc : Addr} {m : Str → Option Value} {its : Array Value} (F : Fr h₀ L g m) (h : h₀.IsList sc its) : g.IsList sc its := by
  obtain ⟨o, ho, hc, n, hd⟩ := h
  exact ⟨o, F.keep _ _ ho, hc, n, hd⟩
theorem ints_at {V : List Value} {ds : List Int} (h : IntsAre V ds) : ∀ {j : Nat}, j < ds.length → ∃ d t, V[j]? = some (.int d t) ∧ d ∈ ds := by
  induction h with
  | nil => intro j hj; exact absurd hj (Nat.not_lt_zero _)
  | cons n t r ih =>
    intro j hj
    cases j with
    | zero => exact ⟨n, t, rfl, List.mem_cons_self ..⟩
    | succ j =>
      obtain ⟨d, t, e, hm⟩ := ih (j := j) (by simpa using hj)
      exact ⟨d, t, by simpa using e, List.mem_cons_of_mem _ hm⟩
theorem ints_set {V : List Value} {ds : List Int} (h : IntsAre V ds) (a : Int) (t : Tok) : ∀ j : Nat, IntsAre (V.set j (.int a t)) (ds.set j a) := by
  induction h with
  | nil => intro j; exact .nil
  | cons n u r ih =>
    intro j
    cases j with
    | zero => exact .cons a t r
    | succ j => exact .cons n u (ih j)
theorem ki_set_eq : ∀ (V : List Value) (j : Nat) (v : Value), j < V.length → ki_setL V j v = some (V.set j v)
  | [], _, _, h => absurd h (Nat.not_lt_zero _)
  | _ :: _, 0, _, _ => rfl
  | x :: r, j + 1, v, h => by
    have e := ki_set_eq r j v (by simpa using h)
    simp only [ki_setL, e, List.set_cons_succ]
theorem mod7 (i : Nat) : 0 ≤ (i : Int).fmod 7 ∧ (i : Int).fmod 7 < 7 := by
  rw [Int.fmod_eq_emod_of_nonneg _ (by decide)]; omega
theorem modM (x : Int) : 0 ≤ x.fmod 1000000 ∧ x.fmod 1000000 < 1000000 := by
  rw [Int.fmod_eq_emod_of_nonneg _ (by decide)]; omega
theorem ints7 {V : List Value} {ds : List Int} (h : IntsAre V ds) (h7 : ds.length = 7) : ∃ d0 d1 d2 d3 d4 d5 d6 t0 t1 t2 t3 t4 t5 t6, V = [.int d0 t0, .int d1 t1, .int d2 t2, .int d3 t3, .int d4 t4, .int d5 t5, .int d6 t6] ∧ ds = [d0, d1, d2, d3, d4, d5, d6] := by
  match ds, h7, h with
  | [d0, d1, d2, d3, d4, d5, d6], _, h =>
    obtain ⟨t0, v0, e0, h0⟩ := h.cons_inv
    obtain ⟨t1, v1, e1, h1⟩ := h0.cons_inv
    obtain ⟨t2, v2, e2, h2⟩ := h1.cons_inv
    obtain ⟨t3, v3, e3, h3⟩ := h2.cons_inv
    obtain ⟨t4, v4, e4, h4⟩ := h3.cons_inv
    obtain ⟨t5, v5, e5, h5⟩ := h4.cons_inv
    obtain ⟨t6, v6, e6, h6⟩ := h5.cons_inv
    exact ⟨d0, d1, d2, d3, d4, d5, d6, t0, t1, t2, t3, t4, t5, t6, by rw [e0, e1, e2, e3, e4, e5, e6, h6.nil_inv], rfl⟩
theorem lt_rest0 {L' q : Addr} {rest : List (Addr × Obj)} {g h' : Heap} {m' : Str → Option Value} (hrest : ∀ x ∈ rest, g.get? x.1 = some x.2) (F' : Fr g L' h' m') (lL : L' < q) : ∀ p ∈ rest, p.1 < q := fun p hp => Nat.lt_trans (Nat.lt_of_lt_of_le (Heap.lt_size (hrest p hp)) F'.above) lL
example : True := by
  (k_with "subscriptTail Name BinOp ref int" => ((k_here; with_plain ((refine' s_item ?k1z122 ?k2z122 ?k3z122 ?k4z122 ?_ ?k5z122); (case k1z122 => k_asm); (case k2z122 => k_mem); (case k3z122 => assumption); (case k4z122 => assumption); (case k5z122 => with_unfolding_all rfl)))))
  (k_with "setItem ref int" => ((k_here; with_plain ((rename (∀ v : Value, ki_setL _ _ _ = some _) => hU9z123); (refine' ki_set ?Fz123 ?Nz123 ?az123 ?bz123 (hU9z123 _) ?cz123 ?_); (case Fz123 => k_asm); (case Nz123 => k_asm); (case az123 => assumption); (case bz123 => assumption); (case cz123 => k_upd); (clear hU9z123); (intro h9z123 F9z123 N9z123); (try k_sweep)))))
  (k_with "mlook" => (first | with_reducible exact look_at | assumption | (refine look_by (by decide) ?_; walk_at "mlook")))
  (k_with "eval Name" => ((k_here; (with_reducible show wpAny _ _ (eval (Expr.Name (Str.ofString "draws") _) _) _ _ _); with_plain ((refine' ld ?k1z125 ?k2z125 ?_); (case k1z125 => k_asm); (case k2z125 => walk_at "mlook"); k_whole))))
  (k_with "newList" => ((k_here; k_dflt (refine' newList_L ?k1z126 ?k2z126 ?_; (case k1z126 => k_asm); (case k2z126 => k_asm); k_whole); intro l0 h'z126 F'z126 N'z126 l1z126 lL; (try k_lt l1z126); (try k_sweep))))
  (k_with "call type:enumerate" => ((k_here; with_plain ((refine' ktu_enum ?hhz127 ?Fz127 ?Nz127 ?mz127 ?cz127 ?dz127 ?xz127 ?_); (case hhz127 => exact rfl); (case Fz127 => k_asm); (case Nz127 => k_asm); (case mz127 => k_mem); (case cz127 => exact rfl); (case dz127 => exact rfl); (case xz127 => exact rfl); (intro i9 l9); (try k_lt l9); (refine Hold.of ?_)))))
  trivial
set_option maxHeartbeats 8000000 in
theorem c_draws (w : World) (rest : List (Addr × Obj)) (sc : Addr) (vs : List Value) (xs : List Int) (hi : IntsAre vs xs) (hlen : xs.length ≤ 63) (dis : ∀ x ∈ rest, x.1 ∉ ([] : List Addr)) :
    CtrH w 6 85 (fun h => h.IsList sc vs.toArray) [.ref sc] rest
      (fun r n => ∃ q d0 d1 d2 d3 d4 d5 d6 t0 t1 t2 t3 t4 t5 t6 e, r = .ref q ∧ n = (q, listOf #[.int d0 t0, .int d1 t1, .int d2 t2, .int d3 t3, .int d4 t4, .int d5 t5, .int d6 t6] e) :: rest ∧ (∀ p ∈ rest, p.1 < q) ∧ (0 ≤ d0 ∧ d0 ≤ 99999999) ∧ (0 ≤ d1 ∧ d1 ≤ 99999999) ∧ (0 ≤ d2 ∧ d2 ≤ 99999999) ∧ (0 ≤ d3 ∧ d3 ≤ 99999999) ∧ (0 ≤ d4 ∧ d4 ≤ 99999999) ∧ (0 ≤ d5 ∧ d5 ≤ 99999999) ∧ (0 ≤ d6 ∧ d6 ≤ 99999999)) := by
  refine fillG PySem.Challenge.rw_tr0025_01 hd.heap_39 ?_
  k_fill
  unfold FillG CtrH
  intro mean mg mb dp un gd cn cs a ccd cl outer A₀ base h₀ L m s Q E hsc B F X N T hk hroom hret
  have hlt := hroom.lt
  refine wpAny_call ?_
  have NR := subR N (n' := rest) (by walk_at "memR")
  k_dflt (refine' enterF (led := ([] : List (Addr × Obj))) (rest := rest) ?k1 ?k2 ?k3 ?k4 ?kR ?kX ?k5 ?kA ?kF ?kK ?k6 ?k7 ?k8 ?k9 ?kB ?_ ?c2 ?c3 ?c4 ?c5; (case kA => exact rfl); (case kF => exact rfl); (case kK => assumption); (case k1 => k_asm); (case k2 => k_asm); (case k3 => k_asm); (case k4 => exact subN N (by k_subL)); (case kR => exact NR); (case kX => exact dis); (case k5 => k_asm); (case k6 => k_is); (case k7 => k_is); (case k8 => exact hlt); (case k9 => exact BindsTo.of_eq rfl); (case c5 => decide); (case kB => exact locs rfl); (case c2 => exact rfl); (case c3 => exact rfl); (case c4 => exact rfl); k_whole; intro g' L' h' FG' F' N' B' X' T' hrest; (try dsimp only); (try k_fold))
  clear N
  have hsc' := isList_fr FG' hsc
  clear hsc
  k_steps
  rename_i h1 D2 ws h0 F0 N0 lR1 hI0 hC0 hL0
  have hl14 : ws.length ≤ 14 := by rw [hI0.length, hC0]; omega
  have nD : @Ne Nat D2 l0 := Ne.symm (ltn lR1 (by k_mem))
  have nI : @Ne Nat i9 l0 := Ne.symm (ltn l9 (.tail _ (.head _)))
  have nI1 : @Ne Nat (i9 + 1) l0 := Ne.symm (Nat.ne_of_lt (Nat.lt_succ_of_lt (l9 (l0, _) (.tail _ (.head _)))))
  clear F0 N0 hsc' hC0 hL0 lR1
  refine cut_items (fun R => ∀ (ys : List Value) (js : List Int) (i : Nat) (m : Str → Option Value) (n : List (Addr × Obj)) (V : List Value) (ds : List Int) (ev : Nat), IntsAre ys js → i + ys.length ≤ 14 → IntsAre V ds → ds.length = 7 → (∀ d ∈ ds, 0 ≤ d ∧ d ≤ 4000 + (i : Int) * 1000000) → m (Str.ofString "draws") = some (.ref l0) → n = [(D2, listOf ws.toArray 0), (l0, listOf V.toArray ev)] → R (enumItems i ys) m n) ?_ ?_
  · intro ys
    induction ys with
    | nil =>
      intro js i m n V ds ev hy hi14 hV h7 hb hm en
      subst en
      obtain ⟨d0, d1, d2, d3, d4, d5, d6, t0, t1, t2, t3, t4, t5, t6, rfl, rfl⟩ := ints7 hV h7
      have b : ∀ d : Int, 0 ≤ d ∧ d ≤ 4000 + (i : Int) * 1000000 → 0 ≤ d ∧ d ≤ 99999999 := fun d h => by
        have : i + 0 ≤ 14 := hi14
        omega
      simp only [List.forall_mem_cons] at hb
      obtain ⟨b0, b1, b2, b3, b4, b5, b6, _⟩ := hb
      show ItemsRest _ _ _ _ _ _ _ _ _ _ _ _ [] _ _
      k_steps
      refine' hret _ _ _ _ ?_ (frame_ret NR hrest (by k_asm) (subN (n' := [(l0, _)]) (by k_asm) (by k_subL))) ⟨_, _, _, _, _, _, _, _, _, _, _, _, _, _, _, _, rfl, rfl, lt_rest0 hrest (by k_asm) lL, b _ b0, b _ b1, b _ b2, b _ b3, b _ b4, b _ b5, b _ b6⟩
      k_asm
    | cons y ys ih =>
      intro js i m n V ds ev hy hi14 hV h7 hb hm en
      subst en
      cases hy with
      | cons x t hy' =>
      rename_i js'
      have hj := mod7 i
      have hj2 : 0 ≤ (i : Int).fmod 7 ∧ (i : Int).fmod 7 < 2 ^ 63 := ⟨hj.1, Int.lt_trans hj.2 (by decide)⟩
      have hj20 := hj2.1
      have hj21 := hj2.2
      have hj7 : ((i : Int).fmod 7).toNat < ds.length := by omega
      obtain ⟨d, td, hd, hdm⟩ := ints_at hV hj7
      have hd' : V.toArray.toList[((i : Int).fmod 7).toNat]? = some (.int d td) := hd
      have hset : ∀ v, ki_setL V.toArray.toList ((i : Int).fmod 7).toNat v = some (V.set ((i : Int).fmod 7).toNat v) := fun v => ki_set_eq V _ v (by rw [hV.length]; exact hj7)
      show ItemsRest _ _ _ _ _ _ _ _ _ _ _ _ (.pair (fun t => .int (i : Int) t) (.int x t) :: enumItems (i + 1) ys) _ _
      k_steps
      have hb1 : ∀ e ∈ ds.set ((i : Int).fmod 7).toNat (d + x.fmod 1000000), 0 ≤ e ∧ e ≤ 4000 + ((i + 1 : Nat) : Int) * 1000000 := fun e he => by
        have h1 := hb d hdm
        have h2 := modM x
        rcases List.mem_or_eq_of_mem_set he with he | he
        · have h3 := hb e he
          omega
        · omega
      have hl : i + 1 + ys.length ≤ 14 := by simp only [List.length_cons] at hi14; omega
      refine' ih _ (i + 1) _ _ _ (ds.set ((i : Int).fmod 7).toNat (d + x.fmod 1000000)) _ hy' hl (ints_set hV _ _ _) (by rw [List.length_set]; exact h7) hb1 ?_ rfl
      walk_at "mlook"
  · intro g
    exact g ws _ 0 _ _ _ _ 0 hI0 (by omega) (.cons _ _ (.cons _ _ (.cons _ _ (.cons _ _ (.cons _ _ (.cons _ _ (.cons _ _ .nil))))))) rfl (by decide) rfl rfl

end
section
-- a list comprehension whose one target is a cell (an inner one closes over it)
abbrev noCell : Obj := { cls := .type "cell", data := .cell none }
theorem newEnvK {M : Model} {A : Around} {E : Value → Shared → Prop} {s : Shared} {x : Str} {scope : Scope} {globals : Addr} {cl : List (Str × Addr)} {qual : Str} {func : Option Addr} {code : Value} {env : Env} {builtins : Addr} {Q : Env → Shared → Prop}
    (hc : ∀ j, cellsFrom j scope.names cl = (x, j) :: cl) (hp : ∀ h, pushCells h scope.names = h.push noCell)
    (hQ : Q (newEnv scope s.heap.objs.size globals ((x, s.heap.objs.size + 1) :: cl) qual func code (some env) builtins) { s with heap := (s.heap.push { cls := .type "dict", data := .dict #[] }).push noCell }) :
    wpAny M A (newFunctionEnv scope globals cl [] qual func code (some env) builtins) Q E s := by
  simp only [newFunctionEnv, Option.isSome_some, if_true]
  refine wpAny_bind (wpAny_alloc ?_)
  refine wpAny_bind (wpAny_layCells _ (fun name kind cells => by cases hkc : kind == NameKind.cell <;> simp [hkc]) _ _ _ _ ?_)
  rw [hc, hp, show ({ s with heap := s.heap.push { cls := .type "dict", data := .dict #[] } } : Shared).heap.objs.size = s.heap.objs.size + 1 from Heap.size_push ..]
  refine wpAny_bind ?_
  rw [List.forIn_nil]
  exact wpAny_pure (wpAny_pure hQ)
def EndK (h₀ : Heap) (L : Addr) (m : Str → Option Value) (s₁ : Shared) (I : Addr) (oI : Obj) (C : Addr) (oC : Obj) (D : Addr) (oD : Obj) (K : Addr) (oK : Obj) (S : List (Addr × Obj) → Prop) (rest : Value → List (Addr × Obj) → Prop) (y : Value) (s₂ : Shared) : Prop :=
  ∃ h' tk news', s₂ = { s₁ with heap := h', toks := tk } ∧ Fr h₀ L h' m ∧ News h₀ L h' ((I, oI) :: (C, oC) :: (D, oD) :: (K, oK) :: news') ∧ (LCg.Off3 I C D news' ∧ LCg.Off1 K news') ∧ S news' ∧ rest y news'
noncomputable def RestK (prog : Program) (w : World) (A : Around) (h₀ : Heap) (L : Addr) (m : Str → Option Value) (env : Env) (elt : PySem.Expr) (x : Str) (scope : Scope) (cl : List (Str × Addr)) (s : Shared) (S : List (Addr × Obj) → Prop) (P : Nat → Value → Prop)
    (Fin : List Value → List (Addr × Obj) → Prop) : Nat → Nat → List Value → List (Addr × Obj) → Prop
  | 0, _, ys, news => Fin ys news
  | k + 1, i, ys, news => ∀ v I oI C oC K oK D m₂ h tk (E' : Value → Shared → Prop), P i v → LCg.NsObj oC m₂ → oK.data = .cell (some v) → Fr h₀ L h m → News h₀ L h ((I, oI) :: (C, oC) :: (D, LCg.lst ys) :: (K, oK) :: news) → LCg.Off3 I C D news → LCg.Off1 K news →
      ((@Ne Nat I C) ∧ (@Ne Nat I D) ∧ (@Ne Nat C D) ∧ (@Ne Nat K I) ∧ (@Ne Nat K C) ∧ (@Ne Nat K D)) →
      wpAny (model prog w) A (eval elt (compEnvC scope ((x, K) :: cl) C env)) (EndK h₀ L m { s with heap := h, toks := tk } I oI C oC D (LCg.lst ys) K oK S (fun y news' => RestK prog w A h₀ L m env elt x scope cl s S P Fin k (i + 1) (ys ++ [y]) news')) E' { s with heap := h, toks := tk }
theorem off1_mem {D : Addr} : ∀ {l : List (Addr × Obj)}, LCg.Off1 D l → ∀ p ∈ l, p.1 ≠ D
  | [], _, _, h => nomatch h
  | _ :: _, x, p, h => by
    rcases List.mem_cons.mp h with rfl | h
    · exact x.1
    · exact off1_mem x.2 p h
theorem off1_of {D : Addr} : ∀ {l : List (Addr × Obj)}, (∀ p ∈ l, p.1 ≠ D) → LCg.Off1 D l
  | [], _ => trivial
  | _ :: _, h => ⟨h _ List.mem_cons_self, off1_of fun p hp => h p (List.mem_cons_of_mem _ hp)⟩
section
variable {prog : Program} {w : World} {A : Around} {E : Value → Shared → Prop} {s : Shared} {h₀ : Heap} {L : Addr} {m : Str → Option Value} {env : Env}
theorem RestK.succ {elt : PySem.Expr} {x : Str} {scope : Scope} {cl : List (Str × Addr)} {S : List (Addr × Obj) → Prop} {P : Nat → Value → Prop} {Fin : List Value → List (Addr × Obj) → Prop} {k i : Nat} {ys : List Value} {news : List (Addr × Obj)}
    (h : ∀ v I oI C oC K oK D m₂ h tk (E' : Value → Shared → Prop), P i v → LCg.NsObj oC m₂ → oK.data = .cell (some v) → Fr h₀ L h m → News h₀ L h ((I, oI) :: (C, oC) :: (D, LCg.lst ys) :: (K, oK) :: news) → LCg.Off3 I C D news → LCg.Off1 K news →
      ((@Ne Nat I C) ∧ (@Ne Nat I D) ∧ (@Ne Nat C D) ∧ (@Ne Nat K I) ∧ (@Ne Nat K C) ∧ (@Ne Nat K D)) →
      wpAny (model prog w) A (eval elt (compEnvC scope ((x, K) :: cl) C env)) (EndK h₀ L m { s with heap := h, toks := tk } I oI C oC D (LCg.lst ys) K oK S (fun y news' => RestK prog w A h₀ L m env elt x scope cl s S P Fin k (i + 1) (ys ++ [y]) news')) E' { s with heap := h, toks := tk }) :
    RestK prog w A h₀ L m env elt x scope cl s S P Fin (k + 1) i ys news := h
theorem RestK.zero {elt : PySem.Expr} {x : Str} {scope : Scope} {cl : List (Str × Addr)} {S : List (Addr × Obj) → Prop} {P : Nat → Value → Prop} {Fin : List Value → List (Addr × Obj) → Prop} {i : Nat} {ys : List Value} {news : List (Addr × Obj)} (h : Fin ys news) :
    RestK prog w A h₀ L m env elt x scope cl s S P Fin 0 i ys news := h
/-- the facts of the three new places -/
theorem blockK {elt iter : PySem.Expr} {x : Str} {px : Pos} {scope : Scope} {cl : List (Str × Addr)} {pos : Pos} {s₂ : Shared} {I : Addr} {fp : List Addr} {n : Nat} {P : Nat → Value → Prop} {St : Nat → Heap → Prop} {S : List (Addr × Obj) → Prop} {news : List (Addr × Obj)}
    {Fin : List Value → List (Addr × Obj) → Prop} {RR : Value → Addr → Result → Shared → Prop}
    (W : Walks prog w A I fp [I] n P St) (hsz : n ≤ sizeLine) (hIo : ∀ i h, St i h → ∃ o, h.get? I = some o)
    (hSt : ∀ i h h' o nw, St i h → h.get? I = some o → h'.get? I = some o → (∀ b o, h₀.get? b = some o → h'.get? b = some o) → News h₀ L h' nw → S nw → St i h')
    (hc : ∀ j, cellsFrom j scope.names cl = (x, j) :: cl) (hp : ∀ h, pushCells h scope.names = h.push noCell) (hkind : scope.kind = .function) (hx : (relabel scope env).names.lookup x = some .cell) (hst : St 0 s₂.heap) (hfp : ∀ b ∈ fp, b < s₂.heap.objs.size)
    (F : Fr h₀ L s₂.heap m) (N : News h₀ L s₂.heap news) (hIL : L ≠ I) (hI₀ : h₀.get? I = none) (off : ∀ p ∈ news, p.1 ≠ I) (hS : S news)
    (R : RestK prog w A h₀ L m env elt x scope cl s₂ S P Fin n 0 [] news)
    (hRR : ∀ D C h tk m' ys news', Fr h₀ L h m → News h₀ L h ((D, LCg.lst ys) :: news') → LCg.Off1 D news' → h.Ns C m' → h₀.get? C = none → h₀.get? D = none → C ≠ L → D ≠ L → C ≠ D → (∀ p ∈ news', p.1 ≠ C) → Fin ys news' → RR (.ref D) C (.ok .next) { s₂ with heap := h, toks := tk }) :
    wpAny (model prog w) A (newList []) (fun acc s₃ => wpAny (model prog w) A (newFunctionEnv scope env.globals cl [] env.qual none .none (some env)) (fun cenv s₄ =>
      codeAny (model prog w) A (.compStart (.ListComp elt [⟨.Name x px, iter, [], 0⟩] scope pos) 0 (.ref I) acc { cenv with scope := relabel scope env }) (RR acc cenv.locals) s₄) E s₃) E s₂ := by
  refine wpAny_newObj_type (newEnvK hc hp ?_)
  dsimp only
  generalize hH : s₂.heap.push { cls := .type "list", dict := none, data := .seq ([] : List Value).toArray } = H
  have hC : H.objs.size = s₂.heap.objs.size + 1 := by rw [← hH, Heap.size_push]
  generalize hH4 : (H.push { cls := .type "dict", data := .dict #[] }).push noCell = H4
  have upH : ∀ b o, H.get? b = some o → H4.get? b = some o := fun b o e => hH4 ▸ Heap.get?_push_of_some _ (Heap.get?_push_of_some _ e)
  have up : ∀ b o, s₂.heap.get? b = some o → H4.get? b = some o := fun b o e => upH b o (hH ▸ Heap.get?_push_of_some _ e)
  have hD4 : H4.get? s₂.heap.objs.size = some (LCg.lst []) := upH _ _ (hH ▸ Heap.get?_push_size _ rfl)
  have hC4 : H4.Ns H.objs.size (fun _ => none) := hH4 ▸ (Heap.Ns.new H (.type "dict")).keeps fun b o e => Heap.get?_push_of_some _ e
  have hK4 : H4.get? (H.objs.size + 1) = some noCell := by
    rw [← hH4, ← Heap.size_push H { cls := .type "dict", data := .dict #[] }]
    exact Heap.get?_push_size _ rfl
  generalize H.objs.size = C at *
  clear hH hH4 upH
  subst hC
  have fresh : ∀ a : Nat, s₂.heap.objs.size ≤ a → h₀.get? a = none := fun a ha => by
    cases e : h₀.get? a with
    | none => rfl
    | some o' =>
      have := Heap.lt_size (F.keep a o' e)
      exact absurd this (Nat.not_lt.mpr ha)
  have hD₀ := fresh s₂.heap.objs.size (Nat.le_refl _)
  have hC₀ := fresh (s₂.heap.objs.size + 1) (Nat.le_succ _)
  have hK₀ := fresh (s₂.heap.objs.size + 1 + 1) (Nat.le_succ_of_le (Nat.le_succ _))
  have hLlt : L < s₂.heap.objs.size := F.ns.lt
  have below : ∀ b : Nat, b < s₂.heap.objs.size → b ≠ s₂.heap.objs.size ∧ b ≠ s₂.heap.objs.size + 1 ∧ b ≠ s₂.heap.objs.size + 1 + 1 := fun b hb => by omega
  have hIf : I ∈ fp := W.sub I (List.mem_singleton.mpr rfl)
  have bI := below I (hfp I hIf)
  have bL := below L hLlt
  have hDf : s₂.heap.objs.size ∉ fp := fun hm => (below _ (hfp _ hm)).1 rfl
  have hKf : s₂.heap.objs.size + 1 + 1 ∉ fp := fun hm => (below _ (hfp _ hm)).2.2 rfl
  have hDC : (s₂.heap.objs.size : Nat) ≠ s₂.heap.objs.size + 1 := by omega
  have hDK : (s₂.heap.objs.size : Nat) ≠ s₂.heap.objs.size + 1 + 1 := by omega
  have hCK : (s₂.heap.objs.size + 1 : Nat) ≠ s₂.heap.objs.size + 1 + 1 := by omega
  have bN := fun p (hp : p ∈ news) => below p.1 (Heap.lt_size (N p hp).1)
  have off₀ : LCg.Off3 I (s₂.heap.objs.size + 1) s₂.heap.objs.size news := LCg.Off3.of fun p hp => ⟨off p hp, (bN p hp).2.1, (bN p hp).1⟩
  have offK₀ : LCg.Off1 (s₂.heap.objs.size + 1 + 1) news := off1_of fun p hp => (bN p hp).2.2
  generalize hDe : (s₂.heap.objs.size : Nat) = D at *
  generalize hCe : (D + 1 : Nat) = C at *
  generalize hKe : (C + 1 : Nat) = K at *
  have loop : ∀ s₃ : Shared, (∃ tk, s₃ = { s₂ with heap := H4, toks := tk }) → codeAny (model prog w) A (.compLoop (.ListComp elt [⟨.Name x px, iter, [], 0⟩] scope pos) 0 (.ref I) (.ref D) (compEnvC scope ((x, K) :: cl) C env)) (RR (.ref D) C) s₃ := by
    rintro s₃ ⟨tk₀, rfl⟩
    refine codeAny_compLoop_tests
      (fun k s' => ∃ h' tk i ys m' oK v₀ news', s' = { s₂ with heap := h', toks := tk } ∧ i ≤ n ∧ k = n + 1 - i ∧ ys.length = i ∧ St i h' ∧ Fr h₀ L h' m ∧ h'.Ns C m' ∧ News h₀ L h' ((D, LCg.lst ys) :: (K, oK) :: news') ∧ oK.data = .cell v₀ ∧
        LCg.Off3 I C D news' ∧ LCg.Off1 K news' ∧ S news' ∧ RestK prog w A h₀ L m env elt x scope cl s₂ S P Fin (n - i) i ys news') ?_ (n + 1)
      ⟨H4, tk₀, 0, [], _, noCell, none, news, rfl, Nat.zero_le _, rfl, rfl, W.frame _ _ _ hst fun b _ o e => up b o e, F.keeps up, hC4, fun p hp => ?_, rfl, off₀, offK₀, hS, R⟩
    · rintro k s' ⟨h', tk, i, ys, m', oK, v₀, news', rfl, hi, rfl, hyl, hst', F', hn', N', hdK, off', offK', hS', R'⟩
      have N1 : News h₀ L h' news' := fun p hp => N' p (List.mem_cons_of_mem _ (List.mem_cons_of_mem _ hp))
      have off3 := off'.mem
      have offk := off1_mem offK'
      by_cases hlt : i < n
      · obtain ⟨j, hj⟩ : ∃ j, n - i = j + 1 := ⟨n - i - 1, by omega⟩
        rw [hj] at R'
        refine W.item i _ _ _ hlt hst' fun v h₂ tk₂ hPv hst₂ hk₂ => ?_
        have nI : ∀ b : Addr, b ≠ I → ∀ o, h'.get? b = some o → h₂.get? b = some o := fun b hb o e => hk₂ b o (by simpa using hb) e
        refine wpAny_assign_Name (wpAny_storeName_cell hkind hx (c := K) (v₀ := v₀) (by simp [compEnvC]) ⟨oK, nI K (Ne.symm bI.2.2) _ (N' (K, oK) (by simp)).1, hdK⟩ fun h₃ hcK hs₃ => ?_)
        refine wpAny_tests_nil ?_
        simp only [if_true]
        have nK : ∀ b : Addr, b ≠ K → ∀ o, h₂.get? b = some o → h₃.get? b = some o := fun b hb o e => (hs₃.2 b hb).trans e
        have hst₃ : St (i + 1) h₃ := W.frame _ _ _ hst₂ fun b hb o e => nK b (fun q => hKf (q ▸ hb)) o e
        obtain ⟨oI, heI⟩ := hIo _ _ hst₃
        obtain ⟨oK₃, heK, hdK₃⟩ := hcK
        have F₂ : Fr h₀ L h₂ m := LCg.fr_but F' hk₂ hIL hI₀
        have hKL : K ≠ L := Ne.symm bL.2.2
        have F₃ : Fr h₀ L h₃ m := F₂.change hs₃ hKL hK₀
        have hn₃ : h₃.Ns C m' := (hn'.at' fun o e => nI C (Ne.symm bI.2.1) o e).at' fun o e => nK C hCK o e
        obtain ⟨oC, heC, hoC⟩ := LCg.ns_obj hn₃
        have N₃ : News h₀ L h₃ ((I, oI) :: (C, oC) :: (D, LCg.lst ys) :: (K, oK₃) :: news') := fun p hp => by
          rcases List.mem_cons.mp hp with rfl | hp
          · exact ⟨heI, Ne.symm hIL, hI₀⟩
          rcases List.mem_cons.mp hp with rfl | hp
          · exact ⟨heC, Ne.symm bL.2.1, hC₀⟩
          rcases List.mem_cons.mp hp with rfl | hp
          · exact ⟨nK D hDK _ (nI D (Ne.symm bI.1) _ (N' (D, _) (by simp)).1), Ne.symm bL.1, hD₀⟩
          rcases List.mem_cons.mp hp with rfl | hp
          · exact ⟨heK, hKL, hK₀⟩
          · exact ⟨nK _ (offk p hp) _ (nI _ (off3 p hp).1 _ (N1 p hp).1), (N1 p hp).2⟩
        refine wpAny_mono (R' v I oI C oC K oK₃ D _ h₃ _ _ hPv hoC hdK₃ F₃ N₃ off' offK' ⟨bI.2.1, bI.1, Ne.symm hDC, Ne.symm bI.2.2, Ne.symm hCK, Ne.symm hDK⟩) (fun y s₄ h₄ => ?_) fun _ _ e => e
        obtain ⟨h₄, tk₄, news₄, rfl, F₄, N₄, off₄, hS₄, R₄⟩ := h₄
        have zI := (N₄ (I, oI) (by simp)).1
        have zC := (N₄ (C, oC) (by simp)).1
        have zD := (N₄ (D, LCg.lst ys) (by simp)).1
        have zK := N₄ (K, oK₃) (by simp)
        have N₄' : News h₀ L h₄ news₄ := fun p hp => N₄ p (List.mem_cons_of_mem _ (List.mem_cons_of_mem _ (List.mem_cons_of_mem _ (List.mem_cons_of_mem _ hp))))
        have hst₄ : St (i + 1) h₄ := hSt _ _ _ _ _ hst₃ heI zI F₄.keep N₄' hS₄
        refine append_at (hsz := by show ys.toArray.size ≤ sizeLine; rw [List.size_toArray, hyl]; exact Nat.le_trans hi hsz) zD fun h₅ hs₅ hD₅ => ?_
        have nD : ∀ b : Addr, b ≠ D → ∀ o, h₄.get? b = some o → h₅.get? b = some o := fun b hb o e => (hs₅.2 b hb).trans e
        have o3 := off₄.1.mem
        refine ⟨n + 1 - (i + 1), by omega, h₅, tk₄, i + 1, ys ++ [y], _, oK₃, some v, news₄, rfl, hlt, rfl, by rw [List.length_append, List.length_singleton, hyl], W.frame _ _ _ hst₄ fun b hb o e => nD b (fun q => hDf (q ▸ hb)) o e, F₄.change hs₅ (Ne.symm bL.1) hD₀,
          (hoC.ns zC).at' fun o e => nD C (Ne.symm hDC) o e, fun p hp => ?_, hdK₃, off₄.1, off₄.2, hS₄, ?_⟩
        · rcases List.mem_cons.mp hp with rfl | hp
          · exact ⟨hD₅.trans (congrArg some (LCg.lst_snoc ys y)), Ne.symm bL.1, hD₀⟩
          rcases List.mem_cons.mp hp with rfl | hp
          · exact ⟨nD K (Ne.symm hDK) _ zK.1, zK.2⟩
          · exact ⟨nD _ (o3 p hp).2.2 _ (N₄' p hp).1, (N₄' p hp).2⟩
        · rw [show n - (i + 1) = j by omega]
          exact R₄
      · obtain rfl : i = n := Nat.le_antisymm hi (Nat.not_lt.mp hlt)
        rw [Nat.sub_self] at R'
        refine W.done _ _ _ hst' fun h₂ tk₂ hk₂ => ?_
        have nI : ∀ b : Addr, b ≠ I → ∀ o, h'.get? b = some o → h₂.get? b = some o := fun b hb o e => hk₂ b o (by simpa using hb) e
        refine hRR D C h₂ tk₂ m' ys news' (LCg.fr_but F' hk₂ hIL hI₀) (fun p hp => ?_) off'.one (hn'.at' fun o e => nI C (Ne.symm bI.2.1) o e) hC₀ hD₀ (Ne.symm bL.2.1) (Ne.symm bL.1) (Ne.symm hDC) (fun p hp => (off3 p hp).2.1) R'
        rcases List.mem_cons.mp hp with rfl | hp
        · exact ⟨nI D (Ne.symm bI.1) _ (N' (D, _) (by simp)).1, Ne.symm bL.1, hD₀⟩
        · exact ⟨nI _ (off3 p hp).1 _ (N1 p hp).1, (N1 p hp).2⟩
    · rcases List.mem_cons.mp hp with rfl | hp
      · exact ⟨hD4, Ne.symm bL.1, hD₀⟩
      rcases List.mem_cons.mp hp with rfl | hp
      · exact ⟨hK4, Ne.symm bL.2.2, hK₀⟩
      · exact ⟨up _ _ (N p hp).1, (N p hp).2⟩
  exact codeAny_compStart_list (loop _ ⟨_, rfl⟩) (W.self 0 _ _ _ (W.frame _ _ _ hst fun b _ o e => up b o e) (loop _ ⟨_, rfl⟩))
end
def SrcK (prog : Program) (w : World) (A : Around) (h₀ : Heap) (L : Addr) (m : Str → Option Value) (env : Env) (elt : PySem.Expr) (x : Str) (scope : Scope) (cl : List (Str × Addr)) (Fin : Shared → List Value → List (Addr × Obj) → Prop) (xv : Value) (s₁ : Shared) : Prop :=
  (∃ ax its news, xv = .ref ax ∧ A.handled = none ∧ Fr h₀ L s₁.heap m ∧ News h₀ L s₁.heap news ∧ LCg.SrcAt h₀ ax its news ∧ its.size ≤ sizeLine ∧
    ∀ s₂ : Shared, (∃ h, s₂ = { s₁ with heap := h }) → RestK prog w A h₀ L m env elt x scope cl s₂ (LCg.SrcAt h₀ ax its) (fun i v => its[i]? = some v) (Fin s₂) its.size 0 [] news) ∨
  (∃ r a b t u v n news, xv = .ref r ∧ A.handled = none ∧ Fr h₀ L s₁.heap m ∧ News h₀ L s₁.heap news ∧ IsRange s₁.heap r a b 1 t u v ∧ Builtin.Range.small a b 1 = true ∧ Builtin.Range.rangeSize a b 1 = ((n : Nat) : Int) ∧ n ≤ sizeLine ∧
    ∀ s₂ : Shared, (∃ h, s₂ = { s₁ with heap := h }) → RestK prog w A h₀ L m env elt x scope cl s₂ (fun _ => True) (fun i v => ∃ t, v = .int (a + (i : Int)) t) (Fin s₂) n 0 [] news)
section
variable {prog : Program} {w : World} {A : Around} {E : Value → Shared → Prop} {s : Shared} {h₀ : Heap} {L : Addr} {m : Str → Option Value} {env : Env}
theorem SrcK.ledger {elt : PySem.Expr} {x : Str} {scope : Scope} {cl : List (Str × Addr)} {Fin : Shared → List Value → List (Addr × Obj) → Prop} {ax : Addr} {its : Array Value} {k : Nat} {news : List (Addr × Obj)} {s₁ : Shared}
    (hh : A.handled = none) (F : Fr h₀ L s₁.heap m) (N : News h₀ L s₁.heap news) (hm : (ax, ({ cls := .type "list", data := .seq its k } : Obj)) ∈ news) (hsz : its.size ≤ sizeLine) {n : Nat} (hn : its.size = n)
    (h : ∀ g, RestK prog w A h₀ L m env elt x scope cl { s₁ with heap := g } (LCg.SrcAt h₀ ax its) (fun i v => its[i]? = some v) (Fin { s₁ with heap := g }) n 0 [] news) :
    SrcK prog w A h₀ L m env elt x scope cl Fin (.ref ax) s₁ := by
  subst hn
  exact .inl ⟨ax, its, news, rfl, hh, F, N, .inr ⟨_, hm, rfl, _, rfl⟩, hsz, fun _ ⟨g, e⟩ => e ▸ h g⟩
theorem SrcK.range {elt : PySem.Expr} {x : Str} {scope : Scope} {cl : List (Str × Addr)} {Fin : Shared → List Value → List (Addr × Obj) → Prop} {r : Addr} {a b : Int} {t u v : Tok} {n : Nat} {news : List (Addr × Obj)} {s₁ : Shared}
    (hh : A.handled = none) (F : Fr h₀ L s₁.heap m) (N : News h₀ L s₁.heap news) (hr : IsRange s₁.heap r a b 1 t u v) (hsm : Builtin.Range.small a b 1 = true) (hn : Builtin.Range.rangeSize a b 1 = ((n : Nat) : Int)) (hsz : n ≤ sizeLine)
    (h : ∀ g, RestK prog w A h₀ L m env elt x scope cl { s₁ with heap := g } (fun _ => True) (fun i v => ∃ t, v = .int (a + (i : Int)) t) (Fin { s₁ with heap := g }) n 0 [] news) :
    SrcK prog w A h₀ L m env elt x scope cl Fin (.ref r) s₁ := .inr ⟨r, a, b, t, u, v, n, news, rfl, hh, F, N, hr, hsm, hn, hsz, fun _ ⟨g, e⟩ => e ▸ h g⟩
/-- the block, whichever its source, and what is done with its list -/
theorem srcK_block {elt iter : PySem.Expr} {x : Str} {px : Pos} {scope : Scope} {cl : List (Str × Addr)} {pos : Pos} {Fin : Shared → List Value → List (Addr × Obj) → Prop} {xv : Value} {s₁ : Shared} {RR : Value → Addr → Result → Shared → Prop}
    (hc : ∀ j, cellsFrom j scope.names cl = (x, j) :: cl) (hp : ∀ h, pushCells h scope.names = h.push noCell) (hkind : scope.kind = .function) (hx : (relabel scope env).names.lookup x = some .cell)
    (h : SrcK prog w A h₀ L m env elt x scope cl Fin xv s₁)
    (hRR : ∀ s₂ : Shared, (∃ h, s₂ = { s₁ with heap := h }) → ∀ D C h tk m' ys news', Fr h₀ L h m → News h₀ L h ((D, LCg.lst ys) :: news') → LCg.Off1 D news' → h.Ns C m' → h₀.get? C = none → h₀.get? D = none → C ≠ L → D ≠ L → C ≠ D → (∀ p ∈ news', p.1 ≠ C) → Fin s₂ ys news' → RR (.ref D) C (.ok .next) { s₂ with heap := h, toks := tk }) :
    wpAny (model prog w) A (pyIter xv) (fun it s₂ => wpAny (model prog w) A (newList []) (fun acc s₃ => wpAny (model prog w) A (newFunctionEnv scope env.globals cl [] env.qual none .none (some env)) (fun cenv s₄ =>
      codeAny (model prog w) A (.compStart (.ListComp elt [⟨.Name x px, iter, [], 0⟩] scope pos) 0 it acc { cenv with scope := relabel scope env }) (RR acc cenv.locals) s₄) E s₃) E s₂) E s₁ := by
  rcases h with ⟨ax, its, news, rfl, hh, F, N, S, hsz, R⟩ | ⟨r, a, b, t, u, v, n, news, rfl, hh, F, N, hr, hsm, hn, hsz, R⟩
  · have hl := S.list F.keep N
    have hlt : ax < s₁.heap.objs.size := by obtain ⟨_, e, _⟩ := hl; exact Heap.lt_size e
    refine wpAny_pyIter_list hl ?_
    have up : ∀ b o, s₁.heap.get? b = some o → (s₁.heap.push { cls := .type "list_iterator", data := .fields #[.ref ax, .int 0 0] }).get? b = some o := fun b o e => Heap.get?_push_of_some _ e
    refine blockK (Walks.list hh s₁.heap.objs.size ax (Nat.ne_of_lt hlt) its) hsz (fun i h st => by obtain ⟨o, e, _⟩ := st.1; exact ⟨o, e⟩) LCg.list_st hc hp hkind hx ⟨⟨_, Heap.get?_push_size _ rfl, rfl, rfl⟩, hl.push _⟩ (fun b hb => ?_)
      (F.keeps up) (N.grown up) (Nat.ne_of_lt F.ns.lt) (next_is_new F) (fun p hp => Nat.ne_of_lt (Heap.lt_size (N p hp).1)) S (R _ ⟨_, rfl⟩) (hRR _ ⟨_, rfl⟩)
    show b < (s₁.heap.push _).objs.size
    rw [Heap.size_push]
    rcases List.mem_cons.mp hb with rfl | hb
    · exact Nat.lt_succ_self _
    · rw [List.mem_singleton.mp hb]; exact Nat.lt_succ_of_lt hlt
  · refine wpAny_pyIter_range hr hsm ?_
    refine blockK (LCg.range_walks hh a n) hsz (fun i h st => ⟨_, st⟩) LCg.range_st hc hp hkind hx (by show IsRangeIter _ _ _ _ _; rw [hn]; simpa using Heap.get?_push_size _ rfl) (fun b hb => ?_)
      (F.keeps fun _ _ e => Heap.get?_push_of_some _ e) (N.grown fun _ _ e => Heap.get?_push_of_some _ e) (Nat.ne_of_lt F.ns.lt) (next_is_new F) (fun p hp => Nat.ne_of_lt (Heap.lt_size (N p hp).1)) trivial (R _ ⟨_, rfl⟩) (hRR _ ⟨_, rfl⟩)
    rw [List.mem_singleton.mp hb]
    show s₁.heap.objs.size < (s₁.heap.push _).objs.size
    rw [Heap.size_push]; exact Nat.lt_succ_self _
theorem news_off {h h'' : Heap} {C D : Addr} {oD : Obj} {news' : List (Addr × Obj)} (N' : News h₀ L h ((D, oD) :: news')) (hs'' : Heap.SameBut C h h'') (hCD : C ≠ D) (offC : ∀ p ∈ news', p.1 ≠ C) : News h₀ L h'' ((D, oD) :: news') := fun p hp => by
  refine ⟨(hs''.2 _ ?_).trans (N' p hp).1, (N' p hp).2⟩
  rcases List.mem_cons.mp hp with rfl | hp
  · exact Ne.symm hCD
  · exact offC p hp
theorem ListComp_K {elt iter : PySem.Expr} {x : Str} {px : Pos} {scope : Scope} {cl : List (Str × Addr)} {pos : Pos} {Q : Value → Shared → Prop} (_F₀ : Fr h₀ L s.heap m)
    (hclos : closureFor scope env = pure cl) (hc : ∀ j, cellsFrom j scope.names cl = (x, j) :: cl) (hp : ∀ h, pushCells h scope.names = h.push noCell) (hkind : scope.kind = .function) (hx : (relabel scope env).names.lookup x = some .cell)
    (hnames : ∀ y ∈ scope.names, y.2 = .local → scope.names.lookup y.1 = some .local)
    (h : wpAny (model prog w) A (eval iter env) (SrcK prog w A h₀ L m env elt x scope cl (fun s₂ => LCg.FinE h₀ L m s₂ Q)) E s)
    (hs : ∀ x, foldedSetIterable iter env x = pure x := by intro _; rfl) :
    wpAny (model prog w) A (eval (.ListComp elt [⟨.Name x px, iter, [], 0⟩] scope pos) env) Q E s := by
  rw [eval_ListComp]
  refine wpAny_comprehension_free (use := none) rfl hs hclos hkind hnames (wpAny_mono h (fun xv s₁ h₁ => srcK_block hc hp hkind hx h₁ ?_) fun _ _ e => e)
  intro s₂ _ D C h tk m' ys news' F' N' o1 hn hC₀ hD₀ hCL hDL hCD offC fin
  exact ⟨m', hn, fun h'' hs'' => fin D h'' tk (F'.change hs'' hCL hC₀) (news_off N' hs'' hCD offC) o1⟩
theorem Assign_ListComp_K {elt iter : PySem.Expr} {x y : Str} {px py : Pos} {scope : Scope} {cl : List (Str × Addr)} {pos spos : Pos} {Q : Flow → Shared → Prop} (_F₀ : Fr h₀ L s.heap m) (hLe : env.locals = L)
    (hsw : swapsWith (.ListComp elt [⟨.Name x px, iter, [], 0⟩] scope pos) (some (.Name y py)) spos.line env = pure true)
    (hclos : closureFor scope env = pure cl) (hc : ∀ j, cellsFrom j scope.names cl = (x, j) :: cl) (hp : ∀ h, pushCells h scope.names = h.push noCell) (hkind : scope.kind = .function) (hx : (relabel scope env).names.lookup x = some .cell)
    (hnames : ∀ z ∈ scope.names, z.2 = .local → scope.names.lookup z.1 = some .local)
    (hy : env.kindOf y = some .local) (hpl : (env.scope.kind == .class || (env.scope.kind == .module && env.locals != env.globals)) = false)
    (h : wpAny (model prog w) A (eval iter env) (SrcK prog w A h₀ L m env elt x scope cl (fun s₂ => LCg.FinA h₀ L m s₂ y Q)) E s)
    (hs : ∀ x, foldedSetIterable iter env x = pure x := by intro _; rfl) :
    wpAny (model prog w) A (exec (.Assign [.Name y py] (.ListComp elt [⟨.Name x px, iter, [], 0⟩] scope pos) spos) env) Q E s := by
  subst hLe
  rw [exec_Assign_Name_used _ _ _ _ hsw]
  refine wpAny_bind (wpAny_standAt (wpAny_bind ?_))
  show wpAny _ A (do let _ ← comprehension (.ListComp elt [⟨.Name x px, iter, [], 0⟩] scope pos) scope env _ (newList []) false (eval iter env) (some (assign (.Name y py) env))) _ _ s
  refine wpAny_bind (wpAny_mono (wpAny_comprehension_free (use := some (assign (.Name y py) env)) (Q := fun _ s' => Q .next s') rfl hs hclos hkind hnames
    (wpAny_mono h (fun xv s₁ h₁ => srcK_block hc hp hkind hx h₁ ?_) fun _ _ e => e)) (fun _ s' hq => wpAny_pure (wpAny_pure hq)) fun _ _ e => e)
  intro s₂ _ D C h' tk m' ys news' F' N' o1 hn hC₀ hD₀ hCL hDL hCD offC fin
  show wpAny _ A (assign (.Name y py) env (.ref D)) _ _ _
  refine wpAny_assign_Name (wpAny_storeName_local hy F'.ns (fun h₂ hn₂ hs₂ => ?_) hpl)
  have hL₀ : h₀.get? env.locals = none := Heap.get?_none_of_le F'.above
  have F₂ : Fr h₀ env.locals h₂ (fun z => if z = y then some (.ref D) else m z) := F'.set hn₂ hs₂
  have N₂ : News h₀ env.locals h₂ ((D, LCg.lst ys) :: news') := N'.set hs₂
  exact ⟨m', hn.sameBut hs₂ hCL, fun h'' hs'' => fin D h'' _ (F₂.change hs'' hCL hC₀) (news_off N₂ hs'' hCD offC) o1⟩
/-- a turn that leaves one new object -/
theorem EndK.one {m : Str → Option Value} {s₁ : Shared} {I C D K q : Addr} {oI oC oD oK oq : Obj} {S : List (Addr × Obj) → Prop} {rest : Value → List (Addr × Obj) → Prop} {y : Value} {h' : Heap} {tk : Nat} {news : List (Addr × Obj)}
    (F : Fr h₀ L h' m) (N : News h₀ L h' ((q, oq) :: (I, oI) :: (C, oC) :: (D, oD) :: (K, oK) :: news)) (o1 : LCg.Off1 q ((I, oI) :: (C, oC) :: (D, oD) :: (K, oK) :: news)) (o3 : LCg.Off3 I C D news) (ok : LCg.Off1 K news) (hS : S ((q, oq) :: news)) (r : rest y ((q, oq) :: news)) :
    EndK h₀ L m s₁ I oI C oC D oD K oK S rest y { s₁ with heap := h', toks := tk } := by
  refine ⟨h', tk, (q, oq) :: news, rfl, F, fun p hp => N p ?_, ⟨⟨⟨Ne.symm o1.1, Ne.symm o1.2.1, Ne.symm o1.2.2.1⟩, o3⟩, ⟨Ne.symm o1.2.2.2.1, ok⟩⟩, hS, r⟩
  simp only [List.mem_cons] at hp ⊢
  rcases hp with h | h | h | h | h | h
  · exact .inr (.inl h)
  · exact .inr (.inr (.inl h))
  · exact .inr (.inr (.inr (.inl h)))
  · exact .inr (.inr (.inr (.inr (.inl h))))
  · exact .inl h
  · exact .inr (.inr (.inr (.inr (.inr h))))
/-- a turn that leaves nothing new -/
theorem EndK.none {m : Str → Option Value} {s₁ : Shared} {I C D K : Addr} {oI oC oD oK : Obj} {S : List (Addr × Obj) → Prop} {rest : Value → List (Addr × Obj) → Prop} {y : Value} {h' : Heap} {tk : Nat} {news all : List (Addr × Obj)}
    (F : Fr h₀ L h' m) (N : News h₀ L h' all) (sub : ∀ p ∈ (I, oI) :: (C, oC) :: (D, oD) :: (K, oK) :: news, p ∈ all) (o3 : LCg.Off3 I C D news) (ok : LCg.Off1 K news) (hS : S news) (r : rest y news) :
    EndK h₀ L m s₁ I oI C oC D oD K oK S rest y { s₁ with heap := h', toks := tk } := ⟨h', tk, news, rfl, F, fun p hp => N p (sub p hp), ⟨o3, ok⟩, hS, r⟩
end

end
section
-- a list comprehension that keeps the ints for which a test holds: how many it keeps
def cnt3 (p : Int → Bool) (a b c : Int) : Nat := (p a).toNat + (p b).toNat + (p c).toNat
section
variable {prog : Program} {w : World} {A : Around} {E : Value → Shared → Prop} {s : Shared} {h₀ : Heap} {L : Addr} {m : Str → Option Value} {env : Env}
variable {ct elt : PySem.Expr} {x : Str} {scope : Scope} {cl : List (Str × Addr)} {S : List (Addr × Obj) → Prop} {P : Nat → Value → Prop} {Fin : List Value → List (Addr × Obj) → Prop} {news : List (Addr × Obj)} {p : Int → Bool}
def TestT (prog : Program) (w : World) (A : Around) (h₀ : Heap) (L : Addr) (m : Str → Option Value) (env : Env) (ct elt : PySem.Expr) (x : Str) (scope : Scope) (cl : List (Str × Addr)) (s : Shared) (news : List (Addr × Obj)) (p : Int → Bool) : Prop :=
  ∀ (n : Int) t I oI C oC D ys m₂ h tk, LCg.NsObj oC m₂ → m₂ x = some (.int n t) → Fr h₀ L h m → News h₀ L h ((I, oI) :: (C, oC) :: (D, LCg.lst ys) :: news) → LCg.Off3 I C D news →
    (∀ (Q' : Bool → Shared → Prop) (E' : Value → Shared → Prop), Q' (p n) { s with heap := h, toks := tk } → wpAny (model prog w) A (isTrue ct (compEnvC scope cl C env) (eval ct (compEnvC scope cl C env))) Q' E' { s with heap := h, toks := tk }) ∧
    (∀ (Q' : Value → Shared → Prop) (E' : Value → Shared → Prop), Q' (.int n t) { s with heap := h, toks := tk } → wpAny (model prog w) A (eval elt (compEnvC scope cl C env)) Q' E' { s with heap := h, toks := tk })
theorem filt_step {k i : Nat} {ys : List Value} {n : Int} (T : TestT prog w A h₀ L m env ct elt x scope cl s news p) (hv : ∀ v, P i v → ∃ t, v = .int n t) (hS : S news)
    (next : ∀ ys' : List Value, ys'.length = ys.length + (p n).toNat → LCt.CompRestT prog w A h₀ L m env ct elt x scope cl s S P Fin k (i + 1) ys' news) : LCt.CompRestT prog w A h₀ L m env ct elt x scope cl s S P Fin (k + 1) i ys news := by
  refine LCt.CompRestT.succ fun v I oI C oC D m₂ h tk E' hP hC hx F N off ne => ?_
  obtain ⟨t, rfl⟩ := hv v hP
  obtain ⟨T1, T2⟩ := T n t I oI C oC D ys m₂ h tk hC hx F N off
  refine T1 _ _ ?_
  cases e : p n with
  | true =>
    rw [if_pos rfl]
    refine T2 _ _ (LCg.CompEnd.intro F N news (fun _ hp => hp) off hS (next _ ?_))
    rw [e, List.length_append]; rfl
  | false =>
    rw [if_neg (by decide)]
    refine LCg.CompEnd.intro F N news (fun _ hp => hp) off hS (next _ ?_)
    rw [e]; rfl
theorem filt3 {a b c : Int} {ta tb tc : Tok} {ax : Addr} {n : Nat} {iter : PySem.Expr} {px : Pos} {pos : Pos} {Q : Value → Shared → Prop} (F₀ : Fr h₀ L s.heap m)
    (hclos : closureFor scope env = pure cl) (hcell : ∀ y ∈ scope.names, y.2 ≠ .cell) (hkind : scope.kind = .function)
    (hnames : ∀ y ∈ scope.names, y.2 = .local → scope.names.lookup y.1 = some .local) (hx : scope.names.lookup x = some .local)
    (h : wpAny (model prog w) A (eval iter env) (fun xv s₁ => xv = .ref ax ∧ A.handled = none ∧ Fr h₀ L s₁.heap m ∧ News h₀ L s₁.heap news ∧ (ax, listOf #[.int a ta, .int b tb, .int c tc] n) ∈ news ∧
      (∀ g, TestT prog w A h₀ L m env ct elt x scope cl { s₁ with heap := g } news p) ∧
      ∀ D ys g tk, ys.length = cnt3 p a b c → Fr h₀ L g m → News h₀ L g ((D, LCg.lst ys) :: news) → LCg.Off1 D news → Q (.ref D) { s₁ with heap := g, toks := tk }) E s)
    (hs : ∀ x, foldedSetIterable iter env x = pure x := by intro _; rfl) :
    wpAny (model prog w) A (eval (.ListComp elt [⟨.Name x px, iter, [ct], 0⟩] scope pos) env) Q E s := by
  refine LCt.ListComp_T F₀ hclos hcell hkind hnames hx (wpAny_mono h (fun xv s₁ h₁ => ?_) fun _ _ e => e) hs
  obtain ⟨rfl, hh, F, N, hm, T, fin⟩ := h₁
  refine LCt.CompSrcT.ledger hh F N hm (Nat.le_of_ble_eq_true rfl) fun g => ?_
  have hS : LCg.SrcAt h₀ ax #[.int a ta, .int b tb, .int c tc] news := .inr ⟨_, hm, rfl, _, rfl⟩
  refine filt_step (n := a) (T g) (fun v hv => ⟨ta, (Option.some.inj hv).symm⟩) hS fun y1 e1 => ?_
  refine filt_step (n := b) (T g) (fun v hv => ⟨tb, (Option.some.inj hv).symm⟩) hS fun y2 e2 => ?_
  refine filt_step (n := c) (T g) (fun v hv => ⟨tc, (Option.some.inj hv).symm⟩) hS fun y3 e3 => ?_
  refine LCt.CompRestT.zero fun D g2 tk F2 N2 o2 => fin D y3 g2 tk ?_ F2 N2 o2
  rw [e3, e2, e1, List.length_nil]; unfold cnt3; omega
theorem s_len {ax : Addr} {ys : List Value} {c : Nat} {Q : Value → Shared → Prop} (N : News h₀ L s.heap news) (hm : (ax, LCg.lst ys) ∈ news) (e : ys.length = c) (hc : c ≤ 3) (h : ∀ t k, Q (.int (c : Int) t) { s with toks := k }) : wpAny (model prog w) A (call (.builtin "len") [.ref ax]) Q E s := by
  subst e
  exact call_len_list (N.isList hm) (by rw [List.size_toArray]; omega) (by rw [List.size_toArray]; exact h _ _)
theorem cnt3_le (p : Int → Bool) (a b c : Int) : cnt3 p a b c ≤ 3 := by
  unfold cnt3
  cases p a <;> cases p b <;> cases p c <;> decide
end

end
section
-- the states between the law's statements
abbrev irow (x y z : Int) (t u v : Tok) : Obj := LCg.lst [.int x t, .int y u, .int z v]
abbrev rows4 (a b c d : Addr) : Obj := LCg.lst [.ref a, .ref b, .ref c, .ref d]
theorem cut_execs {prog : Program} {w : World} {A : Around} {env : Env} {Q : Flow → Shared → Prop} {E : Value → Shared → Prop} {s : Shared} {B : List Stmt} (P : List Stmt → (List Stmt → Shared → Prop) → Prop)
    (gate : P B (fun B s => wpAny (model prog w) A (execs B env) Q E s)) (use : P B (fun B s => wpAny (model prog w) A (execs B env) Q E s) → wpAny (model prog w) A (execs B env) Q E s) : wpAny (model prog w) A (execs B env) Q E s := use gate
inductive S1 (h₀ : Heap) (L : Addr) (S : Nat → Nat → Int) (lA lB sh : Int) (h : Heap) (m : Str → Option Value) : Prop
  | mk (qs : Addr) (ql : Addr) (a0 : Addr) (a1 : Addr) (a2 : Addr) (a3 : Addr) (o2 : Obj) (o3 : Obj) (tA : Tok) (tB : Tok) (ts : Tok) (t00 : Tok) (t01 : Tok) (t02 : Tok) (t10 : Tok) (t11 : Tok) (t12 : Tok) (t20 : Tok) (t21 : Tok) (t22 : Tok) (t30 : Tok) (t31 : Tok) (t32 : Tok) : m (Str.ofString "levels") = some (.ref ql) → o2.data = .cell (some (.ref qs)) → o3.data = .cell (some (.int sh ts)) → News h₀ L h [(qs, rows4 a0 a1 a2 a3), (a0, irow (S 0 0) (S 0 1) (S 0 2) t00 t01 t02), (a1, irow (S 1 0) (S 1 1) (S 1 2) t10 t11 t12), (a2, irow (S 2 0) (S 2 1) (S 2 2) t20 t21 t22), (a3, irow (S 3 0) (S 3 1) (S 3 2) t30 t31 t32), (ql, LCg.lst [.int lA tA, .int lB tB]), (L + 1 + 1 + 1, o3), (L + 1 + 1, o2)] → S1 h₀ L S lA lB sh h m
/-- the lights, out of the first four draws -/
def lights (d0 d1 d2 d3 : Int) (r c : Nat) : Int := ((match r with | 0 => d0 | 1 => d1 | 2 => d2 | _ => d3).fdiv (16 ^ c)).fmod 16
theorem lights_in (d0 d1 d2 d3 : Int) (r c : Nat) : 0 ≤ lights d0 d1 d2 d3 r c ∧ lights d0 d1 d2 d3 r c ≤ 15 := by
  unfold lights
  rw [Int.fmod_eq_emod_of_nonneg _ (by decide)]; omega
theorem lv_in (x : Int) : 1 ≤ 1 + x.fmod 15 ∧ 1 + x.fmod 15 ≤ 15 := by
  rw [Int.fmod_eq_emod_of_nonneg _ (by decide)]; omega
theorem sh_in (x : Int) : 0 ≤ x.fmod 29 ∧ x.fmod 29 ≤ 28 := by
  rw [Int.fmod_eq_emod_of_nonneg _ (by decide)]; omega
theorem off1_sub {p : Addr} {n all : List (Addr × Obj)} (o : LCg.Off1 p all) (s : SubL n all) : LCg.Off1 p n := off1_of fun x hx => off1_mem o x (s.mem x hx)
inductive S2 (h₀ : Heap) (L : Addr) (S P : Nat → Nat → Int) (lA lB sh : Int) (h : Heap) (m : Str → Option Value) : Prop
  | mk (p : Addr) (r0 : Addr) (r1 : Addr) (r2 : Addr) (r3 : Addr) (qs : Addr) (ql : Addr) (a0 : Addr) (a1 : Addr) (a2 : Addr) (a3 : Addr) (o2 : Obj) (o3 : Obj) (tA : Tok) (tB : Tok) (ts : Tok) (t00 : Tok) (t01 : Tok) (t02 : Tok) (t10 : Tok) (t11 : Tok) (t12 : Tok) (t20 : Tok) (t21 : Tok) (t22 : Tok) (t30 : Tok) (t31 : Tok) (t32 : Tok) (u00 : Tok) (u01 : Tok) (u02 : Tok) (u10 : Tok) (u11 : Tok) (u12 : Tok) (u20 : Tok) (u21 : Tok) (u22 : Tok) (u30 : Tok) (u31 : Tok) (u32 : Tok) : m (Str.ofString "picture") = some (.ref p) → m (Str.ofString "levels") = some (.ref ql) → o2.data = .cell (some (.ref qs)) → o3.data = .cell (some (.int sh ts)) → News h₀ L h [(p, prow r0 r1 r2 r3 4), (r0, frow (P 0 0) (P 0 1) (P 0 2) u00 u01 u02 3), (r1, frow (P 1 0) (P 1 1) (P 1 2) u10 u11 u12 3), (r2, frow (P 2 0) (P 2 1) (P 2 2) u20 u21 u22 3), (r3, frow (P 3 0) (P 3 1) (P 3 2) u30 u31 u32 3), (qs, rows4 a0 a1 a2 a3), (a0, irow (S 0 0) (S 0 1) (S 0 2) t00 t01 t02), (a1, irow (S 1 0) (S 1 1) (S 1 2) t10 t11 t12), (a2, irow (S 2 0) (S 2 1) (S 2 2) t20 t21 t22), (a3, irow (S 3 0) (S 3 1) (S 3 2) t30 t31 t32), (ql, LCg.lst [.int lA tA, .int lB tB]), (L + 1 + 1 + 1, o3), (L + 1 + 1, o2)] → LCg.Off1 p [(r0, frow (P 0 0) (P 0 1) (P 0 2) u00 u01 u02 3), (r1, frow (P 1 0) (P 1 1) (P 1 2) u10 u11 u12 3), (r2, frow (P 2 0) (P 2 1) (P 2 2) u20 u21 u22 3), (r3, frow (P 3 0) (P 3 1) (P 3 2) u30 u31 u32 3), (qs, rows4 a0 a1 a2 a3), (a0, irow (S 0 0) (S 0 1) (S 0 2) t00 t01 t02), (a1, irow (S 1 0) (S 1 1) (S 1 2) t10 t11 t12), (a2, irow (S 2 0) (S 2 1) (S 2 2) t20 t21 t22), (a3, irow (S 3 0) (S 3 1) (S 3 2) t30 t31 t32), (ql, LCg.lst [.int lA tA, .int lB tB]), (L + 1 + 1 + 1, o3), (L + 1 + 1, o2)] → S2 h₀ L S P lA lB sh h m
theorem CompEnd_one {h₀ : Heap} {L : Addr} {m : Str → Option Value} {s₁ : Shared} {I C D q : Addr} {oI oC oD oq : Obj} {S : List (Addr × Obj) → Prop} {rest : Value → List (Addr × Obj) → Prop} {y : Value} {h' : Heap} {tk : Nat} {news : List (Addr × Obj)}
    (F : Fr h₀ L h' m) (N : News h₀ L h' ((q, oq) :: (I, oI) :: (C, oC) :: (D, oD) :: news)) (o1 : LCg.Off1 q ((I, oI) :: (C, oC) :: (D, oD) :: news)) (o3 : LCg.Off3 I C D news) (hS : S ((q, oq) :: news)) (r : rest y ((q, oq) :: news)) :
    LCg.CompEnd h₀ L m s₁ I oI C oC D oD S rest y { s₁ with heap := h', toks := tk } := by
  refine ⟨h', tk, (q, oq) :: news, rfl, F, fun p hp => N p ?_, ⟨⟨Ne.symm o1.1, Ne.symm o1.2.1, Ne.symm o1.2.2.1⟩, o3⟩, hS, r⟩
  simp only [List.mem_cons] at hp ⊢
  rcases hp with h | h | h | h | h
  · exact .inr (.inl h)
  · exact .inr (.inr (.inl h))
  · exact .inr (.inr (.inr (.inl h)))
  · exact .inl h
  · exact .inr (.inr (.inr (.inr h)))
/-- how many lights of pixel r reach the level -/
def onesOf (S : Nat → Nat → Int) (l : Int) (r : Nat) : Int := (((decide (S r 0 ≥ l)).toNat + (decide (S r 1 ≥ l)).toNat + (decide (S r 2 ≥ l)).toNat : Nat) : Int)
inductive S3 (h₀ : Heap) (L : Addr) (S P : Nat → Nat → Int) (oA oB : Nat → Int) (lA lB sh : Int) (h : Heap) (m : Str → Option Value) : Prop
  | mk (f0 : Nat) (f1 : Nat) (f2 : Nat) (f3 : Nat) (p : Addr) (r0 : Addr) (r1 : Addr) (r2 : Addr) (r3 : Addr) (qo : Addr) (w0 : Addr) (w1 : Addr) (qs : Addr) (ql : Addr) (a0 : Addr) (a1 : Addr) (a2 : Addr) (a3 : Addr) (o2 : Obj) (o3 : Obj) (tA : Tok) (tB : Tok) (ts : Tok) (v0 : Tok) (v1 : Tok) (v2 : Tok) (v3 : Tok) (v4 : Tok) (v5 : Tok) (v6 : Tok) (v7 : Tok) (t00 : Tok) (t01 : Tok) (t02 : Tok) (t10 : Tok) (t11 : Tok) (t12 : Tok) (t20 : Tok) (t21 : Tok) (t22 : Tok) (t30 : Tok) (t31 : Tok) (t32 : Tok) (u00 : Tok) (u01 : Tok) (u02 : Tok) (u10 : Tok) (u11 : Tok) (u12 : Tok) (u20 : Tok) (u21 : Tok) (u22 : Tok) (u30 : Tok) (u31 : Tok) (u32 : Tok) : m (Str.ofString "ones") = some (.ref qo) → m (Str.ofString "picture") = some (.ref p) → m (Str.ofString "levels") = some (.ref ql) → o2.data = .cell (some (.ref qs)) → o3.data = .cell (some (.int sh ts)) → News h₀ L h [(p, prow r0 r1 r2 r3 4), (r0, frow (P 0 0) (P 0 1) (P 0 2) u00 u01 u02 f0), (r1, frow (P 1 0) (P 1 1) (P 1 2) u10 u11 u12 f1), (r2, frow (P 2 0) (P 2 1) (P 2 2) u20 u21 u22 f2), (r3, frow (P 3 0) (P 3 1) (P 3 2) u30 u31 u32 f3), (qo, LCg.lst [.ref w0, .ref w1]), (w0, listOf #[.int (oA 0) v0, .int (oA 1) v1, .int (oA 2) v2, .int (oA 3) v3] 4), (w1, listOf #[.int (oB 0) v4, .int (oB 1) v5, .int (oB 2) v6, .int (oB 3) v7] 4), (qs, rows4 a0 a1 a2 a3), (a0, irow (S 0 0) (S 0 1) (S 0 2) t00 t01 t02), (a1, irow (S 1 0) (S 1 1) (S 1 2) t10 t11 t12), (a2, irow (S 2 0) (S 2 1) (S 2 2) t20 t21 t22), (a3, irow (S 3 0) (S 3 1) (S 3 2) t30 t31 t32), (ql, LCg.lst [.int lA tA, .int lB tB]), (L + 1 + 1 + 1, o3), (L + 1 + 1, o2)] → LCg.Off1 p [(r0, frow (P 0 0) (P 0 1) (P 0 2) u00 u01 u02 f0), (r1, frow (P 1 0) (P 1 1) (P 1 2) u10 u11 u12 f1), (r2, frow (P 2 0) (P 2 1) (P 2 2) u20 u21 u22 f2), (r3, frow (P 3 0) (P 3 1) (P 3 2) u30 u31 u32 f3), (qo, LCg.lst [.ref w0, .ref w1]), (w0, listOf #[.int (oA 0) v0, .int (oA 1) v1, .int (oA 2) v2, .int (oA 3) v3] 4), (w1, listOf #[.int (oB 0) v4, .int (oB 1) v5, .int (oB 2) v6, .int (oB 3) v7] 4), (qs, rows4 a0 a1 a2 a3), (a0, irow (S 0 0) (S 0 1) (S 0 2) t00 t01 t02), (a1, irow (S 1 0) (S 1 1) (S 1 2) t10 t11 t12), (a2, irow (S 2 0) (S 2 1) (S 2 2) t20 t21 t22), (a3, irow (S 3 0) (S 3 1) (S 3 2) t30 t31 t32), (ql, LCg.lst [.int lA tA, .int lB tB]), (L + 1 + 1 + 1, o3), (L + 1 + 1, o2)] → S3 h₀ L S P oA oB lA lB sh h m
/-- the loop's state, with no heap -/
inductive LS (L : Addr) (ll : Addr) (lo : Obj) (p qs ql a0 a1 a2 a3 : Addr) (o2 o3 : Obj) (tA tB t00 t01 t02 t10 t11 t12 t20 t21 t22 t30 t31 t32 : Tok) (S : Nat → Nat → Int) (lA lB : Int) (P : Nat → Nat → Int) (oA oB : Nat → Int) (m : Str → Option Value) (n : List (Addr × Obj)) : Prop
  | mk (f0 : Nat) (f1 : Nat) (f2 : Nat) (f3 : Nat) (r0 : Addr) (r1 : Addr) (r2 : Addr) (r3 : Addr) (qo : Addr) (w0 : Addr) (w1 : Addr) (v0 : Tok) (v1 : Tok) (v2 : Tok) (v3 : Tok) (v4 : Tok) (v5 : Tok) (v6 : Tok) (v7 : Tok) (u00 : Tok) (u01 : Tok) (u02 : Tok) (u10 : Tok) (u11 : Tok) (u12 : Tok) (u20 : Tok) (u21 : Tok) (u22 : Tok) (u30 : Tok) (u31 : Tok) (u32 : Tok) : (∀ r c, 0 ≤ P r c ∧ P r c ≤ 15) → m (Str.ofString "ones") = some (.ref qo) → m (Str.ofString "picture") = some (.ref p) → m (Str.ofString "levels") = some (.ref ql) → n = [(ll, lo), (p, prow r0 r1 r2 r3 4), (r0, frow (P 0 0) (P 0 1) (P 0 2) u00 u01 u02 f0), (r1, frow (P 1 0) (P 1 1) (P 1 2) u10 u11 u12 f1), (r2, frow (P 2 0) (P 2 1) (P 2 2) u20 u21 u22 f2), (r3, frow (P 3 0) (P 3 1) (P 3 2) u30 u31 u32 f3), (qo, LCg.lst [.ref w0, .ref w1]), (w0, listOf #[.int (oA 0) v0, .int (oA 1) v1, .int (oA 2) v2, .int (oA 3) v3] 4), (w1, listOf #[.int (oB 0) v4, .int (oB 1) v5, .int (oB 2) v6, .int (oB 3) v7] 4), (qs, rows4 a0 a1 a2 a3), (a0, irow (S 0 0) (S 0 1) (S 0 2) t00 t01 t02), (a1, irow (S 1 0) (S 1 1) (S 1 2) t10 t11 t12), (a2, irow (S 2 0) (S 2 1) (S 2 2) t20 t21 t22), (a3, irow (S 3 0) (S 3 1) (S 3 2) t30 t31 t32), (ql, LCg.lst [.int lA tA, .int lB tB]), (L + 1 + 1 + 1, o3), (L + 1 + 1, o2)] → LCg.Off1 p [(ll, lo), (r0, frow (P 0 0) (P 0 1) (P 0 2) u00 u01 u02 f0), (r1, frow (P 1 0) (P 1 1) (P 1 2) u10 u11 u12 f1), (r2, frow (P 2 0) (P 2 1) (P 2 2) u20 u21 u22 f2), (r3, frow (P 3 0) (P 3 1) (P 3 2) u30 u31 u32 f3), (qo, LCg.lst [.ref w0, .ref w1]), (w0, listOf #[.int (oA 0) v0, .int (oA 1) v1, .int (oA 2) v2, .int (oA 3) v3] 4), (w1, listOf #[.int (oB 0) v4, .int (oB 1) v5, .int (oB 2) v6, .int (oB 3) v7] 4), (qs, rows4 a0 a1 a2 a3), (a0, irow (S 0 0) (S 0 1) (S 0 2) t00 t01 t02), (a1, irow (S 1 0) (S 1 1) (S 1 2) t10 t11 t12), (a2, irow (S 2 0) (S 2 1) (S 2 2) t20 t21 t22), (a3, irow (S 3 0) (S 3 1) (S 3 2) t30 t31 t32), (ql, LCg.lst [.int lA tA, .int lB tB]), (L + 1 + 1 + 1, o3), (L + 1 + 1, o2)] → LS L ll lo p qs ql a0 a1 a2 a3 o2 o3 tA tB t00 t01 t02 t10 t11 t12 t20 t21 t22 t30 t31 t32 S lA lB P oA oB m n
/-- what the plain law says of one level behind a round: the coloured rows of Q -/
def Told (Q : Nat → Nat → Int) (l : Int) (o : Nat → Int) (lim : Nat) (a b : Nat) : Prop :=
  (a ≤ b ∧ b ≤ a + 2 ∧ b ≤ 4 ∧ b ≤ a + lim) ∧ (min (min (nought o 0) (nought o 1)) (nought o 2) = (a : Int) ∧ max (max (nought o 0) (nought o 1)) (nought o 2) = (b : Int)) ∧
    ∀ r, r < 4 → (cl3 (bt (Q r 0) l) (bt (Q r 1) l) (bt (Q r 2) l) ≠ 0 ↔ a ≤ r ∧ r < b)
/-- the ones behind a round: how many noughts are at most r -/
def onesBy (o : Nat → Int) (r : Nat) : Int := ((cnt3 (fun n => decide (n ≤ (r : Int))) (nought o 0) (nought o 1) (nought o 2) : Nat) : Int)

end
section
-- the names of a run of places; a comprehension over a range whose length is a letter
noncomputable def upFrom (k : Int) : Nat → List Int
  | 0 => []
  | n + 1 => k :: upFrom (k + 1) n
theorem c_namesG (w : World) (rest : List (Addr × Obj)) (k n : Nat) (ys : List Value) (o : Addr) (e : Nat) (hy : IntsAre ys (upFrom (k : Int) n)) (hn : n ≤ 2) (hk : k + n ≤ 32) (dis : ∀ x ∈ rest, x.1 ∉ [o]) :
    Ctr w 6 116 [.ref o] ((o, listOf ys.toArray e) :: rest) (fun r m => m = (o, listOf ys.toArray e) :: rest ∧ ∃ t, r = .str (tell k n) t) := by
  match n, hn, hk, hy with
  | 0, _, _, hy =>
    cases hy.nil_inv
    exact c_names0 w rest k o e dis
  | 1, _, hk, hy =>
    obtain ⟨t, v, rfl, h⟩ := IntsAre.cons_inv hy
    cases h.nil_inv
    exact c_names1 w rest k _ t o e (by omega) rfl dis
  | 2, _, hk, hy =>
    obtain ⟨t, v, rfl, h⟩ := IntsAre.cons_inv hy
    obtain ⟨u, v2, rfl, h2⟩ := IntsAre.cons_inv h
    cases h2.nil_inv
    exact c_names2 w rest k _ _ t u o e (by omega) rfl (by omega) dis
section
variable {prog : Program} {w : World} {A : Around} {E : Value → Shared → Prop} {s : Shared} {h₀ : Heap} {L : Addr} {m : Str → Option Value} {env : Env}
variable {elt : PySem.Expr} {x : Str} {scope : Scope} {cl : List (Str × Addr)} {S : List (Addr × Obj) → Prop} {Fin : List Value → List (Addr × Obj) → Prop} {news : List (Addr × Obj)}
/-- the element, for each number: the number and d more -/
def EltT (prog : Program) (w : World) (A : Around) (h₀ : Heap) (L : Addr) (m : Str → Option Value) (env : Env) (elt : PySem.Expr) (x : Str) (scope : Scope) (cl : List (Str × Addr)) (s : Shared) (news : List (Addr × Obj)) (d : Int) : Prop :=
  ∀ (n : Int) t I oI C oC D ys m₂ h tk, LCg.NsObj oC m₂ → m₂ x = some (.int n t) → Fr h₀ L h m → News h₀ L h ((I, oI) :: (C, oC) :: (D, LCg.lst ys) :: news) → LCg.Off3 I C D news →
    ∀ (Q' : Value → Shared → Prop) (E' : Value → Shared → Prop), (∀ t' tk', Q' (.int (n + d) t') { s with heap := h, toks := tk' }) → wpAny (model prog w) A (eval elt (compEnvC scope cl C env)) Q' E' { s with heap := h, toks := tk }
theorem ints_snoc {ys : List Value} {ns : List Int} (h : IntsAre ys ns) (a : Int) (t : Tok) : IntsAre (ys ++ [.int a t]) (ns ++ [a]) := h.append (.cons a t .nil)
theorem range_step {a d : Int} (T : EltT prog w A h₀ L m env elt x scope cl s news d) (hS : S news) : ∀ (k i : Nat) (ys : List Value) (ns : List Int), IntsAre ys ns →
    (∀ zs, IntsAre zs (ns ++ upFrom (a + (i : Int) + d) k) → Fin zs news) → LCg.CompRest prog w A h₀ L m env elt x scope cl s S (fun i v => ∃ t, v = .int (a + (i : Int)) t) Fin k i ys news
  | 0, i, ys, ns, h, fin => LCg.CompRest.zero (fin ys (by simpa [upFrom] using h))
  | k + 1, i, ys, ns, h, fin => by
    refine LCg.CompRest.succ fun v I oI C oC D m₂ hp tk E' hP hC hx F N off ne => ?_
    obtain ⟨t, rfl⟩ := hP
    refine T _ t I oI C oC D ys m₂ hp tk hC hx F N off _ _ fun t' tk' => LCg.CompEnd.intro F N news (fun _ hp => hp) off hS ?_
    refine range_step T hS k (i + 1) _ (ns ++ [a + (i : Int) + d]) (ints_snoc h _ _) fun zs hz => fin zs ?_
    have e : a + ((i + 1 : Nat) : Int) + d = a + (i : Int) + d + 1 := by omega
    rw [e] at hz
    simpa [upFrom] using hz
end
-- the text's parts
def parts (n : Nat) : Nat := if n = 2 then 2 else 1
theorem split32 : ∀ i : Fin 32, (Txt.split (tell i.val 0) (Str.ofString ", ")).length = 1 ∧ (tell i.val 0).length ≤ 1000 ∧ (Txt.split (tell i.val 1) (Str.ofString ", ")).length = 1 ∧ (tell i.val 1).length ≤ 1000 ∧ (Txt.split (tell i.val 2) (Str.ofString ", ")).length = 2 ∧ (tell i.val 2).length ≤ 1000 := by decide +kernel
theorem split_tell {k n : Nat} (hk : k < 32) (hn : n ≤ 2) : (Txt.split (tell k n) (Str.ofString ", ")).length = parts n ∧ (tell k n).length ≤ 1000 := by
  have h := split32 ⟨k, hk⟩
  match n, hn with
  | 0, _ => exact ⟨h.1, h.2.1⟩
  | 1, _ => exact ⟨h.2.2.1, h.2.2.2.1⟩
  | 2, _ => exact ⟨h.2.2.2.2.1, h.2.2.2.2.2⟩
section
variable {prog : Program} {w : World} {A : Around} {E Q : Value → Shared → Prop} {s : Shared} {h₀ : Heap} {L : Addr} {m : Str → Option Value} {news : List (Addr × Obj)}
theorem s_split {k n : Nat} {t u : Tok} (hF : Fr h₀ L s.heap m) (hN : News h₀ L s.heap news) (hk : k < 32) (hn : n ≤ 2)
    (h : ∀ D vs h' tk, vs.length = parts n → Fr h₀ L h' m → News h₀ L h' ((D, listOf (List.toArray vs) 0) :: news) → (∀ p ∈ news, p.1 < D) → Q (.ref D) { s with heap := h', toks := tk }) :
    wpAny (model prog w) A (call (.builtin "str.split") [.str (tell k n) t, .str (Str.ofString ", ") u]) Q E s := by
  have e := split_tell hk hn
  refine splitN1 hF hN (by decide) (fun l h' tk hl F' N' => h _ (strValues l) h' tk ?_ F' N' fun p hp => Heap.lt_size (hN p hp).1) (Nat.le_trans (Nat.add_le_add_right e.2 2) (Nat.le_of_ble_eq_true rfl))
  rw [← e.1, ← hl]; simp [strValues]
theorem s_len2 {ax : Addr} {vs : List Value} {c n : Nat} (N : News h₀ L s.heap news) (hm : (ax, listOf vs.toArray n) ∈ news) (e : vs.length = c) (hc : c ≤ 1000) (h : ∀ t k, Q (.int (c : Int) t) { s with toks := k }) : wpAny (model prog w) A (call (.builtin "len") [.ref ax]) Q E s := by
  subst e
  exact call_len_list (N.isList hm) (by rw [List.size_toArray]; omega) (by rw [List.size_toArray]; exact h _ _)
end

end
section
-- bounds of a round; addresses
theorem in_lo {a b c : Int} (ha : 0 ≤ a ∧ a ≤ 15) (hb : 0 ≤ b ∧ b ≤ 15) (hc : 0 ≤ c ∧ c ≤ 15) : (0 ≤ lo3 a b c ∧ lo3 a b c ≤ 15) ∧ (0 ≤ mi3 a b c ∧ mi3 a b c ≤ 15) ∧ (0 ≤ hi3 a b c ∧ hi3 a b c ≤ 15) := by
  obtain ⟨h0, h1, h2, _, _, _, _, _, _, h3, h4⟩ := lohi ha hb hc
  unfold mi3
  exact ⟨⟨h0, Int.le_trans h1 h2⟩, ⟨Int.le_trans h0 h4, Int.le_trans h3 h2⟩, ⟨Int.le_trans h0 h1, h2⟩⟩
theorem in_n {a b c d : Int} (ha : 0 ≤ a ∧ a ≤ 15) (hb : 0 ≤ b ∧ b ≤ 15) (hc : 0 ≤ c ∧ c ≤ 15) (hd : 0 ≤ d ∧ d ≤ 15) : Lt15 (n0 a b c d) ∧ Lt15 (n1 a b c d) ∧ Lt15 (n2 a b c d) ∧ Lt15 (n3 a b c d) :=
  ⟨.mn (.mn ha hb) (.mn hc hd), .mn (.mn (.mx ha hb) (.mx hc hd)) (.mx (.mn ha hb) (.mn hc hd)), .mx (.mn (.mx ha hb) (.mx hc hd)) (.mx (.mn ha hb) (.mn hc hd)), .mx (.mx ha hb) (.mx hc hd)⟩
theorem acr_in {P : Nat → Nat → Int} (h : ∀ r c, 0 ≤ P r c ∧ P r c ≤ 15) (r c : Nat) : 0 ≤ acr P r c ∧ acr P r c ≤ 15 := by
  have e := in_lo (h r 0) (h r 1) (h r 2)
  unfold acr
  split
  · split
    · exact e.1
    · exact e.2.1
    · exact e.2.2
  · split
    · exact e.2.2
    · exact e.2.1
    · exact e.1
theorem dwn_in {P : Nat → Nat → Int} (h : ∀ r c, 0 ≤ P r c ∧ P r c ≤ 15) (r c : Nat) : 0 ≤ dwn P r c ∧ dwn P r c ≤ 15 := by
  have e := in_n (h 0 c) (h 1 c) (h 2 c) (h 3 c)
  unfold dwn
  split
  · exact e.1
  · exact e.2.1
  · exact e.2.2.1
  · exact e.2.2.2
theorem dis5 {rest : List (Addr × Obj)} {p q0 q1 q2 q3 : Addr} (hp : ∀ x ∈ rest, x.1 ≠ p) (h : ∀ x ∈ rest, x.1 < q0) (h1 : ltA q0 q1) (h2 : ltA q1 q2) (h3 : ltA q2 q3) : ∀ x ∈ rest, x.1 ∉ [p, q0, q1, q2, q3] := fun x hx hm => by
  have a : (x.1 : Nat) < q0 := h x hx
  have b : (q0 : Nat) < q1 := h1
  have c : (q1 : Nat) < q2 := h2
  have d : (q2 : Nat) < q3 := h3
  simp only [List.mem_cons, List.not_mem_nil, or_false] at hm
  rcases hm with e | e | e | e | e
  · exact hp x hx e
  · exact Nat.ne_of_lt a e
  · exact Nat.ne_of_lt (Nat.lt_trans a b) e
  · exact Nat.ne_of_lt (Nat.lt_trans a (Nat.lt_trans b c)) e
  · exact Nat.ne_of_lt (Nat.lt_trans a (Nat.lt_trans b (Nat.lt_trans c d))) e

end
section
-- a contract used where its objects lie anywhere in the ledger
theorem ctr_mem {w : World} {k : Nat} {f : Addr} {vs : List Value} {led news : List (Addr × Obj)} {Post : Value → List (Addr × Obj) → Prop} (hled : ∀ x ∈ led, x ∈ news)
    (C : ∀ rest : List (Addr × Obj), (∀ x ∈ rest, x.1 ∉ led.map (·.1)) → Ctr w k f vs (led ++ rest) (fun r n => ∃ new, n = new ++ (led ++ rest) ∧ (∀ p ∈ led ++ rest, ∀ q ∈ new, p.1 < q.1) ∧ Post r new)) :
    Ctr w k f vs news (fun r n => ∃ new, n = new ++ news ∧ (∀ p ∈ news, ∀ q ∈ new, p.1 < q.1) ∧ Post r new) := by
  intro mean mg mb dp un gd cn cs a ccd cl outer A₀ base h₀ L m s Q E B F X N T hk hr ret
  have split : ∀ p ∈ news, p ∈ led ++ news.filter (fun x => decide (x.1 ∉ led.map (·.1))) := fun p hp => by
    by_cases hq : p.1 ∈ led.map (·.1)
    · obtain ⟨x, hx, e⟩ := List.mem_map.mp hq
      have h1 := (N x (hled x hx)).1
      have h2 := (N p hp).1
      rw [e, h2] at h1
      have e2 : p = x := Prod.ext e.symm (Option.some.inj h1)
      rw [e2]
      exact List.mem_append_left _ hx
    · exact List.mem_append_right _ (List.mem_filter.mpr ⟨hp, decide_eq_true hq⟩)
  have N' : News h₀ L s.heap (led ++ news.filter (fun x => decide (x.1 ∉ led.map (·.1)))) := fun p hp => by
    rcases List.mem_append.mp hp with hp | hp
    · exact N p (hled p hp)
    · exact N p (List.mem_filter.mp hp).1
  refine C _ (fun x hx => of_decide_eq_true (List.mem_filter.mp hx).2) mean mg mb dp un gd cn cs a ccd cl outer A₀ base h₀ L m s Q E B F X N' T hk hr fun r n h' tk' F2 N2 P2 => ?_
  obtain ⟨new, rfl, lt, post⟩ := P2
  refine ret r (new ++ news) h' tk' F2 (fun p hp => ?_) ⟨new, rfl, fun p hp => lt p (split p hp), post⟩
  rcases List.mem_append.mp hp with hp | hp
  · exact N2 p (List.mem_append_left _ hp)
  · exact N2 p (List.mem_append_right _ (split p hp))
theorem c_namesM (w : World) (news : List (Addr × Obj)) (k n : Nat) (ys : List Value) (o : Addr) (e : Nat) (hm : (o, listOf ys.toArray e) ∈ news) (hy : IntsAre ys (upFrom (k : Int) n)) (hn : n ≤ 2) (hk : k + n ≤ 32) :
    Ctr w 6 116 [.ref o] news (fun r m => m = news ∧ ∃ t, r = .str (tell k n) t) := by
  have C := ctr_mem (w := w) (k := 6) (f := 116) (vs := [.ref o]) (led := [(o, listOf ys.toArray e)]) (news := news)
    (Post := fun r new => new = [] ∧ ∃ t, r = .str (tell k n) t) (fun x hx => by rw [List.mem_singleton.mp hx]; exact hm) (fun rest dis => by
      refine ctr_mono (c_namesG w rest k n ys o e hy hn hk dis) ?_
      rintro r m ⟨rfl, t, rfl⟩
      exact ⟨[], rfl, fun _ _ _ h => (nomatch h), rfl, t, rfl⟩)
  refine ctr_mono C ?_
  rintro r m ⟨new, rfl, _, rfl, t, rfl⟩
  exact ⟨rfl, t, rfl⟩
theorem c_colouredM (w : World) (news : List (Addr × Obj)) (P : Nat → Nat → Int) (hP : ∀ r c, 0 ≤ P r c ∧ P r c ≤ 15) (p r0 r1 r2 r3 : Addr) (e e0 e1 e2 e3 : Nat) (t00 t01 t02 t10 t11 t12 t20 t21 t22 t30 t31 t32 : Tok)
    (level : Int) (k a b : Nat) (tl ts : Tok) (hl : 1 ≤ level ∧ level ≤ 15) (hs : k ≤ 28) (hab : a ≤ b ∧ b ≤ a + 2 ∧ b ≤ 4)
    (hc : ∀ r, r < 4 → (cl3 (bt (P r 0) level) (bt (P r 1) level) (bt (P r 2) level) ≠ 0 ↔ a ≤ r ∧ r < b)) (hm : ∀ x ∈ [(p, prow r0 r1 r2 r3 e), (r0, frow (P 0 0) (P 0 1) (P 0 2) t00 t01 t02 e0), (r1, frow (P 1 0) (P 1 1) (P 1 2) t10 t11 t12 e1), (r2, frow (P 2 0) (P 2 1) (P 2 2) t20 t21 t22 e2), (r3, frow (P 3 0) (P 3 1) (P 3 2) t30 t31 t32 e3)], x ∈ news) :
    Ctr w 6 104 [.ref p, .int level tl, .int (k : Int) ts] news (ColP news (k + a) (b - a)) :=
  c_coloured w news P hP p r0 r1 r2 r3 e e0 e1 e2 e3 t00 t01 t02 t10 t11 t12 t20 t21 t22 t30 t31 t32 level k a b tl ts hl hs hab hc (hm _ (.head _)) (hm _ (.tail _ (.head _))) (hm _ (.tail _ (.tail _ (.head _)))) (hm _ (.tail _ (.tail _ (.tail _ (.head _))))) (hm _ (.tail _ (.tail _ (.tail _ (.tail _ (.head _))))))

end
section
-- rules for the rest of the loop's turn and for the end
section
variable {prog : Program} {w : World} {A : Around} {E Q : Value → Shared → Prop} {s : Shared} {h₀ : Heap} {L : Addr} {m : Str → Option Value} {news : List (Addr × Obj)}
theorem s_min3 {ax : Addr} {a b c x : Int} {ta tb tc : Tok} {n : Nat} (hh : A.handled = none) (F : Fr h₀ L s.heap m) (N : News h₀ L s.heap news) (hm : (ax, listOf #[.int a ta, .int b tb, .int c tc] n) ∈ news) (hx : min (min a b) c = x)
    (h : ∀ h' t tk, Fr h₀ L h' m → News h₀ L h' news → Q (.int x t) { s with heap := h', toks := tk }) : wpAny (model prog w) A (call (.builtin "min") [.ref ax]) Q E s := by
  refine min_list_N (vs := [.int a ta, .int b tb, .int c tc]) (ns := [a, b, c]) hh F N (N.isList hm) (.cons a ta (.cons b tb (.cons c tc .nil))) (Nat.succ_pos 2) fun h' M t tk F' N' hM hle => ?_
  have h1 := hle a (by simp)
  have h2 := hle b (by simp)
  have h3 := hle c (by simp)
  simp only [List.mem_cons, List.not_mem_nil, or_false] at hM
  have e : M = x := by
    subst hx
    refine Int.le_antisymm (Int.le_min.mpr ⟨Int.le_min.mpr ⟨h1, h2⟩, h3⟩) ?_
    rcases hM with e | e | e <;> rw [e]
    · exact Int.le_trans (Int.min_le_left ..) (Int.min_le_left ..)
    · exact Int.le_trans (Int.min_le_left ..) (Int.min_le_right ..)
    · exact Int.min_le_right ..
  rw [e]
  exact h h' t tk F' N'
theorem s_max3 {ax : Addr} {a b c x : Int} {ta tb tc : Tok} {n : Nat} (hh : A.handled = none) (F : Fr h₀ L s.heap m) (N : News h₀ L s.heap news) (hm : (ax, listOf #[.int a ta, .int b tb, .int c tc] n) ∈ news) (hx : max (max a b) c = x)
    (h : ∀ h' t tk, Fr h₀ L h' m → News h₀ L h' news → Q (.int x t) { s with heap := h', toks := tk }) : wpAny (model prog w) A (call (.builtin "max") [.ref ax]) Q E s := by
  refine max_list_N (vs := [.int a ta, .int b tb, .int c tc]) (ns := [a, b, c]) hh F N (N.isList hm) (.cons a ta (.cons b tb (.cons c tc .nil))) (Nat.succ_pos 2) fun h' M t tk F' N' hM hle => ?_
  have h1 := hle a (by simp)
  have h2 := hle b (by simp)
  have h3 := hle c (by simp)
  simp only [List.mem_cons, List.not_mem_nil, or_false] at hM
  have e : M = x := by
    subst hx
    refine Int.le_antisymm ?_ (Int.max_le.mpr ⟨Int.max_le.mpr ⟨h1, h2⟩, h3⟩)
    rcases hM with e | e | e <;> rw [e]
    · exact Int.le_trans (Int.le_max_left ..) (Int.le_max_left ..)
    · exact Int.le_trans (Int.le_max_right ..) (Int.le_max_left ..)
    · exact Int.le_max_right ..
  rw [e]
  exact h h' t tk F' N'
theorem s_range2 {a b : Int} {t u : Tok} (F : Fr h₀ L s.heap m) (N : News h₀ L s.heap news)
    (h : ∀ r h' tk t₁ u₁ v₁, IsRange h' r a b 1 t₁ u₁ v₁ → Fr h₀ L h' m → News h₀ L h' news → Q (.ref r) { s with heap := h', toks := tk }) : wpAny (model prog w) A (call (.type "range") [.int a t, .int b u]) Q E s :=
  range2_rows F N fun h' tk t₁ u₁ v₁ R F' N' _ => h _ h' tk t₁ u₁ v₁ R F' N'
theorem s_ne_same {x : Str} {t u : Tok} (h : Q (.bool false) s) : wpAny (model prog w) A (compareOp .NotEq (.str x t) (.str x u)) Q E s := by
  refine ne_str ?_
  rw [bne_self_eq_false]
  exact h
theorem s_addE {n d : Int} {t u : Tok} (h : ∀ t' tk', Q (.int (n + d) t') { s with toks := tk' }) : wpAny (model prog w) A (binaryOp .Add (.int n t) (.int d u)) Q E s := PyProof.Rows.add_int (h _ _)
theorem s_gtN {a b : Nat} {t u : Tok} (hab : a ≤ b) (h : Q (.bool false) s) : wpAny (model prog w) A (compareOp .Gt (.int (a : Int) t) (.int (b : Int) u)) Q E s := by
  refine PyProof.Rows.gt_int ?_
  rw [decide_eq_false (by omega)]
  exact h
end
section
variable {prog : Program} {w : World} {A : Around} {E : Value → Shared → Prop} {s : Shared} {h₀ : Heap} {L : Addr} {m : Str → Option Value} {env : Env}
variable {elt : PySem.Expr} {x : Str} {scope : Scope} {cl : List (Str × Addr)} {news : List (Addr × Obj)}
/-- a range from a up to b, short, and what is done with the numbers shifted by k -/
def RSrc (prog : Program) (w : World) (A : Around) (h₀ : Heap) (L : Addr) (m : Str → Option Value) (env : Env) (elt : PySem.Expr) (x : Str) (scope : Scope) (cl : List (Str × Addr)) (k : Nat) (Q : Value → Shared → Prop) (xv : Value) (s₁ : Shared) : Prop :=
  ∃ (a b : Nat) (r : Addr) (t u v : Tok) (news : List (Addr × Obj)), xv = .ref r ∧ A.handled = none ∧ Fr h₀ L s₁.heap m ∧ News h₀ L s₁.heap news ∧ IsRange s₁.heap r (a : Int) (b : Int) 1 t u v ∧ (a ≤ b ∧ b ≤ a + 2 ∧ b ≤ 4) ∧
    (∀ g, EltT prog w A h₀ L m env elt x scope cl { s₁ with heap := g } news (k : Int)) ∧
    ∀ D ys g tk, IntsAre ys (upFrom ((k + a : Nat) : Int) (b - a)) → Fr h₀ L g m → News h₀ L g ((D, LCg.lst ys) :: news) → LCg.Off1 D news → Q (.ref D) { s₁ with heap := g, toks := tk }
theorem RSrc.intro {k a b : Nat} {r : Addr} {t u v : Tok} {Q : Value → Shared → Prop} {s₁ : Shared} (hh : A.handled = none) (F : Fr h₀ L s₁.heap m) (N : News h₀ L s₁.heap news) (hr : IsRange s₁.heap r (a : Int) (b : Int) 1 t u v) (hab : a ≤ b ∧ b ≤ a + 2 ∧ b ≤ 4)
    (T : ∀ g, EltT prog w A h₀ L m env elt x scope cl { s₁ with heap := g } news (k : Int))
    (fin : ∀ D ys g tk, IntsAre ys (upFrom ((k + a : Nat) : Int) (b - a)) → Fr h₀ L g m → News h₀ L g ((D, LCg.lst ys) :: news) → LCg.Off1 D news → Q (.ref D) { s₁ with heap := g, toks := tk }) :
    RSrc prog w A h₀ L m env elt x scope cl k Q (.ref r) s₁ := ⟨a, b, r, t, u, v, news, rfl, hh, F, N, hr, hab, T, fin⟩
theorem range_small {a b : Nat} (h : a ≤ b ∧ b ≤ a + 2 ∧ b ≤ 4) : Builtin.Range.small (a : Int) (b : Int) 1 = true ∧ Builtin.Range.rangeSize (a : Int) (b : Int) 1 = ((b - a : Nat) : Int) ∧ b - a ≤ sizeLine := by
  have e : ∀ i j : Fin 5, i.val ≤ j.val → Builtin.Range.small (i.val : Int) (j.val : Int) 1 = true ∧ Builtin.Range.rangeSize (i.val : Int) (j.val : Int) 1 = ((j.val - i.val : Nat) : Int) := by decide
  have e1 := e ⟨a, by omega⟩ ⟨b, by omega⟩ h.1
  exact ⟨e1.1, e1.2, Nat.le_trans (show b - a ≤ 4 by omega) (Nat.le_of_ble_eq_true rfl)⟩
theorem rangeCompN {k : Nat} {iter : PySem.Expr} {px : Pos} {pos : Pos} {Q : Value → Shared → Prop} (F₀ : Fr h₀ L s.heap m) (_hk : k ≤ 28)
    (hclos : closureFor scope env = pure cl) (hcell : ∀ y ∈ scope.names, y.2 ≠ .cell) (hkind : scope.kind = .function)
    (hnames : ∀ y ∈ scope.names, y.2 = .local → scope.names.lookup y.1 = some .local) (hx : scope.names.lookup x = some .local)
    (h : wpAny (model prog w) A (eval iter env) (RSrc prog w A h₀ L m env elt x scope cl k Q) E s)
    (hs : ∀ x, foldedSetIterable iter env x = pure x := by intro _; rfl) :
    wpAny (model prog w) A (eval (.ListComp elt [⟨.Name x px, iter, [], 0⟩] scope pos) env) Q E s := by
  refine LCg.ListComp_U F₀ hclos hcell hkind hnames hx (wpAny_mono h (fun xv s₁ h₁ => ?_) fun _ _ e => e) hs
  obtain ⟨a, b, r, t, u, v, news, rfl, hh, F, N, hr, hab, T, fin⟩ := h₁
  obtain ⟨hsm, hn, hsz⟩ := range_small hab
  refine LCg.CompSrc.range hh F N hr hsm hn hsz fun g => ?_
  refine range_step (T g) trivial (b - a) 0 [] [] .nil fun zs hz => fun D g2 tk F2 N2 o2 => fin D zs g2 tk ?_ F2 N2 o2
  have e : (a : Int) + ((0 : Nat) : Int) + (k : Int) = ((k + a : Nat) : Int) := by omega
  rw [e] at hz
  simpa using hz
end
theorem parts_le {a b lim : Nat} (h : b ≤ a + lim) (h1 : 1 ≤ lim) : parts (b - a) ≤ lim := by
  unfold parts
  split <;> omega
theorem parts_small (n : Nat) : parts n ≤ 1000 := by
  unfold parts
  split <;> omega
theorem run2 {a b : Nat} (h : a ≤ b ∧ b ≤ a + 2 ∧ b ≤ 4) : b - a ≤ 2 := by omega
theorem run32 {a b k : Nat} (h : a ≤ b ∧ b ≤ a + 2 ∧ b ≤ 4) (hk : k ≤ 28) : k + a + (b - a) ≤ 32 := by omega
theorem tell_none (k : Nat) : tell k 0 = tell 0 0 := by unfold tell; rfl
section
variable {prog : Program} {w : World} {A : Around} {E Q : Value → Shared → Prop} {s : Shared} {h₀ : Heap} {L : Addr} {m : Str → Option Value} {news : List (Addr × Obj)}
theorem s_splitR {k a b : Nat} {t u : Tok} (hF : Fr h₀ L s.heap m) (hN : News h₀ L s.heap news) (hk : k ≤ 28) (hab : a ≤ b ∧ b ≤ a + 2 ∧ b ≤ 4)
    (h : ∀ D vs h' tk, vs.length = parts (b - a) → Fr h₀ L h' m → News h₀ L h' ((D, listOf (List.toArray vs) 0) :: news) → (∀ p ∈ news, p.1 < D) → Q (.ref D) { s with heap := h', toks := tk }) :
    wpAny (model prog w) A (call (.builtin "str.split") [.str (tell (k + a) (b - a)) t, .str (Str.ofString ", ") u]) Q E s := by
  by_cases e : b - a = 0
  · rw [e] at h ⊢
    rw [tell_none]
    exact s_split hF hN (by decide) (by decide) h
  · exact s_split hF hN (by omega) (by omega) h
end

end
section
-- gates for the law's own loops: one turn walked with a small ledger, its rest a letter
section
variable {prog : Program} {w : World} {A : Around} {h₀ : Heap} {L : Addr} {m : Str → Option Value} {env : Env} {s : Shared}
def TurnK (prog : Program) (w : World) (A : Around) (h₀ : Heap) (L : Addr) (m : Str → Option Value) (env : Env) (elt : PySem.Expr) (x : Str) (scope : Scope) (cl : List (Str × Addr)) (s : Shared) (S : List (Addr × Obj) → Prop) (n : List (Addr × Obj)) (v : Value) (ys : List Value) (R : Value → List (Addr × Obj) → Prop) : Prop :=
  ∀ I oI C oC K oK D m₂ h tk (E' : Value → Shared → Prop), LCg.NsObj oC m₂ → oK.data = .cell (some v) → Fr h₀ L h m → News h₀ L h ((I, oI) :: (C, oC) :: (D, LCg.lst ys) :: (K, oK) :: n) → LCg.Off3 I C D n → LCg.Off1 K n →
      ((@Ne Nat I C) ∧ (@Ne Nat I D) ∧ (@Ne Nat C D) ∧ (@Ne Nat K I) ∧ (@Ne Nat K C) ∧ (@Ne Nat K D)) →
      wpAny (model prog w) A (eval elt (compEnvC scope ((x, K) :: cl) C env)) (EndK h₀ L m { s with heap := h, toks := tk } I oI C oC D (LCg.lst ys) K oK S R) E' { s with heap := h, toks := tk }
/-- four ints told by a function -/
abbrev row4 (f : Nat → Int) (t0 t1 t2 t3 : Tok) : Obj := listOf #[.int (f 0) t0, .int (f 1) t1, .int (f 2) t2, .int (f 3) t3] 4
theorem restK4 {elt : PySem.Expr} {x : Str} {scope : Scope} {cl : List (Str × Addr)} {S : List (Addr × Obj) → Prop} {Fin : List Value → List (Addr × Obj) → Prop} {n : List (Addr × Obj)} (f : Nat → Int) (CN : List (Addr × Obj) → Prop) (hN : CN n)
    (turn : ∀ (i : Nat) (t : Tok) ys n' R, i < 4 → CN n' → (∀ t, R (.int (f i) t) n') → TurnK prog w A h₀ L m env elt x scope cl s S n' (.int (i : Int) t) ys R)
    (fin : ∀ t0 t1 t2 t3, Fin [.int (f 0) t0, .int (f 1) t1, .int (f 2) t2, .int (f 3) t3] n) :
    RestK prog w A h₀ L m env elt x scope cl s S (fun i v => ∃ t, v = .int ((0 : Int) + (i : Int)) t) Fin 4 0 [] n := by
  have go : ∀ (i : Nat) ys (R : Value → List (Addr × Obj) → Prop), i < 4 → (∀ t, R (.int (f i) t) n) → ∀ v I oI C oC K oK D m₂ h tk (E' : Value → Shared → Prop), (∃ t, v = .int ((0 : Int) + (i : Int)) t) → LCg.NsObj oC m₂ → oK.data = .cell (some v) → Fr h₀ L h m → News h₀ L h ((I, oI) :: (C, oC) :: (D, LCg.lst ys) :: (K, oK) :: n) → LCg.Off3 I C D n → LCg.Off1 K n →
      ((@Ne Nat I C) ∧ (@Ne Nat I D) ∧ (@Ne Nat C D) ∧ (@Ne Nat K I) ∧ (@Ne Nat K C) ∧ (@Ne Nat K D)) →
      wpAny (model prog w) A (eval elt (compEnvC scope ((x, K) :: cl) C env)) (EndK h₀ L m { s with heap := h, toks := tk } I oI C oC D (LCg.lst ys) K oK S R) E' { s with heap := h, toks := tk } := by
    intro i ys R hi hR v I oI C oC K oK D m₂ h tk E' hv
    obtain ⟨t, rfl⟩ := hv
    rw [Int.zero_add]
    exact turn i t ys n R hi hN hR I oI C oC K oK D m₂ h tk E'
  refine fun v I oI C oC K oK D m₂ h tk E' => go 0 [] _ (by decide) (fun t0 => ?_) v I oI C oC K oK D m₂ h tk E'
  refine fun v I oI C oC K oK D m₂ h tk E' => go 1 _ _ (by decide) (fun t1 => ?_) v I oI C oC K oK D m₂ h tk E'
  refine fun v I oI C oC K oK D m₂ h tk E' => go 2 _ _ (by decide) (fun t2 => ?_) v I oI C oC K oK D m₂ h tk E'
  refine fun v I oI C oC K oK D m₂ h tk E' => go 3 _ _ (by decide) (fun t3 => ?_) v I oI C oC K oK D m₂ h tk E'
  exact fin t0 t1 t2 t3
theorem restK2 {elt : PySem.Expr} {x : Str} {scope : Scope} {cl : List (Str × Addr)} {S : List (Addr × Obj) → Prop} {P : Nat → Value → Prop} {Fin : List Value → List (Addr × Obj) → Prop} {n : List (Addr × Obj)} (VP : Value → List (Addr × Obj) → (Nat → Int) → Prop) (fA fB : Nat → Int)
    (up : ∀ v n f y, VP v n f → VP v (y :: n) f) (h0 : ∀ v, P 0 v → VP v n fA) (h1 : ∀ v, P 1 v → VP v n fB)
    (turn : ∀ v ys n' f R, VP v n' f → (∀ w t0 t1 t2 t3, LCg.Off1 w n' → R (.ref w) ((w, row4 f t0 t1 t2 t3) :: n')) → TurnK prog w A h₀ L m env elt x scope cl s S n' v ys R)
    (fin : ∀ a b t0 t1 t2 t3 u0 u1 u2 u3, LCg.Off1 a n → LCg.Off1 b ((a, row4 fA t0 t1 t2 t3) :: n) → Fin [.ref a, .ref b] ((b, row4 fB u0 u1 u2 u3) :: (a, row4 fA t0 t1 t2 t3) :: n)) :
    RestK prog w A h₀ L m env elt x scope cl s S P Fin 2 0 [] n := by
  intro v I oI C oC K oK D m₂ h tk E' hv
  refine turn v [] n fA _ (h0 v hv) (fun a t0 t1 t2 t3 oa => ?_) I oI C oC K oK D m₂ h tk E'
  intro v' I oI C oC K oK D m₂ h tk E' hv'
  refine turn v' _ _ fB _ (up _ _ _ _ (h1 v' hv')) (fun b u0 u1 u2 u3 ob => ?_) I oI C oC K oK D m₂ h tk E'
  exact fin a b t0 t1 t2 t3 u0 u1 u2 u3 oa ob
theorem EndK.noneL {m : Str → Option Value} {s₁ : Shared} {I C D K : Addr} {oI oC oD oK : Obj} {S : List (Addr × Obj) → Prop} {rest : Value → List (Addr × Obj) → Prop} {y : Value} {h' : Heap} {tk : Nat} {news all : List (Addr × Obj)}
    (F : Fr h₀ L h' m) (N : News h₀ L h' all) (sub : SubL ((I, oI) :: (C, oC) :: (D, oD) :: (K, oK) :: news) all) (o3 : LCg.Off3 I C D news) (ok : LCg.Off1 K news) (hS : S news) (r : rest y news) :
    EndK h₀ L m s₁ I oI C oC D oD K oK S rest y { s₁ with heap := h', toks := tk } := EndK.none F N sub.mem o3 ok hS r
end
section
variable {prog : Program} {w : World} {A : Around} {E : Value → Shared → Prop} {h₀ : Heap} {env : Env} {target : Expr} {body : List Stmt} {s : Shared} {ws : List (Addr × String)} {keep : List (Addr × Obj)}
/-- a loop of two turns, the turn walked once, what follows a letter -/
theorem two_turns {Q : Flow → Shared → Prop} {m : Str → Option Value} {n : List (Addr × Obj)} {e1 e2 : Itm} (MZ : (Str → Option Value) → Prop) (C : List (Addr × Obj) → Prop) (P : Itm → List (Addr × Obj) → Prop) (hM : MZ m) (hC : C n) (h1 : P e1 n) (h2 : P e2 n)
    (turn : ∀ (Q' : Flow → Shared → Prop) n' e rest m', C n' → P e n' → MZ m' → (∀ m'', MZ m'' → ItemsRest prog w A E h₀ env target body Q' s ws keep rest m'' n') → ItemsRest prog w A E h₀ env target body Q' s ws keep (e :: rest) m' n')
    (fin : ∀ m' h tk, MZ m' → Fr h₀ env.locals h m' → News h₀ env.locals h n → Q .next { s with heap := h, toks := tk }) :
    ItemsRest prog w A E h₀ env target body Q s ws keep [e1, e2] m n :=
  turn Q n e1 [e2] m hC h1 hM fun m' hM' => turn Q n e2 [] m' hC h2 hM' fun m'' hM'' h tk F N => fin m'' h tk hM'' F N
theorem offW1_lt {q : Addr} {o : Obj} {k : Nat} {i : Addr} {l : List (Addr × Obj)} (h : q < i) (hl : ∀ x ∈ l, ∃ k : Nat, x.1 = i + k) : OffW1 (q, o) l := by
  induction l with
  | nil => exact trivial
  | cons x l ih =>
    refine ⟨.inl fun e => ?_, ih fun y hy => hl y (List.mem_cons_of_mem _ hy)⟩
    obtain ⟨k, hk⟩ := hl x (List.mem_cons_self ..)
    have e' : q = x.1 := e
    rw [hk] at e'
    exact absurd h (Nat.not_lt.mpr (e' ▸ Nat.le_add_right i k))
theorem offW_lt {i : Addr} {l n : List (Addr × Obj)} (h : ∀ x ∈ n, x.1 < i) (hl : ∀ x ∈ l, ∃ k : Nat, x.1 = i + k) : OffW l n := by
  induction n with
  | nil => exact trivial
  | cons x n ih => exact ⟨offW1_lt (k := 0) (o := x.2) (h x (List.mem_cons_self ..)) hl, ih fun y hy => h y (List.mem_cons_of_mem _ hy)⟩
theorem offW5 {i : Addr} {n : List (Addr × Obj)} {o0 o1 o2 o3 o4 : Obj} (h : ∀ x ∈ n, x.1 < i) : OffW [(i + 4, o4), (i + 2, o2), (i + 3, o3), (i, o0), (i + 1, o1)] n := offW_lt h fun x hx => by
  simp only [List.mem_cons, List.not_mem_nil, or_false] at hx
  rcases hx with rfl | rfl | rfl | rfl | rfl
  · exact ⟨4, rfl⟩
  · exact ⟨2, rfl⟩
  · exact ⟨3, rfl⟩
  · exact ⟨0, rfl⟩
  · exact ⟨1, rfl⟩
end
/-- what a turn of the told loop needs: the ledger .. -/
inductive ZC (p q0 q1 q2 q3 c3 i ql D : Addr) (oL oD o3 : Obj) (r0 r1 r2 r3 pr : Obj) (n : List (Addr × Obj)) : Prop
  | mk : (p, pr) ∈ n → (q0, r0) ∈ n → (q1, r1) ∈ n → (q2, r2) ∈ n → (q3, r3) ∈ n → (c3, o3) ∈ n → (ql, oL) ∈ n → (D, oD) ∈ n → (∀ x ∈ n, x.1 < i) → ZC p q0 q1 q2 q3 c3 i ql D oL oD o3 r0 r1 r2 r3 pr n
/-- .. the names .. -/
inductive ZM (p ql D : Addr) (lim : Int) (tl : Tok) (m : Str → Option Value) : Prop
  | mk : m (Str.ofString "picture") = some (.ref p) → m (Str.ofString "levels") = some (.ref ql) → m (Str.ofString "noughts") = some (.ref D) → m (Str.ofString "limit") = some (.int lim tl) → ZM p ql D lim tl m
/-- .. and the pair of level and noughts -/
inductive ZP (P : Nat → Nat → Int) (lim : Nat) (e : Itm) (n : List (Addr × Obj)) : Prop
  | mk (l : Int) (t : Tok) (q : Addr) (o : Nat → Int) (s0 s1 s2 : Tok) (a b : Nat) : e = .pair (fun _ => .int l t) (.ref q) → (1 ≤ l ∧ l ≤ 15) → (q, listOf #[.int (nought o 0) s0, .int (nought o 1) s1, .int (nought o 2) s2] 0) ∈ n → Told P l o lim a b → ZP P lim e n
theorem mt1 {α : Type} {x a0 : α} {l : List α} (h : x ∈ l) : x ∈ a0 :: l := List.Mem.tail _ (h)
theorem mt2 {α : Type} {x a0 a1 : α} {l : List α} (h : x ∈ l) : x ∈ a0 :: a1 :: l := List.Mem.tail _ (mt1 h)
theorem mt3 {α : Type} {x a0 a1 a2 : α} {l : List α} (h : x ∈ l) : x ∈ a0 :: a1 :: a2 :: l := List.Mem.tail _ (mt2 h)
theorem mt4 {α : Type} {x a0 a1 a2 a3 : α} {l : List α} (h : x ∈ l) : x ∈ a0 :: a1 :: a2 :: a3 :: l := List.Mem.tail _ (mt3 h)
theorem mt5 {α : Type} {x a0 a1 a2 a3 a4 : α} {l : List α} (h : x ∈ l) : x ∈ a0 :: a1 :: a2 :: a3 :: a4 :: l := List.Mem.tail _ (mt4 h)
theorem mt6 {α : Type} {x a0 a1 a2 a3 a4 a5 : α} {l : List α} (h : x ∈ l) : x ∈ a0 :: a1 :: a2 :: a3 :: a4 :: a5 :: l := List.Mem.tail _ (mt5 h)
theorem mt7 {α : Type} {x a0 a1 a2 a3 a4 a5 a6 : α} {l : List α} (h : x ∈ l) : x ∈ a0 :: a1 :: a2 :: a3 :: a4 :: a5 :: a6 :: l := List.Mem.tail _ (mt6 h)
theorem mt8 {α : Type} {x a0 a1 a2 a3 a4 a5 a6 a7 : α} {l : List α} (h : x ∈ l) : x ∈ a0 :: a1 :: a2 :: a3 :: a4 :: a5 :: a6 :: a7 :: l := List.Mem.tail _ (mt7 h)
/-- an outer turn of the ones: the value is a list of three noughts -/
inductive VQ (D : Addr) (oD : Obj) (v : Value) (n : List (Addr × Obj)) (f : Nat → Int) : Prop
  | mk (q : Addr) (o : Nat → Int) (s0 s1 s2 : Tok) : v = .ref q → (D, oD) ∈ n → (q, listOf #[.int (nought o 0) s0, .int (nought o 1) s1, .int (nought o 2) s2] 0) ∈ n → f = onesBy o → VQ D oD v n f
theorem VQ.up {D : Addr} {oD : Obj} : ∀ v n f y, VQ D oD v n f → VQ D oD v (y :: n) f
  | _, _, _, _, ⟨q, o, s0, s1, s2, e, hD, hq, hf⟩ => ⟨q, o, s0, s1, s2, e, List.mem_cons_of_mem _ hD, List.mem_cons_of_mem _ hq, hf⟩
inductive CQ (q K : Addr) (oq oK : Obj) (n : List (Addr × Obj)) : Prop
  | mk : (q, oq) ∈ n → (K, oK) ∈ n → CQ q K oq oK n
theorem off1_t4 {w : Addr} {a b c d : Addr × Obj} {n : List (Addr × Obj)} (h : LCg.Off1 w (a :: b :: c :: d :: n)) : LCg.Off1 w n := h.2.2.2.2

end
section
-- gates for the comprehensions ahead of the loop: one turn walked with the ledger a letter
section
variable {prog : Program} {w : World} {A : Around} {h₀ : Heap} {L : Addr} {m : Str → Option Value} {env : Env} {s : Shared}
def TurnC (prog : Program) (w : World) (A : Around) (h₀ : Heap) (L : Addr) (m : Str → Option Value) (env : Env) (elt : PySem.Expr) (x : Str) (scope : Scope) (cl : List (Str × Addr)) (s : Shared) (S : List (Addr × Obj) → Prop) (n : List (Addr × Obj)) (v : Value) (ys : List Value) (R : Value → List (Addr × Obj) → Prop) : Prop :=
  ∀ I oI C oC D m₂ h tk (E' : Value → Shared → Prop), LCg.NsObj oC m₂ → m₂ x = some v → Fr h₀ L h m → News h₀ L h ((I, oI) :: (C, oC) :: (D, LCg.lst ys) :: n) → LCg.Off3 I C D n → ((@Ne Nat I C) ∧ (@Ne Nat I D) ∧ (@Ne Nat C D)) →
      wpAny (model prog w) A (eval elt (compEnvC scope cl C env)) (LCg.CompEnd h₀ L m { s with heap := h, toks := tk } I oI C oC D (LCg.lst ys) S R) E' { s with heap := h, toks := tk }
theorem compRows4 {elt : PySem.Expr} {x : Str} {scope : Scope} {cl : List (Str × Addr)} {S : List (Addr × Obj) → Prop} {P : Nat → Value → Prop} {Fin : List Value → List (Addr × Obj) → Prop} {n : List (Addr × Obj)} (mk : (Nat → Int) → Tok → Tok → Tok → Obj) (VP : Nat → Value → List (Addr × Obj) → Prop) (f : Nat → Nat → Int)
    (up : ∀ i v n y, VP i v n → VP i v (y :: n)) (h0 : ∀ i v, i < 4 → P i v → VP i v n)
    (turn : ∀ i v ys n' R, VP i v n' → (∀ q t0 t1 t2, LCg.Off1 q n' → R (.ref q) ((q, mk (f i) t0 t1 t2) :: n')) → TurnC prog w A h₀ L m env elt x scope cl s S n' v ys R)
    (fin : ∀ a b c d t0 t1 t2 u0 u1 u2 v0 v1 v2 w0 w1 w2, LCg.Off1 a n → LCg.Off1 b ((a, mk (f 0) t0 t1 t2) :: n) → LCg.Off1 c ((b, mk (f 1) u0 u1 u2) :: (a, mk (f 0) t0 t1 t2) :: n) → LCg.Off1 d ((c, mk (f 2) v0 v1 v2) :: (b, mk (f 1) u0 u1 u2) :: (a, mk (f 0) t0 t1 t2) :: n) →
      Fin [.ref a, .ref b, .ref c, .ref d] ((d, mk (f 3) w0 w1 w2) :: (c, mk (f 2) v0 v1 v2) :: (b, mk (f 1) u0 u1 u2) :: (a, mk (f 0) t0 t1 t2) :: n)) :
    LCg.CompRest prog w A h₀ L m env elt x scope cl s S P Fin 4 0 [] n := by
  intro v I oI C oC D m₂ h tk E' hv
  refine turn 0 v [] n _ (h0 0 v (by decide) hv) (fun a t0 t1 t2 oa => ?_) I oI C oC D m₂ h tk E'
  intro v I oI C oC D m₂ h tk E' hv
  refine turn 1 v _ _ _ (up _ _ _ _ (h0 1 v (by decide) hv)) (fun b u0 u1 u2 ob => ?_) I oI C oC D m₂ h tk E'
  intro v I oI C oC D m₂ h tk E' hv
  refine turn 2 v _ _ _ (up _ _ _ _ (up _ _ _ _ (h0 2 v (by decide) hv))) (fun c v0 v1 v2 oc => ?_) I oI C oC D m₂ h tk E'
  intro v I oI C oC D m₂ h tk E' hv
  refine turn 3 v _ _ _ (up _ _ _ _ (up _ _ _ _ (up _ _ _ _ (h0 3 v (by decide) hv)))) (fun d w0 w1 w2 od => ?_) I oI C oC D m₂ h tk E'
  exact fin a b c d t0 t1 t2 u0 u1 u2 v0 v1 v2 w0 w1 w2 oa ob oc od
theorem restKR4 {elt : PySem.Expr} {x : Str} {scope : Scope} {cl : List (Str × Addr)} {S : List (Addr × Obj) → Prop} {P : Nat → Value → Prop} {Fin : List Value → List (Addr × Obj) → Prop} {n : List (Addr × Obj)} (mk : (Nat → Int) → Tok → Tok → Tok → Obj) (VP : Nat → Value → List (Addr × Obj) → Prop) (f : Nat → Nat → Int)
    (up : ∀ i v n y, VP i v n → VP i v (y :: n)) (h0 : ∀ i v, i < 4 → P i v → VP i v n)
    (turn : ∀ i v ys n' R, VP i v n' → (∀ q t0 t1 t2, LCg.Off1 q n' → R (.ref q) ((q, mk (f i) t0 t1 t2) :: n')) → TurnK prog w A h₀ L m env elt x scope cl s S n' v ys R)
    (fin : ∀ a b c d t0 t1 t2 u0 u1 u2 v0 v1 v2 w0 w1 w2, LCg.Off1 a n → LCg.Off1 b ((a, mk (f 0) t0 t1 t2) :: n) → LCg.Off1 c ((b, mk (f 1) u0 u1 u2) :: (a, mk (f 0) t0 t1 t2) :: n) → LCg.Off1 d ((c, mk (f 2) v0 v1 v2) :: (b, mk (f 1) u0 u1 u2) :: (a, mk (f 0) t0 t1 t2) :: n) →
      Fin [.ref a, .ref b, .ref c, .ref d] ((d, mk (f 3) w0 w1 w2) :: (c, mk (f 2) v0 v1 v2) :: (b, mk (f 1) u0 u1 u2) :: (a, mk (f 0) t0 t1 t2) :: n)) :
    RestK prog w A h₀ L m env elt x scope cl s S P Fin 4 0 [] n := by
  intro v I oI C oC K oK D m₂ h tk E' hv
  refine turn 0 v [] n _ (h0 0 v (by decide) hv) (fun a t0 t1 t2 oa => ?_) I oI C oC K oK D m₂ h tk E'
  intro v I oI C oC K oK D m₂ h tk E' hv
  refine turn 1 v _ _ _ (up _ _ _ _ (h0 1 v (by decide) hv)) (fun b u0 u1 u2 ob => ?_) I oI C oC K oK D m₂ h tk E'
  intro v I oI C oC K oK D m₂ h tk E' hv
  refine turn 2 v _ _ _ (up _ _ _ _ (up _ _ _ _ (h0 2 v (by decide) hv))) (fun c v0 v1 v2 oc => ?_) I oI C oC K oK D m₂ h tk E'
  intro v I oI C oC K oK D m₂ h tk E' hv
  refine turn 3 v _ _ _ (up _ _ _ _ (up _ _ _ _ (up _ _ _ _ (h0 3 v (by decide) hv)))) (fun d w0 w1 w2 od => ?_) I oI C oC K oK D m₂ h tk E'
  exact fin a b c d t0 t1 t2 u0 u1 u2 v0 v1 v2 w0 w1 w2 oa ob oc od
theorem compInts4 {elt : PySem.Expr} {x : Str} {scope : Scope} {cl : List (Str × Addr)} {S : List (Addr × Obj) → Prop} {P : Nat → Value → Prop} {Fin : List Value → List (Addr × Obj) → Prop} {n : List (Addr × Obj)} (f : Nat → Int) (VP : Nat → Value → List (Addr × Obj) → Prop) (h0 : ∀ i v, i < 4 → P i v → VP i v n)
    (turn : ∀ i v ys n' R, VP i v n' → (∀ t, R (.int (f i) t) n') → TurnC prog w A h₀ L m env elt x scope cl s S n' v ys R)
    (fin : ∀ t0 t1 t2 t3, Fin [.int (f 0) t0, .int (f 1) t1, .int (f 2) t2, .int (f 3) t3] n) :
    LCg.CompRest prog w A h₀ L m env elt x scope cl s S P Fin 4 0 [] n := by
  intro v I oI C oC D m₂ h tk E' hv
  refine turn 0 v [] n _ (h0 0 v (by decide) hv) (fun t0 => ?_) I oI C oC D m₂ h tk E'
  intro v I oI C oC D m₂ h tk E' hv
  refine turn 1 v _ n _ (h0 1 v (by decide) hv) (fun t1 => ?_) I oI C oC D m₂ h tk E'
  intro v I oI C oC D m₂ h tk E' hv
  refine turn 2 v _ n _ (h0 2 v (by decide) hv) (fun t2 => ?_) I oI C oC D m₂ h tk E'
  intro v I oI C oC D m₂ h tk E' hv
  refine turn 3 v _ n _ (h0 3 v (by decide) hv) (fun t3 => ?_) I oI C oC D m₂ h tk E'
  exact fin t0 t1 t2 t3
end
/-- a row of lights in the list of rows -/
inductive VR (S : Nat → Nat → Int) (qs : Addr) (oq : Obj) (i : Nat) (v : Value) (n : List (Addr × Obj)) : Prop
  | mk (a : Addr) (t0 t1 t2 : Tok) : v = .ref a → (qs, oq) ∈ n → (a, irow (S i 0) (S i 1) (S i 2) t0 t1 t2) ∈ n → VR S qs oq i v n
theorem VR.up {S : Nat → Nat → Int} {qs : Addr} {oq : Obj} : ∀ i v n y, VR S qs oq i v n → VR S qs oq i v (y :: n)
  | _, _, _, _, ⟨a, t0, t1, t2, e, hD, hq⟩ => ⟨a, t0, t1, t2, e, List.mem_cons_of_mem _ hD, List.mem_cons_of_mem _ hq⟩
theorem VR.four {S : Nat → Nat → Int} {qs a0 a1 a2 a3 : Addr} {n : List (Addr × Obj)} {t00 t01 t02 t10 t11 t12 t20 t21 t22 t30 t31 t32 : Tok} (hq : (qs, rows4 a0 a1 a2 a3) ∈ n)
    (m0 : (a0, irow (S 0 0) (S 0 1) (S 0 2) t00 t01 t02) ∈ n) (m1 : (a1, irow (S 1 0) (S 1 1) (S 1 2) t10 t11 t12) ∈ n) (m2 : (a2, irow (S 2 0) (S 2 1) (S 2 2) t20 t21 t22) ∈ n) (m3 : (a3, irow (S 3 0) (S 3 1) (S 3 2) t30 t31 t32) ∈ n) :
    ∀ i v, i < 4 → #[Value.ref a0, .ref a1, .ref a2, .ref a3][i]? = some v → VR S qs (rows4 a0 a1 a2 a3) i v n
  | 0, _, _, h => ⟨_, _, _, _, (Option.some.inj h).symm, hq, m0⟩
  | 1, _, _, h => ⟨_, _, _, _, (Option.some.inj h).symm, hq, m1⟩
  | 2, _, _, h => ⟨_, _, _, _, (Option.some.inj h).symm, hq, m2⟩
  | 3, _, _, h => ⟨_, _, _, _, (Option.some.inj h).symm, hq, m3⟩
/-- a level in the list of levels -/
inductive VL (S : Nat → Nat → Int) (C : List (Addr × Obj) → Prop) (ql : Addr) (oq : Obj) (v : Value) (n : List (Addr × Obj)) (f : Nat → Int) : Prop
  | mk (l : Int) (t : Tok) : v = .int l t → (ql, oq) ∈ n → C n → f = onesOf S l → VL S C ql oq v n f
inductive CS (qs a0 a1 a2 a3 : Addr) (oq o0 o1 o2 o3 : Obj) (c : Addr) (oc : Obj) (n : List (Addr × Obj)) : Prop
  | mk : (qs, oq) ∈ n → (a0, o0) ∈ n → (a1, o1) ∈ n → (a2, o2) ∈ n → (a3, o3) ∈ n → (c, oc) ∈ n → CS qs a0 a1 a2 a3 oq o0 o1 o2 o3 c oc n
theorem VL.up {S : Nat → Nat → Int} {qs a0 a1 a2 a3 c ql : Addr} {os o0 o1 o2 o3 oc oq : Obj} : ∀ v n f y, VL S (CS qs a0 a1 a2 a3 os o0 o1 o2 o3 c oc) ql oq v n f → VL S (CS qs a0 a1 a2 a3 os o0 o1 o2 o3 c oc) ql oq v (y :: n) f
  | _, _, _, _, ⟨l, t, e, hD, ⟨c0, c1, c2, c3, c4, c5⟩, hq⟩ => ⟨l, t, e, List.mem_cons_of_mem _ hD, ⟨List.mem_cons_of_mem _ c0, List.mem_cons_of_mem _ c1, List.mem_cons_of_mem _ c2, List.mem_cons_of_mem _ c3, List.mem_cons_of_mem _ c4, List.mem_cons_of_mem _ c5⟩, hq⟩
/-- a place of the draws -/
def dsel (d0 d1 d2 d3 : Int) (i : Nat) : Int := match i with | 0 => d0 | 1 => d1 | 2 => d2 | _ => d3
theorem dsel_in {d0 d1 d2 d3 : Int} (b0 : 0 ≤ d0 ∧ d0 ≤ 99999999) (b1 : 0 ≤ d1 ∧ d1 ≤ 99999999) (b2 : 0 ≤ d2 ∧ d2 ≤ 99999999) (b3 : 0 ≤ d3 ∧ d3 ≤ 99999999) : ∀ i, 0 ≤ dsel d0 d1 d2 d3 i ∧ dsel d0 d1 d2 d3 i ≤ 99999999
  | 0 => b0
  | 1 => b1
  | 2 => b2
  | _ + 3 => b3
theorem draws_at {d0 d1 d2 d3 : Int} {t0 t1 t2 t3 : Tok} {l : List Value} : ∀ i, i < 4 → ∃ t, (.int d0 t0 :: .int d1 t1 :: .int d2 t2 :: .int d3 t3 :: l : List Value)[((i : Nat) : Int).toNat]? = some (.int (dsel d0 d1 d2 d3 i) t)
  | 0, _ => ⟨_, rfl⟩
  | 1, _ => ⟨_, rfl⟩
  | 2, _ => ⟨_, rfl⟩
  | 3, _ => ⟨_, rfl⟩
theorem i63 {i : Nat} (h : i < 4) : 0 ≤ (i : Int) ∧ (i : Int) < 2 ^ 63 := ⟨Int.natCast_nonneg i, Int.lt_of_lt_of_le (Int.ofNat_lt.mpr h) (by decide)⟩
inductive VD (c q : Addr) (oc od : Obj) (i : Nat) (v : Value) (n : List (Addr × Obj)) : Prop
  | mk (t : Tok) : v = .int (i : Int) t → i < 4 → (c, oc) ∈ n → (q, od) ∈ n → VD c q oc od i v n
theorem VD.up {c q : Addr} {oc od : Obj} : ∀ i v n y, VD c q oc od i v n → VD c q oc od i v (y :: n)
  | _, _, _, _, ⟨t, e, hi, hD, hq⟩ => ⟨t, e, hi, List.mem_cons_of_mem _ hD, List.mem_cons_of_mem _ hq⟩
theorem VD.of {c q : Addr} {oc od : Obj} {n : List (Addr × Obj)} (hc : (c, oc) ∈ n) (hq : (q, od) ∈ n) : ∀ i v, i < 4 → (∃ t, v = .int ((0 : Int) + (i : Int)) t) → VD c q oc od i v n
  | i, _, hi, ⟨t, e⟩ => ⟨t, by rw [e, Int.zero_add], hi, hc, hq⟩
theorem CompEnd_noneL {h₀ : Heap} {L I C D : Addr} {m : Str → Option Value} {s₁ : Shared} {oI oC oD : Obj} {S : List (Addr × Obj) → Prop} {rest : Value → List (Addr × Obj) → Prop} {y : Value} {h' : Heap} {tk : Nat} {all news : List (Addr × Obj)}
    (F : Fr h₀ L h' m) (N : News h₀ L h' all) (sub : SubL ((I, oI) :: (C, oC) :: (D, oD) :: news) all) (off : LCg.Off3 I C D news) (hS : S news) (r : rest y news) :
    LCg.CompEnd h₀ L m s₁ I oI C oC D oD S rest y { s₁ with heap := h', toks := tk } := LCg.CompEnd.intro F N news sub.mem off hS r
theorem off1_t3 {w : Addr} {a b c : Addr × Obj} {n : List (Addr × Obj)} (h : LCg.Off1 w (a :: b :: c :: n)) : LCg.Off1 w n := h.2.2.2
theorem VD.item {d0 d1 d2 d3 d4 d5 d6 : Int} {t0 t1 t2 t3 t4 t5 t6 : Tok} {q : Addr} {e : Nat} {n : List (Addr × Obj)} (_h : (q, listOf #[.int d0 t0, .int d1 t1, .int d2 t2, .int d3 t3, .int d4 t4, .int d5 t5, .int d6 t6] e) ∈ n) {i : Nat} (hi : i < 4) :
    ∃ t, (#[.int d0 t0, .int d1 t1, .int d2 t2, .int d3 t3, .int d4 t4, .int d5 t5, .int d6 t6] : Array Value).toList[((i : Nat) : Int).toNat]? = some (.int (dsel d0 d1 d2 d3 i) t) := draws_at i hi

end
section
-- the plain law by noughts and ones: a row is its number of ones
def k4 (a b c d : Nat) (r : Nat) : Nat := match r with | 0 => a | 1 => b | 2 => c | _ => d
/-- row r in order: place c of a row with k ones -/
def brow (r k c : Nat) : Bool := if r % 2 = 0 then decide (3 ≤ k + c) else decide (c + 1 ≤ k)
def colc (k : Nat → Nat) (c : Nat) : Nat := (brow 0 (k 0) c).toNat + (brow 1 (k 1) c).toNat + (brow 2 (k 2) c).toNat + (brow 3 (k 3) c).toNat
def bdown (k : Nat → Nat) (r c : Nat) : Bool := decide (4 ≤ colc k c + r)
def nk (k : Nat → Nat) (r : Nat) : Nat := (bdown k r 0).toNat + (bdown k r 1).toNat + (bdown k r 2).toNat
def minN (o : Nat → Int) : Int := min (min (nought o 0) (nought o 1)) (nought o 2)
def maxN (o : Nat → Int) : Int := max (max (nought o 0) (nought o 1)) (nought o 2)
/-- one level behind one round: k the rows' ones behind it, o the ones that were counted -/
def told (k : Nat → Nat) (o : Nat → Int) (lim : Nat) : Bool :=
  decide (0 ≤ minN o ∧ minN o ≤ maxN o ∧ maxN o ≤ minN o + 2 ∧ maxN o ≤ 4 ∧ maxN o ≤ minN o + (lim : Int)) &&
  (decide ((0 < k 0 ∧ k 0 < 3) ↔ (minN o ≤ 0 ∧ 0 < maxN o))) && (decide ((0 < k 1 ∧ k 1 < 3) ↔ (minN o ≤ 1 ∧ 1 < maxN o))) && (decide ((0 < k 2 ∧ k 2 < 3) ↔ (minN o ≤ 2 ∧ 2 < maxN o))) && (decide ((0 < k 3 ∧ k 3 < 3) ↔ (minN o ≤ 3 ∧ 3 < maxN o)))
def wayB (k : Nat → Nat) : List Bool := [brow 0 (k 0) 0, brow 0 (k 0) 1, brow 0 (k 0) 2, brow 1 (k 1) 2, brow 1 (k 1) 1, brow 1 (k 1) 0, brow 2 (k 2) 0, brow 2 (k 2) 1, brow 2 (k 2) 2, brow 3 (k 3) 2, brow 3 (k 3) 1, brow 3 (k 3) 0]
noncomputable def upB : List Bool → Bool
  | a :: b :: r => (!a || b) && upB (b :: r)
  | _ => true
def oneN (o : Nat → Int) (r : Nat) : Int := ((((decide (nought o 0 ≤ (r : Int))).toNat + (decide (nought o 1 ≤ (r : Int))).toNat + (decide (nought o 2 ≤ (r : Int))).toNat : Nat)) : Int)
noncomputable def check (a b c d : Nat) : Bool :=
  let k0 := k4 a b c d
  let o0 := fun r => (k0 r : Int)
  let k1 := k4 (nk k0 0) (nk k0 1) (nk k0 2) (nk k0 3)
  let o1 : Nat → Int := fun r => match r with | 0 => oneN o0 0 | 1 => oneN o0 1 | 2 => oneN o0 2 | _ => oneN o0 3
  let k2 := k4 (nk k1 0) (nk k1 1) (nk k1 2) (nk k1 3)
  told k1 o0 2 && told k2 o1 1 && upB (wayB k2) && decide ((wayB k2).countP id = a + b + c + d) && decide (k1 0 ≤ 3 ∧ k1 1 ≤ 3 ∧ k1 2 ≤ 3 ∧ k1 3 ≤ 3 ∧ k2 0 ≤ 3 ∧ k2 1 ≤ 3 ∧ k2 2 ≤ 3 ∧ k2 3 ≤ 3)
set_option maxRecDepth 100000 in
theorem check_all : ∀ a b c d : Fin 4, check a.val b.val c.val d.val = true := by decide +kernel

end
section
-- a picture cut at a level
def cntR (P : Nat → Nat → Int) (l : Int) (r : Nat) : Nat := (decide (l ≤ P r 0)).toNat + (decide (l ≤ P r 1)).toNat + (decide (l ≤ P r 2)).toNat
theorem b_min {l a b : Int} : decide (l ≤ min a b) = (decide (l ≤ a) && decide (l ≤ b)) := by rw [← Bool.decide_and, decide_eq_decide]; exact Int.le_min
theorem b_max {l a b : Int} : decide (l ≤ max a b) = (decide (l ≤ a) || decide (l ≤ b)) := by
  rw [← Bool.decide_or, decide_eq_decide]
  constructor
  · intro h
    rcases Int.le_total a b with q | q
    · rw [Int.max_eq_right q] at h; exact .inr h
    · rw [Int.max_eq_left q] at h; exact .inl h
  · rintro (h | h)
    · exact Int.le_trans h (Int.le_max_left ..)
    · exact Int.le_trans h (Int.le_max_right ..)
theorem b_three : ∀ x y z : Bool, (x && y && z) = decide (3 ≤ x.toNat + y.toNat + z.toNat) ∧ (x || y || z) = decide (1 ≤ x.toNat + y.toNat + z.toNat) ∧ ((x && y) || ((x || y) && z)) = decide (2 ≤ x.toNat + y.toNat + z.toNat) := by decide
theorem b_four : ∀ x y z w : Bool, ((x && y) && (z && w)) = decide (4 ≤ x.toNat + y.toNat + z.toNat + w.toNat + 0) ∧ (((x || y) && (z || w)) && ((x && y) || (z && w))) = decide (4 ≤ x.toNat + y.toNat + z.toNat + w.toNat + 1) ∧
    (((x || y) && (z || w)) || ((x && y) || (z && w))) = decide (4 ≤ x.toNat + y.toNat + z.toNat + w.toNat + 2) ∧ ((x || y) || (z || w)) = decide (4 ≤ x.toNat + y.toNat + z.toNat + w.toNat + 3) := by decide
theorem sum_b (a b c : Int) : a + b + c - c - a = b := by omega
theorem sum_c (a b c : Int) : a + b + c - b - a = c := by omega
theorem sum_a (a b c : Int) : a + b + c - b - c = a := by omega
theorem mi_le {a b : Int} (c : Int) (h : a ≤ b) : a + b + c - max b c - min a c = max a (min b c) := by
  rcases Int.le_total b c with k | k
  · rw [Int.max_eq_right k, Int.min_eq_left (Int.le_trans h k), Int.min_eq_left k, Int.max_eq_right h]; exact sum_b a b c
  · rw [Int.max_eq_left k, Int.min_eq_right k]
    rcases Int.le_total a c with j | j
    · rw [Int.min_eq_left j, Int.max_eq_right j]; exact sum_c a b c
    · rw [Int.min_eq_right j, Int.max_eq_left j]; exact sum_a a b c
theorem mi_eq (a b c : Int) : mi3 a b c = max (min a b) (min (max a b) c) := by
  unfold mi3 lo3 hi3
  rcases Int.le_total a b with h | h
  · rw [Int.min_eq_left h, Int.max_eq_right h]; exact mi_le c h
  · rw [Int.min_eq_right h, Int.max_eq_left h, Int.add_comm a b]; exact mi_le c h
theorem bit_lo {l a b c : Int} : decide (l ≤ lo3 a b c) = decide (3 ≤ (decide (l ≤ a)).toNat + (decide (l ≤ b)).toNat + (decide (l ≤ c)).toNat) := by
  unfold lo3; rw [b_min, b_min]; exact (b_three _ _ _).1
theorem bit_hi {l a b c : Int} : decide (l ≤ hi3 a b c) = decide (1 ≤ (decide (l ≤ a)).toNat + (decide (l ≤ b)).toNat + (decide (l ≤ c)).toNat) := by
  unfold hi3; rw [b_max, b_max]; exact (b_three _ _ _).2.1
theorem bit_mi {l a b c : Int} : decide (l ≤ mi3 a b c) = decide (2 ≤ (decide (l ≤ a)).toNat + (decide (l ≤ b)).toNat + (decide (l ≤ c)).toNat) := by
  rw [mi_eq, b_max, b_min, b_min, b_max]; exact (b_three _ _ _).2.2
theorem acr_bit (P : Nat → Nat → Int) (l : Int) (r c : Nat) (hc : c < 3) : decide (l ≤ acr P r c) = brow r (cntR P l r) c := by
  unfold acr brow cntR
  match c, hc with
  | 0, _ => split <;> first | exact bit_lo | exact bit_hi
  | 1, _ => split <;> exact bit_mi.trans (decide_eq_decide.mpr (by omega))
  | 2, _ => split <;> first | exact bit_hi.trans (decide_eq_decide.mpr (by omega)) | exact bit_lo.trans (decide_eq_decide.mpr (by omega))
def colB (P : Nat → Nat → Int) (l : Int) (c : Nat) : Nat := (decide (l ≤ P 0 c)).toNat + (decide (l ≤ P 1 c)).toNat + (decide (l ≤ P 2 c)).toNat + (decide (l ≤ P 3 c)).toNat
theorem bit_n {l a b c d : Int} : decide (l ≤ n0 a b c d) = decide (4 ≤ (decide (l ≤ a)).toNat + (decide (l ≤ b)).toNat + (decide (l ≤ c)).toNat + (decide (l ≤ d)).toNat + 0) ∧ decide (l ≤ n1 a b c d) = decide (4 ≤ (decide (l ≤ a)).toNat + (decide (l ≤ b)).toNat + (decide (l ≤ c)).toNat + (decide (l ≤ d)).toNat + 1) ∧
    decide (l ≤ n2 a b c d) = decide (4 ≤ (decide (l ≤ a)).toNat + (decide (l ≤ b)).toNat + (decide (l ≤ c)).toNat + (decide (l ≤ d)).toNat + 2) ∧ decide (l ≤ n3 a b c d) = decide (4 ≤ (decide (l ≤ a)).toNat + (decide (l ≤ b)).toNat + (decide (l ≤ c)).toNat + (decide (l ≤ d)).toNat + 3) := by
  unfold n0 n1 n2 n3
  simp only [b_min, b_max]
  exact b_four _ _ _ _
theorem dwn_bit (P : Nat → Nat → Int) (l : Int) (r c : Nat) (hr : r < 4) : decide (l ≤ dwn P r c) = decide (4 ≤ colB P l c + r) := by
  unfold dwn colB
  have e := bit_n (l := l) (a := P 0 c) (b := P 1 c) (c := P 2 c) (d := P 3 c)
  match r, hr with
  | 0, _ => exact e.1
  | 1, _ => exact e.2.1
  | 2, _ => exact e.2.2.1
  | 3, _ => exact e.2.2.2
theorem colB_acr (P : Nat → Nat → Int) (l : Int) (c : Nat) (hc : c < 3) : colB (acr P) l c = colc (cntR P l) c := by
  unfold colB colc
  rw [acr_bit P l 0 c hc, acr_bit P l 1 c hc, acr_bit P l 2 c hc, acr_bit P l 3 c hc]
theorem cntR_round (P : Nat → Nat → Int) (l : Int) (r : Nat) (hr : r < 4) : cntR (dwn (acr P)) l r = nk (cntR P l) r := by
  unfold cntR nk bdown
  rw [dwn_bit _ l r 0 hr, dwn_bit _ l r 1 hr, dwn_bit _ l r 2 hr, colB_acr P l 0 (by decide), colB_acr P l 1 (by decide), colB_acr P l 2 (by decide)]
  rfl
theorem coloured_bit (Q : Nat → Nat → Int) (l : Int) (r : Nat) : cl3 (bt (Q r 0) l) (bt (Q r 1) l) (bt (Q r 2) l) ≠ 0 ↔ 0 < cntR Q l r ∧ cntR Q l r < 3 := by
  unfold cl3 bt cntR
  by_cases ha : l ≤ Q r 0 <;> by_cases hb : l ≤ Q r 1 <;> by_cases hc : l ≤ Q r 2 <;> simp [ha, hb, hc]

end
section
-- what the law says of each level
theorem cast_in {a b r : Nat} {x y z : Int} (hx : x = a) (hy : y = b) (hz : z = r) : (x ≤ z ∧ z < y) ↔ (a ≤ r ∧ r < b) := by
  subst hx hy hz; exact and_congr Int.ofNat_le Int.ofNat_lt
theorem told_of {Q : Nat → Nat → Int} {l : Int} {o : Nat → Int} {lim : Nat} {k : Nat → Nat} (h : told k o lim = true) (hk : ∀ r, r < 4 → cntR Q l r = k r) : ∃ a b, Told Q l o lim a b := by
  unfold told at h
  simp only [Bool.and_eq_true, decide_eq_true_eq] at h
  obtain ⟨⟨⟨⟨⟨h0, h1, h2, h3, h4⟩, r0⟩, r1⟩, r2⟩, r3⟩ := h
  obtain ⟨a, ha⟩ := Int.eq_ofNat_of_zero_le h0
  obtain ⟨b, hb⟩ := Int.eq_ofNat_of_zero_le (Int.le_trans h0 h1)
  rw [ha, hb] at h1 h2 h4
  rw [hb] at h3
  refine ⟨a, b, ⟨Int.ofNat_le.mp h1, Int.ofNat_le.mp h2, Int.ofNat_le.mp h3, Int.ofNat_le.mp h4⟩, ⟨ha, hb⟩, fun r hr => ?_⟩
  rw [coloured_bit, hk r hr]
  match r, hr with
  | 0, _ => exact r0.trans (cast_in ha hb rfl)
  | 1, _ => exact r1.trans (cast_in ha hb rfl)
  | 2, _ => exact r2.trans (cast_in ha hb rfl)
  | 3, _ => exact r3.trans (cast_in ha hb rfl)
theorem cntR_lt (P : Nat → Nat → Int) (l : Int) (r : Nat) : cntR P l r < 4 := by
  unfold cntR
  cases decide (l ≤ P r 0) <;> cases decide (l ≤ P r 1) <;> cases decide (l ≤ P r 2) <;> decide
theorem nk_ext {k k' : Nat → Nat} (h : ∀ r, r < 4 → k r = k' r) (r : Nat) : nk k r = nk k' r := by
  unfold nk bdown colc
  rw [h 0 (by decide), h 1 (by decide), h 2 (by decide), h 3 (by decide)]
theorem k4_of {k : Nat → Nat} : ∀ r, r < 4 → k r = k4 (k 0) (k 1) (k 2) (k 3) r
  | 0, _ => rfl
  | 1, _ => rfl
  | 2, _ => rfl
  | 3, _ => rfl
theorem check_at (S : Nat → Nat → Int) (l : Int) : check (cntR S l 0) (cntR S l 1) (cntR S l 2) (cntR S l 3) = true :=
  check_all ⟨_, cntR_lt S l 0⟩ ⟨_, cntR_lt S l 1⟩ ⟨_, cntR_lt S l 2⟩ ⟨_, cntR_lt S l 3⟩
theorem nought_ext {o o' : Nat → Int} (h0 : o 0 = o' 0) (h1 : o 1 = o' 1) (h2 : o 2 = o' 2) (h3 : o 3 = o' 3) (c : Int) : nought o c = nought o' c := by
  unfold nought; rw [h0, h1, h2, h3]
theorem told_ext {k : Nat → Nat} {o o' : Nat → Int} {lim : Nat} (h0 : o 0 = o' 0) (h1 : o 1 = o' 1) (h2 : o 2 = o' 2) (h3 : o 3 = o' 3) : told k o lim = told k o' lim := by
  unfold told minN maxN
  rw [nought_ext h0 h1 h2 h3 0, nought_ext h0 h1 h2 h3 1, nought_ext h0 h1 h2 h3 2]
theorem check_parts (S : Nat → Nat → Int) (l : Int) : ∃ k1 k2 : Nat → Nat, (∀ r, r < 4 → cntR (dwn (acr S)) l r = k1 r) ∧ (∀ r, r < 4 → cntR (dwn (acr (dwn (acr S)))) l r = k2 r) ∧
    told k1 (onesOf S l) 2 = true ∧ told k2 (onesBy (onesOf S l)) 1 = true ∧ upB (wayB k2) = true ∧ (wayB k2).countP id = cntR S l 0 + cntR S l 1 + cntR S l 2 + cntR S l 3 := by
  have h := check_at S l
  unfold check at h
  simp only [Bool.and_eq_true, decide_eq_true_eq] at h
  obtain ⟨⟨⟨⟨c1, c2⟩, c3⟩, c4⟩, _⟩ := h
  have e1 : ∀ r, r < 4 → cntR (dwn (acr S)) l r = k4 (nk (k4 (cntR S l 0) (cntR S l 1) (cntR S l 2) (cntR S l 3)) 0) (nk (k4 (cntR S l 0) (cntR S l 1) (cntR S l 2) (cntR S l 3)) 1) (nk (k4 (cntR S l 0) (cntR S l 1) (cntR S l 2) (cntR S l 3)) 2) (nk (k4 (cntR S l 0) (cntR S l 1) (cntR S l 2) (cntR S l 3)) 3) r := by
    intro r hr
    rw [cntR_round S l r hr, nk_ext (k4_of (k := cntR S l)) r]
    exact k4_of (k := nk (k4 (cntR S l 0) (cntR S l 1) (cntR S l 2) (cntR S l 3))) r hr
  refine ⟨_, _, e1, ?_, ?_, ?_, c3, c4⟩
  · intro r hr
    rw [cntR_round _ l r hr, nk_ext e1 r]
    exact k4_of (k := nk _) r hr
  · rw [← c1]; exact told_ext rfl rfl rfl rfl
  · have n0 : ∀ c, nought (onesOf S l) c = nought (fun r => (k4 (cntR S l 0) (cntR S l 1) (cntR S l 2) (cntR S l 3) r : Int)) c := nought_ext rfl rfl rfl rfl
    have b : ∀ r : Nat, onesBy (onesOf S l) r = oneN (fun r => (k4 (cntR S l 0) (cntR S l 1) (cntR S l 2) (cntR S l 3) r : Int)) r := fun r => by
      unfold onesBy oneN cnt3; rw [n0 0, n0 1, n0 2]
    rw [← c2]; exact told_ext (b 0) (b 1) (b 2) (b 3)
theorem plain1 (S : Nat → Nat → Int) (l : Int) : ∃ a b, Told (dwn (acr S)) l (onesOf S l) 2 a b := by
  obtain ⟨k1, k2, e1, e2, t1, t2, _⟩ := check_parts S l
  exact told_of t1 e1
theorem plain2 (S : Nat → Nat → Int) (l : Int) : ∃ a b, Told (dwn (acr (dwn (acr S)))) l (onesBy (onesOf S l)) 1 a b := by
  obtain ⟨k1, k2, e1, e2, t1, t2, _⟩ := check_parts S l
  exact told_of t2 e2

end
section
-- the way, to and fro, is all twelve lights in order
def wayI (P : Nat → Nat → Int) : List Int := [P 0 0, P 0 1, P 0 2, P 1 2, P 1 1, P 1 0, P 2 0, P 2 1, P 2 2, P 3 2, P 3 1, P 3 0]
def all12 (S : Nat → Nat → Int) : List Int := [S 0 0, S 0 1, S 0 2, S 1 0, S 1 1, S 1 2, S 2 0, S 2 1, S 2 2, S 3 0, S 3 1, S 3 2]
theorem sorted_of_bits : ∀ xs : List Int, (∀ l : Int, upB (xs.map fun x => decide (l ≤ x)) = true) → xs.Pairwise (· ≤ ·)
  | [], _ => .nil
  | [_], _ => .cons (fun _ h => nomatch h) .nil
  | a :: b :: r, h => by
    have hab : a ≤ b := by
      have e := h a
      simp only [List.map_cons, upB, Bool.and_eq_true, Bool.or_eq_true, Int.le_refl, decide_true, Bool.not_true, Bool.false_eq_true, false_or, decide_eq_true_eq] at e
      exact e.1
    have ht : (b :: r).Pairwise (· ≤ ·) := sorted_of_bits (b :: r) fun l => by
      have e := h l
      simp only [List.map_cons, upB, Bool.and_eq_true] at e
      exact e.2
    refine .cons (fun x hx => ?_) ht
    rcases List.mem_cons.mp hx with rfl | hx
    · exact hab
    · exact Int.le_trans hab ((List.pairwise_cons.mp ht).1 x hx)
theorem eq_of_counts : ∀ xs ys : List Int, xs.Pairwise (· ≤ ·) → ys.Pairwise (· ≤ ·) → xs.length = ys.length → (∀ l : Int, xs.countP (fun x => decide (l ≤ x)) = ys.countP (fun x => decide (l ≤ x))) → xs = ys
  | [], [], _, _, _, _ => rfl
  | [], _ :: _, _, _, h, _ => by simp at h
  | _ :: _, [], _, _, h, _ => by simp at h
  | x :: xs, y :: ys, hx, hy, hl, hc => by
    have px := List.pairwise_cons.mp hx
    have py := List.pairwise_cons.mp hy
    have full : ∀ (z : Int) (zs : List Int), (∀ a ∈ zs, z ≤ a) → zs.countP (fun x => decide (z ≤ x)) = zs.length := fun z zs h => List.countP_eq_length.mpr fun a ha => by simpa using h a ha
    have hl' : xs.length = ys.length := by simpa using hl
    have e : x = y := by
      have c1 := hc x
      have c2 := hc y
      rw [List.countP_cons, List.countP_cons, full x xs px.1] at c1
      rw [List.countP_cons, List.countP_cons, full y ys py.1] at c2
      have b1 := List.countP_le_length (p := fun a => decide (x ≤ a)) (l := ys)
      have b2 := List.countP_le_length (p := fun a => decide (y ≤ a)) (l := xs)
      simp only [Int.le_refl, decide_true, if_true, decide_eq_true_eq] at c1 c2
      by_cases h1 : x ≤ y
      · by_cases h2 : y ≤ x
        · omega
        · rw [if_neg h2] at c2; omega
      · rw [if_neg h1] at c1; omega
    subst e
    rw [eq_of_counts xs ys px.2 py.2 hl' fun l => by have := hc l; rw [List.countP_cons, List.countP_cons] at this; omega]
theorem way_bits (Q : Nat → Nat → Int) (l : Int) : (wayI (acr Q)).map (fun x => decide (l ≤ x)) = wayB (cntR Q l) := by
  unfold wayI wayB
  simp only [List.map_cons, List.map_nil]
  rw [acr_bit Q l 0 0 (by decide), acr_bit Q l 0 1 (by decide), acr_bit Q l 0 2 (by decide), acr_bit Q l 1 0 (by decide), acr_bit Q l 1 1 (by decide), acr_bit Q l 1 2 (by decide), acr_bit Q l 2 0 (by decide), acr_bit Q l 2 1 (by decide), acr_bit Q l 2 2 (by decide), acr_bit Q l 3 0 (by decide), acr_bit Q l 3 1 (by decide), acr_bit Q l 3 2 (by decide)]
theorem wayB_ext {k k' : Nat → Nat} (h : ∀ r, r < 4 → k r = k' r) : wayB k = wayB k' := by
  unfold wayB; rw [h 0 (by decide), h 1 (by decide), h 2 (by decide), h 3 (by decide)]
theorem cnt_all (S : Nat → Nat → Int) (l : Int) : (all12 S).countP (fun x => decide (l ≤ x)) = cntR S l 0 + cntR S l 1 + cntR S l 2 + cntR S l 3 := by
  have e : ∀ b : Bool, (if b = true then 1 else 0) = b.toNat := fun b => by cases b <;> rfl
  unfold all12 cntR
  simp only [List.countP_cons, List.countP_nil, e]
  omega
theorem plain3 (S : Nat → Nat → Int) (ys : List Int) (hy : ys.Pairwise (· ≤ ·)) (hp : ys.Perm (all12 S)) : wayI (acr (dwn (acr (dwn (acr S))))) = ys := by
  refine eq_of_counts _ _ (sorted_of_bits _ fun l => ?_) hy (by rw [hp.length_eq]; rfl) fun l => ?_
  · obtain ⟨k1, k2, e1, e2, t1, t2, u, c⟩ := check_parts S l
    rw [way_bits, wayB_ext e2]; exact u
  · obtain ⟨k1, k2, e1, e2, t1, t2, u, c⟩ := check_parts S l
    have e : (wayI (acr (dwn (acr (dwn (acr S)))))).countP (fun x => decide (l ≤ x)) = ((wayI (acr (dwn (acr (dwn (acr S)))))).map fun x => decide (l ≤ x)).countP id := by rw [List.countP_map]; rfl
    rw [e, way_bits, wayB_ext e2, c, hp.countP_eq, cnt_all]

end
section
-- the law's last row
section
variable {prog : Program} {w : World} {A : Around} {E Q : Value → Shared → Prop} {s : Shared} {h₀ : Heap} {L : Addr} {m : Str → Option Value} {news : List (Addr × Obj)}
theorem s_sorted12 {l : Addr} {S : Nat → Nat → Int} {W : List Int} {t00 t01 t02 t10 t11 t12 t20 t21 t22 t30 t31 t32 : Tok} {n : Nat} (F : Fr h₀ L s.heap m) (N : News h₀ L s.heap news)
    (hm : (l, listOf #[.int (S 0 0) t00, .int (S 0 1) t01, .int (S 0 2) t02, .int (S 1 0) t10, .int (S 1 1) t11, .int (S 1 2) t12, .int (S 2 0) t20, .int (S 2 1) t21, .int (S 2 2) t22, .int (S 3 0) t30, .int (S 3 1) t31, .int (S 3 2) t32] n) ∈ news)
    (hW : ∀ ys : List Int, ys.Pairwise (· ≤ ·) → ys.Perm (all12 S) → W = ys)
    (h : ∀ D vs c h', Fr h₀ L h' m → News h₀ L h' ((D, listOf (List.toArray vs) c) :: news) → (∀ q ∈ news, q.1 < D) → IntsAre vs W → Q (.ref D) { s with heap := h' }) :
    wpAny (model prog w) A (call (.builtin "sorted") [.ref l]) Q E s := by
  refine kso_sorted (ns := all12 S) F N (N.isList hm) (.cons _ _ (.cons _ _ (.cons _ _ (.cons _ _ (.cons _ _ (.cons _ _ (.cons _ _ (.cons _ _ (.cons _ _ (.cons _ _ (.cons _ _ (.cons _ _ .nil)))))))))))) (Nat.le_of_ble_eq_true rfl) fun D vs ns c h' F' N' lt hi _ hp ho _ => ?_
  refine h D vs c h' F' N' lt ?_
  rw [hW ns ho hp]
  exact hi
end
-- sixteen times each place of a list of sixteenths
inductive Sixts : List Value → List Int → Prop
  | nil : Sixts [] []
  | cons (x : Int) (t : Tok) {vs : List Value} {ns : List Int} : (0 ≤ x ∧ x ≤ 15) → Sixts vs ns → Sixts (.float (fl (2 * x)) t :: vs) (x :: ns)
theorem sixts_way {P : Nat → Nat → Int} (h : ∀ r c, 0 ≤ P r c ∧ P r c ≤ 15) (t0 t1 t2 t3 t4 t5 t6 t7 t8 t9 ta tb : Tok) :
    Sixts [.float (fl (2 * P 0 0)) t0, .float (fl (2 * P 0 1)) t1, .float (fl (2 * P 0 2)) t2, .float (fl (2 * P 1 2)) t3, .float (fl (2 * P 1 1)) t4, .float (fl (2 * P 1 0)) t5, .float (fl (2 * P 2 0)) t6, .float (fl (2 * P 2 1)) t7, .float (fl (2 * P 2 2)) t8, .float (fl (2 * P 3 2)) t9, .float (fl (2 * P 3 1)) ta, .float (fl (2 * P 3 0)) tb] (wayI P) :=
  .cons _ _ (h _ _) (.cons _ _ (h _ _) (.cons _ _ (h _ _) (.cons _ _ (h _ _) (.cons _ _ (h _ _) (.cons _ _ (h _ _) (.cons _ _ (h _ _) (.cons _ _ (h _ _) (.cons _ _ (h _ _) (.cons _ _ (h _ _) (.cons _ _ (h _ _) (.cons _ _ (h _ _) .nil)))))))))))
theorem wholes_snoc {us : List Value} {ns : List Int} (h : Wholes us ns) (x : Int) (t : Tok) (hx : 0 ≤ x ∧ x ≤ 15) : Wholes (us ++ [.float (fl (32 * x)) t]) (ns ++ [x]) := by
  induction h with
  | nil => exact .cons x t hx .nil
  | cons y u b r ih => exact .cons y u b ih
section
variable {prog : Program} {w : World} {A : Around} {E : Value → Shared → Prop} {s : Shared} {h₀ : Heap} {L : Addr} {m : Str → Option Value} {env : Env}
variable {elt : PySem.Expr} {x : Str} {scope : Scope} {cl : List (Str × Addr)} {S : List (Addr × Obj) → Prop} {Fin : List Value → List (Addr × Obj) → Prop} {news : List (Addr × Obj)}
/-- the element, for each sixteenth: sixteen times it -/
def MulT (prog : Program) (w : World) (A : Around) (h₀ : Heap) (L : Addr) (m : Str → Option Value) (env : Env) (elt : PySem.Expr) (x : Str) (scope : Scope) (cl : List (Str × Addr)) (s : Shared) (news : List (Addr × Obj)) : Prop :=
  ∀ (n : Int) t I oI C oC D ys m₂ h tk, (0 ≤ n ∧ n ≤ 15) → LCg.NsObj oC m₂ → m₂ x = some (.float (fl (2 * n)) t) → Fr h₀ L h m → News h₀ L h ((I, oI) :: (C, oC) :: (D, LCg.lst ys) :: news) → LCg.Off3 I C D news →
    ∀ (Q' : Value → Shared → Prop) (E' : Value → Shared → Prop), (∀ t' tk', Q' (.float (fl (32 * n)) t') { s with heap := h, toks := tk' }) → wpAny (model prog w) A (eval elt (compEnvC scope cl C env)) Q' E' { s with heap := h, toks := tk }
theorem mul_step (T : MulT prog w A h₀ L m env elt x scope cl s news) (hS : S news) {its : Array Value} : ∀ (zs : List Value) (bs : List Int), Sixts zs bs → ∀ (i : Nat) (ys : List Value) (as : List Int), Wholes ys as → (∀ j, its[i + j]? = zs[j]?) →
    (∀ us, Wholes us (as ++ bs) → Fin us news) → LCg.CompRest prog w A h₀ L m env elt x scope cl s S (fun i v => its[i]? = some v) Fin zs.length i ys news := by
  intro zs bs h
  induction h with
  | nil =>
    intro i ys as hy _ fin
    exact LCg.CompRest.zero (fin ys (by simpa using hy))
  | @cons n t vs ns hn _ ih =>
    intro i ys as hy hz fin
    refine LCg.CompRest.succ fun v I oI C oC D m₂ hp tk E' hP hC hx F N off ne => ?_
    have e0 := hz 0
    rw [Nat.add_zero] at e0
    have ev : v = .float (fl (2 * n)) t := by
      have := hP.symm.trans e0
      simpa using this
    subst ev
    refine T n t I oI C oC D ys m₂ hp tk hn hC hx F N off _ _ fun t' tk' => LCg.CompEnd.intro F N news (fun _ hp => hp) off hS ?_
    refine ih (i + 1) _ (as ++ [n]) (wholes_snoc hy n t' hn) (fun j => ?_) fun us hu => fin us (by simpa using hu)
    have := hz (j + 1)
    rw [show i + 1 + j = i + (j + 1) by omega, this]
    simp
def MSrc (prog : Program) (w : World) (A : Around) (h₀ : Heap) (L : Addr) (m : Str → Option Value) (env : Env) (elt : PySem.Expr) (x : Str) (scope : Scope) (cl : List (Str × Addr)) (Q : Value → Shared → Prop) (xv : Value) (s₁ : Shared) : Prop :=
  ∃ (ax : Addr) (us : List Value) (k : Nat) (bs : List Int) (news : List (Addr × Obj)), xv = .ref ax ∧ A.handled = none ∧ Fr h₀ L s₁.heap m ∧ News h₀ L s₁.heap news ∧ (ax, listOf us.toArray k) ∈ news ∧ (Sixts us bs ∧ us.length ≤ 100) ∧
    (∀ g, MulT prog w A h₀ L m env elt x scope cl { s₁ with heap := g } news) ∧
    ∀ D ys g tk, Wholes ys bs → Fr h₀ L g m → News h₀ L g ((D, LCg.lst ys) :: news) → LCg.Off1 D news → Q (.ref D) { s₁ with heap := g, toks := tk }
theorem MSrc.intro {ax : Addr} {us : List Value} {k : Nat} {bs : List Int} {Q : Value → Shared → Prop} {s₁ : Shared} (hh : A.handled = none) (F : Fr h₀ L s₁.heap m) (N : News h₀ L s₁.heap news) (hm : (ax, listOf us.toArray k) ∈ news) (hx : Sixts us bs) (hl : us.length ≤ 100)
    (T : ∀ g, MulT prog w A h₀ L m env elt x scope cl { s₁ with heap := g } news)
    (fin : ∀ D ys g tk, Wholes ys bs → Fr h₀ L g m → News h₀ L g ((D, LCg.lst ys) :: news) → LCg.Off1 D news → Q (.ref D) { s₁ with heap := g, toks := tk }) :
    MSrc prog w A h₀ L m env elt x scope cl Q (.ref ax) s₁ := ⟨ax, us, k, bs, news, rfl, hh, F, N, hm, ⟨hx, hl⟩, T, fin⟩
theorem mulComp {iter : PySem.Expr} {px : Pos} {pos : Pos} {Q : Value → Shared → Prop} (F₀ : Fr h₀ L s.heap m)
    (hclos : closureFor scope env = pure cl) (hcell : ∀ y ∈ scope.names, y.2 ≠ .cell) (hkind : scope.kind = .function)
    (hnames : ∀ y ∈ scope.names, y.2 = .local → scope.names.lookup y.1 = some .local) (hx : scope.names.lookup x = some .local)
    (h : wpAny (model prog w) A (eval iter env) (MSrc prog w A h₀ L m env elt x scope cl Q) E s)
    (hs : ∀ x, foldedSetIterable iter env x = pure x := by intro _; rfl) :
    wpAny (model prog w) A (eval (.ListComp elt [⟨.Name x px, iter, [], 0⟩] scope pos) env) Q E s := by
  refine LCg.ListComp_U F₀ hclos hcell hkind hnames hx (wpAny_mono h (fun xv s₁ h₁ => ?_) fun _ _ e => e) hs
  obtain ⟨ax, us, k, bs, news, rfl, hh, F, N, hm, ⟨hx, hl⟩, T, fin⟩ := h₁
  refine LCg.CompSrc.ledger hh F N hm (by rw [List.size_toArray]; exact Nat.le_trans hl (Nat.le_of_ble_eq_true rfl)) fun g => ?_
  rw [List.size_toArray]
  refine mul_step (T g) (.inr ⟨_, hm, rfl, _, rfl⟩) us bs hx 0 [] [] .nil (fun j => by simp) fun zs hz => fun D g2 tk F2 N2 o2 => fin D zs g2 tk (by simpa using hz) F2 N2 o2
variable {Q : Value → Shared → Prop}
theorem s_mul16E {n : Int} {t u : Tok} (hn : 0 ≤ n ∧ n ≤ 15) (h : ∀ t' tk', Q (.float (fl (32 * n)) t') { s with toks := tk' }) : wpAny (model prog w) A (binaryOp .Mult (.int 16 u) (.float (fl (2 * n)) t)) Q E s := s_mul16 hn fun t => h t _
theorem eq_wayM {a b : Addr} {P : Nat → Nat → Int} {us vs : List Value} {n : Nat} (N : News h₀ L s.heap news) (hu : Wholes us (wayI P)) (hv : IntsAre vs (wayI P)) (ha : (a, LCg.lst us) ∈ news) (hb : (b, listOf vs.toArray n) ∈ news) (hr : A.units < cLine)
    (h : Q (.bool true) s) : wpAny (model prog w) A (compareOp .Eq (.ref a) (.ref b)) Q E s := eq_wholes (n := us.length) N ha hb hu hv hr h
end

end
example : True := by
  k_with_none
  w_top off
  trivial
example : True := by
  (k_with "lit" => (first | exact rfl | exact lit_0 | exact lit_1 | exact lit_2 | exact lit_6 | exact lit_05))
  (k_with "bd" => (first | assumption | (refine' bsub ?_ ?_ <;> walk_at "bd") | (refine' badd ?_ ?_ <;> walk_at "bd") | exact Nat.le_refl _))
  (k_with "bf" => (first | ((refine' bfit ?b1z3 ?b2z3 ?b3z3); (case b1z3 => walk_at "bd"); (case b2z3 => walk_at "bd"); (case b3z3 => decide)) | omega))
  (k_with "binaryOp Add float float" => (with_plain (refine' s_add ?fxz4 ?fyz4 ?fbz4 ?_; (case fxz4 => walk_at "lit"); (case fyz4 => walk_at "lit"); (case fbz4 => walk_at "bf"); intro t9z4; (try dsimp only))))
  (k_with "binaryOp Sub float float" => (with_plain (refine' s_sub ?fxz5 ?fyz5 ?fbz5 ?_; (case fxz5 => walk_at "lit"); (case fyz5 => walk_at "lit"); (case fbz5 => walk_at "bf"); intro t9z5; (try dsimp only))))
  (k_with "binaryOp Sub float float" => (with_plain (refine' s_sub0 ?fxz6 ?fyz6 ?fbz6 ?_; (case fxz6 => exact rfl); (case fyz6 => walk_at "lit"); (case fbz6 => (refine' Nat.lt_of_le_of_lt ?b1z6 ?b3z6; (case b1z6 => assumption); (case b3z6 => decide))); intro t9z6; (try dsimp only))))
  (k_with "binaryOp Add float float" => (with_plain (refine' s_add0 ?fxz7 ?fyz7 ?fbz7 ?_; (case fxz7 => exact rfl); (case fyz7 => walk_at "lit"); (case fbz7 => (refine' Nat.lt_of_le_of_lt ?b1z7 ?b3z7; (case b1z7 => assumption); (case b3z7 => decide))); intro t9z7; (try dsimp only))))
  (k_with "binaryOp Div float float" => (with_plain (refine' s_div rfl ?fyz8 ?fbz8 ?_; (case fyz8 => walk_at "lit"); (case fbz8 => omega); intro t9z8; (try dsimp only))))
  (k_with "binaryOp Mod float float" => (with_plain (refine' s_mod rfl ?fyz9 ?fbz9 ?_; (case fyz9 => walk_at "lit"); (case fbz9 => omega); intro z9z9 t9z9; (try dsimp only))))
  (k_with "compareOp Lt float float" => (with_plain (refine' s_lt ?fxz10 ?fyz10 ?fbz10 ?_ ?_; (case fxz10 => walk_at "lit"); (case fyz10 => walk_at "lit"); (case fbz10 => walk_at "bf"); (all_goals (intro q9z10; try first | exact absurd q9z10 (by with_reducible assumption) | exact absurd (by with_reducible assumption) q9z10 | exact absurd q9z10 (by decide) | exact absurd (by decide) q9z10 | (exfalso; omega))))))
  (k_with "compareOp Gt float float" => (with_plain (refine' s_gt ?fxz11 ?fyz11 ?fbz11 ?_ ?_; (case fxz11 => walk_at "lit"); (case fyz11 => walk_at "lit"); (case fbz11 => walk_at "bf"); (all_goals (intro q9z11; try first | exact absurd q9z11 (by with_reducible assumption) | exact absurd (by with_reducible assumption) q9z11 | exact absurd q9z11 (by decide) | exact absurd (by decide) q9z11 | (exfalso; omega))))))
  (k_with "compareOp Eq float float" => (with_plain (refine' s_eq ?fxz12 ?fyz12 ?fbz12 ?_ ?_; (case fxz12 => walk_at "lit"); (case fyz12 => walk_at "lit"); (case fbz12 => walk_at "bf"); (all_goals (intro q9z12; try first | exact absurd q9z12 (by with_reducible assumption) | exact absurd (by with_reducible assumption) q9z12 | exact absurd q9z12 (by decide) | exact absurd (by decide) q9z12 | (exfalso; omega))))))
  (k_with "compareOp NotEq float float" => (with_plain (refine' s_ne ?fxz13 ?fyz13 ?fbz13 ?_ ?_; (case fxz13 => walk_at "lit"); (case fyz13 => walk_at "lit"); (case fbz13 => walk_at "bf"); (all_goals (intro q9z13; try first | exact absurd q9z13 (by with_reducible assumption) | exact absurd (by with_reducible assumption) q9z13 | exact absurd q9z13 (by decide) | exact absurd (by decide) q9z13 | (exfalso; omega))))))
  (k_with "compareOp LtE float float" => (with_plain (refine' s_le ?fxz14 ?fyz14 ?fbz14 ?_ ?_; (case fxz14 => walk_at "lit"); (case fyz14 => walk_at "lit"); (case fbz14 => walk_at "bf"); (all_goals (intro q9z14; try first | exact absurd q9z14 (by with_reducible assumption) | exact absurd (by with_reducible assumption) q9z14 | exact absurd q9z14 (by decide) | exact absurd (by decide) q9z14 | (exfalso; omega))))))
  (k_with "call builtin:max" => ((refine' max3_hi rfl ?kFz15 ?kNz15 ?kaz15 ?kbz15 ?kcz15 ?_; (case kFz15 => k_asm); (case kNz15 => k_asm); (case kaz15 => assumption); (case kbz15 => assumption); (case kcz15 => assumption); intro h9z15 tk9z15 t9z15 F9z15 N9z15; (try dsimp only))))
  (k_with "call builtin:min" => ((refine' min3_lo rfl ?kFz16 ?kNz16 ?kaz16 ?kbz16 ?kcz16 ?_; (case kFz16 => k_asm); (case kNz16 => k_asm); (case kaz16 => assumption); (case kbz16 => assumption); (case kcz16 => assumption); intro h9z16 tk9z16 t9z16 F9z16 N9z16; (try dsimp only))))
  (k_with "binaryOp Div float float" => (with_plain ((refine' s_half rfl ?fxz17 ?fyz17 ?fbz17 ?_); (case fxz17 => exact rfl); (case fyz17 => first | exact lit_2 | exact rfl); (case fbz17 => omega); intro t9z17; (try dsimp only))))
  (k_with "binaryOp Mult float float" => (with_plain ((refine' s_two ?fxz18 ?fyz18 ?fbz18 ?_); (case fxz18 => first | exact lit_2 | exact rfl); (case fyz18 => exact rfl); (case fbz18 => omega); intro t9z18; (try dsimp only))))
  (k_with "binaryOp Mult float float" => (with_plain ((refine' s_16 ?fxz19 ?fyz19 ?fbz19 ?_); (case fxz19 => exact rfl); (case fyz19 => exact rfl); (case fbz19 => omega); intro t9z19; (try dsimp only))))
  (k_with "binaryOp Mult float float" => (with_plain ((refine' s_mulz ?fzz20 ?_); (case fzz20 => first | exact mz_0 | exact mz_1 | exact mz_2 | exact mz_3 | exact mz_4 | exact mz_5); intro t9z20; (try dsimp only))))
  (k_with "binaryOp Sub float int" => (with_plain ((refine' s_subint ?fxz21 ?fbz21 ?_); (case fxz21 => exact rfl); (case fbz21 => omega); intro t9z21; (try dsimp only))))
  (k_with "binaryOp Mult int float" => (with_plain ((refine' s_mulint ?fxz22 ?fyz22 ?fbz22 ?_); (case fxz22 => exact rfl); (case fyz22 => exact rfl); (case fbz22 => omega); intro t9z22; (try dsimp only))))
  (k_with "binaryOp Div int int" => (with_plain ((refine' s_divint rfl ?fxz23 ?fbz23 ?_); (case fxz23 => exact rfl); (case fbz23 => omega); intro t9z23; (try dsimp only))))
  (k_with "enter9" => ((refine' code_def ?k1z24 ?k2z24 ?k3z24 ?k4z24 ?k5z24 ?kAz24 ?kFz24 ?kKz24 ?k6z24 ?k7z24 ?k8z24 ?k9z24 ?kBz24 ?_ ?c2z24 ?c3z24 ?c4z24 ?c5z24; (case kAz24 => exact rfl); (case kFz24 => exact rfl); (case kKz24 => first | exact rfl | assumption); (case k1z24 => k_asm); (case k2z24 => k_asm); (case k3z24 => k_asm); (case k4z24 => k_asm); (case k5z24 => k_asm); (case k6z24 => k_is); (case k7z24 => k_is); (case k8z24 => exact (Room.deep (k' := 1) (by assumption) (by decide)).lt); (case k9z24 => exact BindsTo.of_eq rfl); (case c5z24 => decide); (case kBz24 => exact locs rfl); (case c2z24 => exact rfl); (case c3z24 => exact rfl); (case c4z24 => exact rfl); k_whole; intro g'z24 L'z24 h'z24 FG'z24 F'z24 N'z24 B'z24 X'z24 T'z24; (try dsimp only); (try k_fold))))
  (k_with "call ref" => ((k_here; (refine wpAny_call ?_); k_dflt (walk_at "enter9"))))
  trivial

example : True := by
  (k_with "mlook" => (first | with_reducible exact look_at | with_reducible assumption | (refine look_by2 (by decide) ?_; walk_at "mlook") | exact rfl))
  trivial
example : True := by
  (k_with "k_ne" => (first | with_reducible assumption | (refine Ne.symm ?_; with_reducible assumption) | exact ltn (by assumption) (by k_mem) | exact Ne.symm (ltn (by assumption) (by k_mem)) | (refine neN ?_; (try dsimp only); first | with_reducible assumption | (refine Ne.symm ?_; with_reducible assumption) | exact ltn (by assumption) (by k_mem) | exact Ne.symm (ltn (by assumption) (by k_mem)) | omega)))
  trivial
example : True := by
  (k_with "memR" => (first | exact memR0 | (refine memR1 ?_; walk_at "memR")))
  (k_with "subscriptTail Name Name ref int" => ((k_here; with_plain ((refine' s_item ?k1z30 ?k2z30 ?k3z30 ?k4z30 ?_ ?k5z30); (case k1z30 => k_asm); (case k2z30 => first | k_mem | assumption | apply_assumption); (case k3z30 => first | assumption | decide | omega); (case k4z30 => first | assumption | rfl); (case k5z30 => with_unfolding_all rfl)))))
  (k_with "subscriptTail Subscript" => ((k_here; with_plain ((refine' s_item ?k1z31 ?k2z31 ?k3z31 ?k4z31 ?_ ?k5z31); (case k1z31 => k_asm); (case k2z31 => first | k_mem | assumption | apply_assumption); (case k3z31 => first | assumption | decide | omega); (case k4z31 => first | assumption | rfl); (case k5z31 => with_unfolding_all rfl)))))
  (k_with "RangeRest" => (with_plain (first | (refine' RangeRest.succ ?_; intro t'z32 h'z32 tk'z32 F'z32 N'z32) | (refine' RangeRest.zero ?_; intro h'z32 tk'z32 F'z32 N'z32))))
  (k_with "for9" => ((k_here; with_plain ((refine' For_turns ?Fz33 ?_ ?hsz33 ?hEz33); (case Fz33 => k_asm); (case hsz33 => intro _; rfl); (case hEz33 => passes_own); k_whole))))
  (k_with "exec For Tuple List cons nil" => (walk_at "for9"))
  (k_with "exec For Tuple Call cons nil" => (walk_at "for9"))
  (k_with "exec For Tuple Name cons nil" => (walk_at "for9"))
  (k_with "exec For Name List cons nil" => (walk_at "for9"))
  (k_with "pyIter ref" => ((k_here; (with_reducible show wpAny _ _ (pyIter (Value.ref _)) (fun it s₂ => TurnsAt _ _ _ _ _ _ _ _ _ it s₂) _ _); with_plain ((refine' iter_listTurns ?hhz38 ?Fz38 ?Nz38 ?mz38 ?cz38 ?dz38 ?_); (case hhz38 => exact rfl); (case Fz38 => k_asm); (case Nz38 => k_asm); (case mz38 => k_mem); (case cz38 => exact rfl); (case dz38 => exact rfl); (intro i'z38 l1z38); (try k_lt l1z38); (try dsimp only [List.map_cons, List.map_nil])))))
  (k_with "ItemsRest" => (with_plain (first | (refine' ItemsRest.val ?_; intro h'z39 tk'z39 F'z39; ktu_objs) | (refine' ItemsRest.pair ?_; intro T'z39 t'z39 h'z39 tk'z39 hT'z39 F'z39; (try dsimp only at hT'z39); ktu_objs) | (refine' ItemsRest.zero ?_; intro h'z39 tk'z39 F'z39 N'z39))))
  trivial
example : True := by
  (k_with "k_mem9" => (with_reducible ((fail_if_success (show (zz9, _) ∈ _)); first | exact List.Mem.head _ | exact mm1 | exact mm2 | exact mm3 | exact mm4 | exact mm5 | exact mm6 | exact mm7 | exact mm8 | exact mm9 | exact mm10 | exact mm11 | exact mm12 | exact mm13 | exact mm14 | exact mm15 | exact mm16 | exact mm17 | exact mm18 | exact mm19 | exact mm20 | exact mm21 | exact mm22 | exact mm23 | exact mm24)))
  (k_with "k_sub9" => (((fail_if_success (with_reducible exact subNil)); (repeat' (with_reducible first | exact subNil | exact sub0 | refine' subK ?_ | refine' subD ?_)); done)))
  trivial

section
--DROP eval Name
--KEEP i9 l9 D7 h7 tk7 F7 N7 o7 offD7 d0 d1 d2 d3 d4 d5 d6 b0 b1 b2 b3 b4 b5 b6
example : True := by
  (k_with "call ref" => ((k_here; (with_reducible show wpAny _ _ (call (Value.ref 85) [Value.ref _]) _ _ _); with_plain (
      (refine' ctrH_use (c_draws _ _ _ _ _ ?haz128 ?hbz128 ?hdz128) ?hHz128 ?k1z128 ?k2z128 ?k3z128 ?k4z128 ?k5z128 ?k6z128 ?k7z128 ?_); (case haz128 => assumption); (case hbz128 => omega); (case hdz128 => exact fun _ _ => List.not_mem_nil); (case hHz128 => assumption); (case k1z128 => k_asm); (case k2z128 => k_asm); (case k3z128 => k_asm); (case k4z128 => k_asm); (case k5z128 => k_asm); (case k6z128 => first | exact rfl | assumption); (case k7z128 => exact ⟨by decide, by decide⟩); (intro rP9z128 nP9z128 hP9z128 tkP9z128 FP9z128 NP9z128 PP9z128); (obtain ⟨q9z128, d0, d1, d2, d3, d4, d5, d6, t0z128, t1z128, t2z128, t3z128, t4z128, t5z128, t6z128, e9z128, e1z128, e2z128, lP9z128, b0, b1, b2, b3, b4, b5, b6⟩ := PP9z128); (subst e1z128 e2z128); (try k_lt lP9z128); (try dsimp only)))))
  (k_with "eval ListComp" => ((k_here; k_dflt (refine LCg.ListComp_U (F₀ := by k_asm) (by with_unfolding_all rfl) (by decide) (by rfl) (by decide) (by rfl) ?_); k_dflt lcg_toSrc)))
  (k_with "eval ListComp" => ((k_here; with_plain ((refine' ListComp_K ?Fz130 ?az130 ?bz130 ?cz130 ?dz130 ?ez130 ?fz130 ?_ ?gz130); (case Fz130 => k_asm); (case az130 => with_unfolding_all rfl); (case bz130 => exact fun _ => rfl); (case cz130 => exact fun _ => rfl); (case dz130 => exact rfl); (case ez130 => exact rfl); (case fz130 => decide); (case gz130 => exact fun _ => rfl)))))
  (k_with "exec Assign cons ListComp" => ((k_here; with_plain ((refine' Assign_ListComp_K ?Fz131 ?lz131 ?wz131 ?az131 ?bz131 ?cz131 ?dz131 ?ez131 ?fz131 ?yz131 ?pz131 ?_ ?gz131); (case Fz131 => k_asm); (case lz131 => exact rfl); (case wz131 => with_unfolding_all rfl); (case az131 => with_unfolding_all rfl); (case bz131 => exact fun _ => rfl); (case cz131 => exact fun _ => rfl); (case dz131 => exact rfl); (case ez131 => exact rfl); (case fz131 => decide); (case yz131 => exact rfl); (case pz131 => exact rfl); (case gz131 => exact fun _ => rfl)))))
  (k_with "SrcK" => ((k_here; with_plain (first
      | ((refine' SrcK.range (n := 4) ?hhz132 ?Fz132 ?Nz132 ?Rz132 ?h1z132 ?h2z132 ?h3z132 ?_); (case hhz132 => exact rfl); (case Fz132 => k_asm); (case Nz132 => k_asm); (case Rz132 => k_asm); (case h1z132 => decide); (case h2z132 => exact rfl); (case h3z132 => exact Nat.le_of_ble_eq_true rfl); (intro g9z132))
      | ((refine' SrcK.ledger (n := 2) ?hhz132 ?Fz132 ?Nz132 ?mz132 ?h3z132 ?h4z132 ?_); (case hhz132 => exact rfl); (case Fz132 => k_asm); (case Nz132 => k_asm); (case mz132 => k_mem); (case h3z132 => exact Nat.le_of_ble_eq_true rfl); (case h4z132 => exact rfl); (intro g9z132))))))
  (k_with "RestK" => ((with_plain (first
      | (refine' RestK.succ ?_; intro v'z133 I'z133 oI'z133 C'z133 oC'z133 K'z133 oK'z133 D'z133 m'z133 h'z133 tk'z133 E'z133 hv'z133 hC'z133 hK'z133 F'z133 N'z133 off'z133 offK'z133 ne'z133; (first | lcg_open hv'z133 | (obtain ⟨t9'z133, hv9'z133⟩ := hv'z133; subst hv9'z133)); (have off2z133 := off'z133); (have offK2z133 := offK'z133); (try simp only [LCg.Off3, and_true] at off2z133); (try simp only [LCg.Off1, and_true] at offK2z133))
      | refine' RestK.zero ?_))))
  (k_with "FinE" => (((unfold LCg.FinE); intro D'z134 h'z134 tk'z134 F'z134 N'z134 o1'z134; (have offDz134 := o1'z134); (try simp only [LCg.Off1, and_true] at o1'z134); (try simp only [List.nil_append, List.cons_append] at N'z134); (try dsimp only))))
  (k_with "EndK" => (with_plain (first
      | ((with_reducible show EndK _ _ _ _ _ _ _ _ _ _ _ _ _ _ (Value.ref _) _); (refine' EndK.one ?Fz135 ?Nz135 ?oz135 ?o3z135 ?okz135 ?Sz135 ?_); (case Fz135 => k_asm); (case Nz135 => k_asm); (case oz135 => assumption); (case o3z135 => assumption); (case okz135 => assumption); (case Sz135 => lcg_src))
      | ((refine' EndK.noneL ?Fz135 ?Nz135 ?sz135 ?o3z135 ?okz135 ?Sz135 ?_); (case Fz135 => k_asm); (case Nz135 => k_asm); (case o3z135 => assumption); (case sz135 => k_subL); (case okz135 => assumption); (case Sz135 => lcg_src)))))
  (k_with "CompSrc" => ((k_here; with_plain (first
      | ((refine' LCg.CompSrc.range ?hhz136 ?Fz136 ?Nz136 ?Rz136 ?h1z136 ?h2z136 ?h3z136 ?_); (case hhz136 => exact rfl); (case Fz136 => k_asm); (case Nz136 => k_asm); (case Rz136 => k_asm); (case h1z136 => decide); (case h2z136 => exact rfl); (case h3z136 => exact Nat.le_of_ble_eq_true rfl); (intro g'z136); lcg_lit)
      | ((refine' LCg.CompSrc.ledger ?hhz136 ?Fz136 ?Nz136 ?mz136 ?h3z136 ?_); (case hhz136 => exact rfl); (case Fz136 => k_asm); (case Nz136 => k_asm); (case mz136 => k_mem); (case h3z136 => exact Nat.le_of_ble_eq_true rfl); (intro g'z136); lcg_lit)))))
  (k_with "CompRest" => ((with_unfolding_all first
      | (refine LCg.CompRest.succ ?_; intro v'z137 I'z137 oI'z137 C'z137 oC'z137 D'z137 m'z137 h'z137 tk'z137 E'z137 hv'z137 hC'z137 hx'z137 F'z137 N'z137 off'z137 ne'z137; (first | lcg_open hv'z137 | (obtain ⟨t9'z137, hv9'z137⟩ := hv'z137; subst hv9'z137)); (have offKz137 := off'z137); (try simp only [LCg.Off3, and_true] at off'z137))
      | refine LCg.CompRest.zero ?_)))
  (k_with "CompEnd" => (first
      | ((with_reducible show LCg.CompEnd _ _ _ _ _ _ _ _ _ _ _ _ (Value.ref _) _); with_plain ((refine' CompEnd_one ?Fz138 ?Nz138 ?oz138 ?o3z138 ?Sz138 ?_); (case Fz138 => k_asm); (case Nz138 => k_asm); (case oz138 => assumption); (case o3z138 => assumption); (case Sz138 => lcg_src)))
      | with_plain ((refine' CompEnd_noneL ?Fz138 ?Nz138 ?uz138 ?oz138 ?Sz138 ?_); (case Fz138 => k_asm); (case oz138 => assumption); (case Nz138 => k_asm); (case uz138 => k_subL); (case Sz138 => lcg_src))
      | fail "x"))
  (k_with "k_mem9" => (with_reducible ((fail_if_success (show (zz9, _) ∈ _)); first | exact List.Mem.head _ | exact mm1 | exact mm2 | exact mm3 | exact mm4 | exact mm5 | exact mm6 | exact mm7 | exact mm8 | exact mm9 | exact mm10 | exact mm11 | exact mm12 | exact mm13 | exact mm14 | exact mm15 | exact mm16 | exact mm17 | exact mm18 | exact mm19 | exact mm20 | exact mm21 | exact mm22 | exact mm23 | exact mm24 | exact mt0 (by assumption) | exact mt1 (by assumption) | exact mt2 (by assumption) | exact mt3 (by assumption) | exact mt4 (by assumption) | exact mt5 (by assumption) | exact mt6 (by assumption) | exact mt7 (by assumption) | exact mt8 (by assumption) | fail "x")))
  (k_with "mlook2" => (first | with_reducible exact look_at | with_reducible assumption | (refine look_by2 (by decide) ?_; walk_at "mlook2")))
  (k_with "eval Name" => ((k_here; (first | (with_reducible show wpAny _ _ (eval (Expr.Name (Str.ofString "levels") _) _) _ _ _) | (with_reducible show wpAny _ _ (eval (Expr.Name (Str.ofString "picture") _) _) _ _ _) | (with_reducible show wpAny _ _ (eval (Expr.Name (Str.ofString "ones") _) _) _ _ _) | (with_reducible show wpAny _ _ (eval (Expr.Name (Str.ofString "noughts") _) _) _ _ _) | (with_reducible show wpAny _ _ (eval (Expr.Name (Str.ofString "told") _) _) _ _ _) | (with_reducible show wpAny _ _ (eval (Expr.Name (Str.ofString "way") _) _) _ _ _) | (with_reducible show wpAny _ _ (eval (Expr.Name (Str.ofString "limit") _) _) _ _ _)); with_plain ((refine' ldLoc ?k1z141 ?k2z141 ?_); (case k1z141 => k_asm); (case k2z141 => walk_at "mlook2"); k_whole))))
  trivial
theorem ne_cl {h₀ h : Heap} {L a b : Addr} {oa ob : Obj} {news : List (Addr × Obj)} {v : Option Value} {its : Array Value} {n : Nat} (N : News h₀ L h news) (ha : (a, oa) ∈ news) (hda : oa.data = .cell v) (hb : (b, ob) ∈ news) (hdb : ob.data = .seq its n) : @Ne Nat a b := fun e => by
  have e' : a = b := e
  subst e'
  have := Option.some.inj ((N _ ha).1.symm.trans (N _ hb).1)
  dsimp only at this
  rw [this, hdb] at hda
  cases hda
theorem ne_lc {h₀ h : Heap} {L a b : Addr} {oa ob : Obj} {news : List (Addr × Obj)} {v : Option Value} {its : Array Value} {n : Nat} (N : News h₀ L h news) (hb : (b, ob) ∈ news) (hdb : ob.data = .seq its n) (ha : (a, oa) ∈ news) (hda : oa.data = .cell v) : @Ne Nat b a := Ne.symm (ne_cl N ha hda hb hdb)
theorem ltnk {news : List (Addr × Obj)} {q a k : Nat} {o : Obj} (h : ∀ p ∈ news, p.1 < q) (m : (a, o) ∈ news) : @Ne Nat a (q + k) := Nat.ne_of_lt (Nat.lt_of_lt_of_le (h _ m) (Nat.le_add_right _ _))
theorem nc1 {a : Nat} : a ≠ a + 1 := by omega
theorem nc2 {a : Nat} : a ≠ a + 1 + 1 := by omega
example : True := by
  (k_with "k_ne" => ((refine neN ?_; (try dsimp only); with_plain (first
      | ((refine' ne_lc ?neNz142 ?neBz142 ?neEz142 ?neAz142 ?neDz142); (case neNz142 => k_asm); (case neBz142 => k_mem); (case neEz142 => with_reducible exact rfl); (case neAz142 => k_mem); (case neDz142 => with_reducible assumption))
      | ((refine' ne_cl ?neNz142 ?neAz142 ?neDz142 ?neBz142 ?neEz142); (case neNz142 => k_asm); (case neAz142 => k_mem); (case neDz142 => with_reducible assumption); (case neBz142 => k_mem); (case neEz142 => with_reducible exact rfl))
      | exact ltnk (by assumption) (by k_mem) | exact nc1 | exact nc2 | exact Ne.symm nc1 | exact Ne.symm nc2))))
  (k_with "FinA" => (((unfold LCg.FinA); intro D7 h7 tk7 F7 N7 o7; (have offD7 := o7); (try simp only [LCg.Off1, and_true] at o7); (try simp only [List.nil_append, List.cons_append] at N7); (try dsimp only))))
  (k_with "binaryOp Div int int" => (with_plain ((refine' s_divint rfl ?fxz144 ?fbz144 ?_); (case fxz144 => exact rfl); (case fbz144 => apply_assumption); intro t9z144; (try dsimp only))))
  (k_with "eval ListComp" => ((k_here; (with_reducible show wpAny _ _ (eval (Expr.ListComp _ [Comprehension.mk _ _ [_] _] _ _) _) _ _ _); with_plain ((refine' filt3 (p := fun x => decide (_ ≤ x)) ?fFz145 ?faz145 ?fbz145 ?fcz145 ?fdz145 ?fez145 ?_ ?fgz145); (case fFz145 => k_asm); (case faz145 => with_unfolding_all rfl); (case fbz145 => decide); (case fcz145 => exact rfl); (case fdz145 => decide); (case fez145 => exact rfl); (case fgz145 => exact fun _ => rfl)))))
  (k_with "And" => (((with_reducible show _ = _ ∧ _ = _ ∧ Fr _ _ _ _ ∧ _); with_plain ((refine' ⟨rfl, rfl, ?fFz146, ?fNz146, ?fmz146, ?_, ?_⟩); (case fFz146 => k_asm); (case fNz146 => k_asm); (case fmz146 => k_mem); ((intro gTz146; unfold TestT; intro nTz146 tTz146 ITz146 oITz146 CTz146 oCTz146 DTz146 ysTz146 mTz146 hTz146 tkTz146 hCTz146 hxTz146 FTz146 NTz146 offTz146; refine ⟨fun QT ET hqT => ?_, fun QT ET hqT => LCgL.ld_own (by k_asm) (by k_mem) (by assumption) (by assumption) hqT⟩))))))
  (k_with "forall" => (((with_reducible show ∀ _ _ _ _, _ = cnt3 _ _ _ _ → _); intro D'z147 ys'z147 g'z147 tk'z147 eL'z147 F'z147 N'z147 o1'z147; (have offDz147 := o1'z147); (try simp only [LCg.Off1, and_true] at o1'z147); (try dsimp only))))
  (k_with "call builtin:len" => ((k_here; with_plain ((refine' s_len ?lNz148 ?lmz148 ?lez148 ?lcz148 ?_); (case lNz148 => k_asm); (case lmz148 => k_mem); (case lez148 => assumption); (case lcz148 => exact cnt3_le _ _ _ _); (intro tl9z148 kl9z148); (try dsimp only)))))
  (k_with "truthy bool" => (with_plain (refine wpAny_truthy_bool ?_; assumption)))
  (k_with "pyIter ref" => ((k_here; (with_reducible show wpAny _ _ (pyIter (Value.ref _)) (fun it s₂ => TurnsAt _ _ _ _ _ _ _ _ _ it s₂) _ _); with_plain ((refine' iter_listTurns ?hhz150 ?Fz150 ?Nz150 ?mz150 ?cz150 ?dz150 ?_); (case hhz150 => exact rfl); (case Fz150 => k_asm); (case Nz150 => k_asm); (case mz150 => k_mem); (case cz150 => exact rfl); (case dz150 => exact rfl); (intro i9 l9); (try k_lt l9); (refine Hold.of ?_); (try dsimp only [List.map_cons, List.map_nil])))))
  (k_with "call ref" => ((k_here; (with_reducible show wpAny _ _ (call (Value.ref 111) [Value.ref _]) _ _ _); with_plain (
      (refine' ctr_use (c_noughtsM _ _ _ _ _ _ _ _ _ ?hmz151) ?k1z151 ?k2z151 ?k3z151 ?k4z151 ?k5z151 ?k6z151 ?k7z151 ?_); (case k1z151 => k_asm); (case k2z151 => k_asm); (case k3z151 => k_asm); (case k4z151 => k_asm); (case hmz151 => k_mem); (case k5z151 => k_asm); (case k6z151 => first | exact rfl | assumption); (case k7z151 => exact ⟨by decide, by decide⟩); (intro rN9z151 nN9z151 hN9z151 tkN9z151 FN9z151 NN9z151 PN9z151); (obtain ⟨qN9z151, s0z151, s1z151, s2z151, lN9z151⟩ := PN9z151); (have offDz151 := off1_of (fun p hp => Nat.ne_of_lt (lN9z151 p hp))); (clear lN9z151); (try dsimp only)))))
  (k_with "call ref" => ((k_here; (with_reducible show wpAny _ _ (call (Value.ref 104) [Value.ref _, Value.int _ _, Value.int _ _]) _ _ _); with_plain (
      (refine' ctr_use (c_colouredM _ _ _ ?hPz152 _ _ _ _ _ _ _ _ _ _ _ _ _ _ _ _ _ _ _ _ _ _ _ _ _ _ _ _ ?hlz152 ?hsz152 ?habz152 ?hcz152 ?hmz152) ?k1z152 ?k2z152 ?k3z152 ?k4z152 ?k5z152 ?k6z152 ?k7z152 ?_); (case k1z152 => k_asm); (case k2z152 => k_asm); (case k3z152 => k_asm); (case k4z152 => k_asm); (case hcz152 => assumption); (case habz152 => assumption); (case hlz152 => assumption); (case hsz152 => assumption); (case hmz152 => lcg_sub); (case hPz152 => exact dwn_in (acr_in (by assumption))); (case k5z152 => k_asm); (case k6z152 => first | exact rfl | assumption); (case k7z152 => exact ⟨by decide, by decide⟩); (intro rC9z152 nC9z152 hC9z152 tkC9z152 FC9z152 NC9z152 PC9z152); (obtain ⟨tC9z152⟩ := PC9z152); (try dsimp only)))))
  (k_with "call builtin:min" => ((k_here; (with_reducible show wpAny _ _ (call _ [Value.ref _]) _ _ _); with_plain ((refine' s_min3 ?hhz153 ?Fz153 ?Nz153 ?mz153 ?xz153 ?_); (case hhz153 => exact rfl); (case Fz153 => k_asm); (case Nz153 => k_asm); (case mz153 => k_mem); (case xz153 => assumption); (intro h9z153 t9z153 tk9z153 F9z153 N9z153); (try dsimp only)))))
  (k_with "call builtin:max" => ((k_here; (with_reducible show wpAny _ _ (call _ [Value.ref _]) _ _ _); with_plain ((refine' s_max3 ?hhz154 ?Fz154 ?Nz154 ?mz154 ?xz154 ?_); (case hhz154 => exact rfl); (case Fz154 => k_asm); (case Nz154 => k_asm); (case mz154 => k_mem); (case xz154 => assumption); (intro h9z154 t9z154 tk9z154 F9z154 N9z154); (try dsimp only)))))
  (k_with "call type:range" => ((k_here; (with_reducible show wpAny _ _ (call _ [_, _]) _ _ _); with_plain ((refine' s_range2 ?Fz155 ?Nz155 ?_); (case Fz155 => k_asm); (case Nz155 => k_asm); (intro r9z155 h9z155 tk9z155 t9z155 u9z155 v9z155 R9z155 F9z155 N9z155); (try dsimp only)))))
  (k_with "RSrc" => ((with_plain ((refine' RSrc.intro ?hhz156 ?Fz156 ?Nz156 ?Rz156 ?abz156 ?_ ?_); (case hhz156 => exact rfl); (case Fz156 => k_asm); (case Nz156 => k_asm); (case Rz156 => k_asm); (case abz156 => assumption)))))
  (k_with "forall" => (((with_reducible show ∀ _, EltT _ _ _ _ _ _ _ _ _ _ _ _ _ _); (intro gTz157); (unfold EltT); (intro nTz157 tTz157 ITz157 oITz157 CTz157 oCTz157 DTz157 ysTz157 mTz157 hTz157 tkTz157 hCTz157 hxTz157 FTz157 NTz157 offTz157 QTz157 ETz157 hqTz157))))
  (k_with "forall" => (((with_reducible show ∀ _ _ _ _, IntsAre _ _ → _); (intro D'z158 ys'z158 g'z158 tk'z158 iL'z158 F'z158 N'z158 _); (try dsimp only))))
  (k_with "eval ListComp" => ((k_here; (with_reducible show wpAny _ _ (eval (Expr.ListComp (Expr.BinOp _ Operator.Add _ _) [Comprehension.mk _ _ [] _] _ _) _) _ _ _); with_plain ((refine' rangeCompN ?fFz159 ?fkz159 ?faz159 ?fbz159 ?fcz159 ?fdz159 ?fez159 ?_ ?fgz159); (case fFz159 => k_asm); (case fkz159 => assumption); (case faz159 => with_unfolding_all rfl); (case fbz159 => decide); (case fcz159 => exact rfl); (case fdz159 => decide); (case fez159 => exact rfl); (case fgz159 => exact fun _ => rfl)))))
  (k_with "binaryOp Add int int" => ((with_plain ((refine' s_addE ?hz160); (case hz160 => assumption)))))
  (k_with "call ref" => ((k_here; (with_reducible show wpAny _ _ (call (Value.ref 116) [Value.ref _]) _ _ _); with_plain (
      (refine' ctr_use (c_namesM _ _ _ _ _ _ _ ?hmz161 ?hyz161 ?hnz161 ?hkz161) ?k1z161 ?k2z161 ?k3z161 ?k4z161 ?k5z161 ?k6z161 ?k7z161 ?_); (case k1z161 => k_asm); (case k2z161 => k_asm); (case k3z161 => k_asm); (case k4z161 => k_asm); (case hmz161 => k_mem); (case hyz161 => assumption); (case hnz161 => exact run2 (by assumption)); (case hkz161 => exact run32 (by assumption) (by assumption)); (case k5z161 => k_asm); (case k6z161 => first | exact rfl | assumption); (case k7z161 => exact ⟨by decide, by decide⟩); (intro rM9z161 nM9z161 hM9z161 tkM9z161 FM9z161 NM9z161 PM9z161); (obtain ⟨e1z161, tM9z161, e2z161⟩ := PM9z161); (subst e1z161 e2z161); (try dsimp only)))))
  (k_with "compareOp NotEq str str" => ((k_here; with_plain (refine' s_ne_same ?_))))
  (k_with "call builtin:str.split" => ((k_here; with_plain ((refine' s_splitR ?Fz163 ?Nz163 ?hkz163 ?abz163 ?_); (case Fz163 => k_asm); (case Nz163 => k_asm); (case hkz163 => assumption); (case abz163 => assumption); (intro D9z163 vs9z163 h9z163 tk9z163 e9z163 F9z163 N9z163 _); (try dsimp only)))))
  (k_with "call builtin:len" => ((k_here; with_plain ((refine' s_len2 ?lNz164 ?lmz164 ?lez164 ?lcz164 ?_); (case lNz164 => k_asm); (case lmz164 => k_mem); (case lez164 => assumption); (case lcz164 => exact parts_small _); (intro tl9z164 kl9z164); (try dsimp only)))))
  (k_with "compareOp Gt int int" => ((with_plain ((refine' s_gtN ?abz165 ?_); (case abz165 => exact parts_le (by assumption) (by assumption))))))
  (k_with "eval ListComp" => ((k_here; (with_reducible show wpAny _ _ (eval (Expr.ListComp _ [Comprehension.mk _ _ [Expr.Compare _ [CmpOp.LtE] _ _] _] _ _) _) _ _ _); with_plain ((refine' filt3 (p := fun x => decide (x ≤ _)) ?fFz166 ?faz166 ?fbz166 ?fcz166 ?fdz166 ?fez166 ?_ ?fgz166); (case fFz166 => k_asm); (case faz166 => with_unfolding_all rfl); (case fbz166 => decide); (case fcz166 => exact rfl); (case fdz166 => decide); (case fez166 => exact rfl); (case fgz166 => exact fun _ => rfl)))))
  (k_with "call builtin:sorted" => ((k_here; with_plain ((refine' s_sorted12 ?Fz167 ?Nz167 ?mz167 ?Wz167 ?_); (case Fz167 => k_asm); (case Nz167 => k_asm); (case mz167 => k_mem); (case Wz167 => assumption); (intro D9z167 vs9z167 c9z167 h9z167 F9z167 N9z167 _ iW9z167); (try dsimp only)))))
  (k_with "subscriptTail Subscript" => (((with_reducible show wpAny _ _ (subscriptTail (PySem.Expr.Subscript _ _ _) (PySem.Expr.Slice none none (some _) _) (Value.ref _) (Value.ref _)) _ _ _); k_dflt (refine kba_turn (value' := PySem.Expr.Name (PySem.Str.ofString "_") ⟨0, 0, 0, 0⟩) (fun _ => rfl) ?_))))
  (k_with "eval ListComp" => ((k_here; (with_reducible show wpAny _ _ (eval (Expr.ListComp (Expr.BinOp _ Operator.Mult _ _) [Comprehension.mk _ _ [] _] _ _) _) _ _ _); with_plain ((refine' mulComp ?fFz169 ?faz169 ?fbz169 ?fcz169 ?fdz169 ?fez169 ?_ ?fgz169); (case fFz169 => k_asm); (case faz169 => with_unfolding_all rfl); (case fbz169 => decide); (case fcz169 => exact rfl); (case fdz169 => decide); (case fez169 => exact rfl); (case fgz169 => exact fun _ => rfl)))))
  (k_with "MSrc" => ((with_plain ((refine' MSrc.intro ?hhz170 ?Fz170 ?Nz170 ?mz170 ?xz170 ?lz170 ?_ ?_); (case hhz170 => exact rfl); (case Fz170 => k_asm); (case Nz170 => k_asm); (case mz170 => k_mem); (case xz170 => exact sixts_way (acr_in (by assumption)) _ _ _ _ _ _ _ _ _ _ _ _); (case lz170 => exact Nat.le_of_ble_eq_true rfl)))))
  (k_with "forall" => (((with_reducible show ∀ _, MulT _ _ _ _ _ _ _ _ _ _ _ _ _); (intro gTz171); (unfold MulT); (intro nTz171 tTz171 ITz171 oITz171 CTz171 oCTz171 DTz171 ysTz171 mTz171 hTz171 tkTz171 bTz171 hCTz171 hxTz171 FTz171 NTz171 offTz171 QTz171 ETz171 hqTz171))))
  (k_with "forall" => (((with_reducible show ∀ _ _ _ _, Wholes _ _ → _); (intro D'z172 ys'z172 g'z172 tk'z172 iL'z172 F'z172 N'z172 _); (try dsimp only))))
  (k_with "binaryOp Mult int float" => (with_plain ((refine' s_mul16E ?hnz173 ?hz173); (case hnz173 => assumption); (case hz173 => assumption))))
  (k_with "compareOp Eq ref ref" => ((k_here; with_plain ((refine' eq_wayM ?kNz174 ?kuz174 ?kvz174 ?kaz174 ?kbz174 ?krz174 ?_); (case kNz174 => k_asm); (case kuz174 => assumption); (case kvz174 => assumption); (case kaz174 => k_mem); (case kbz174 => k_mem); (case krz174 => with_unfolding_all ke_room)))))
  trivial
theorem s_fdiv {prog : Program} {w : World} {A : Around} {E Q : Value → Shared → Prop} {s : Shared} {d b : Int} {t u : Tok} (hd : 0 ≤ d ∧ d ≤ 99999999) (hb : 0 < b ∧ b ≤ 256) (h : ∀ t, Q (.int (d.fdiv b) t) { s with toks := s.toks + 1 }) : wpAny (model prog w) A (binaryOp .FloorDiv (.int d t) (.int b u)) Q E s :=
  floordiv_int (by omega) (h _) (Or.inl (PyProof.noPylong_small (by omega)))
example : True := by
  (k_with "binaryOp FloorDiv int int" => (with_plain ((refine' s_fdiv ?az175 ?bz175 ?_); (case az175 => assumption); (case bz175 => decide); (intro t9z175))))
  trivial
set_option maxHeartbeats 8000000 in
theorem the_law : PySem.Challenge.rw_tr0025_01.Holds := hd (by
  k_go0
  (all_goals try k_fold)
  rename_i w s0 s1 mg mb G Y fa ob0 pm dc ho hg KX X V GL T Bt TE TW w12 w11 M w10 w9 hcd xs hs hlay0 hL1 hr1 hl2 w7 w6 sc vs w3 hL ra wl1 r0 hI hr hcond1 hcond K0 hD h1 tk1 F o3 o2 o1 dA dB dC N0 X0
  replace dA : o3.data = .cell none := dA
  replace dB : o2.data = .cell none := dB
  replace dC : o1.data = .cell none := dC
  clear X0 hD hcd wl1 r0 hr ra
  refine cut_execs (fun B R => ((∀ h m tk (S : Nat → Nat → Int) lA lB sh, (∀ r c, 0 ≤ S r c ∧ S r c ≤ 15) → (1 ≤ lA ∧ lA ≤ 15) → (1 ≤ lB ∧ lB ≤ 15) → (0 ≤ sh ∧ sh ≤ 28) → Fr s1.heap s1.heap.objs.size h m → S2 s1.heap s1.heap.objs.size S S lA lB sh h m → R (B.drop 5) { s1 with heap := h, toks := tk }) → (∀ h m tk (S : Nat → Nat → Int) lA lB sh, (∀ r c, 0 ≤ S r c ∧ S r c ≤ 15) → (1 ≤ lA ∧ lA ≤ 15) → (1 ≤ lB ∧ lB ≤ 15) → (0 ≤ sh ∧ sh ≤ 28) → Fr s1.heap s1.heap.objs.size h m → S1 s1.heap s1.heap.objs.size S lA lB sh h m → R (B.drop 4) { s1 with heap := h, toks := tk })) ∧ ((∀ h m tk (S : Nat → Nat → Int) lA lB sh, (∀ r c, 0 ≤ S r c ∧ S r c ≤ 15) → (1 ≤ lA ∧ lA ≤ 15) → (1 ≤ lB ∧ lB ≤ 15) → (0 ≤ sh ∧ sh ≤ 28) → Fr s1.heap s1.heap.objs.size h m → S3 s1.heap s1.heap.objs.size S S (onesOf S lA) (onesOf S lB) lA lB sh h m → R (B.drop 6) { s1 with heap := h, toks := tk }) → (∀ h m tk (S : Nat → Nat → Int) lA lB sh, (∀ r c, 0 ≤ S r c ∧ S r c ≤ 15) → (1 ≤ lA ∧ lA ≤ 15) → (1 ≤ lB ∧ lB ≤ 15) → (0 ≤ sh ∧ sh ≤ 28) → Fr s1.heap s1.heap.objs.size h m → S2 s1.heap s1.heap.objs.size S S lA lB sh h m → R (B.drop 5) { s1 with heap := h, toks := tk })) ∧ (∀ h m tk (S : Nat → Nat → Int) lA lB sh, (∀ r c, 0 ≤ S r c ∧ S r c ≤ 15) → (1 ≤ lA ∧ lA ≤ 15) → (1 ≤ lB ∧ lB ≤ 15) → (0 ≤ sh ∧ sh ≤ 28) → Fr s1.heap s1.heap.objs.size h m → S3 s1.heap s1.heap.objs.size S S (onesOf S lA) (onesOf S lB) lA lB sh h m → R (B.drop 6) { s1 with heap := h, toks := tk })) ⟨?_, ?_, ?_⟩ ?_
--STAGE s1 2
  · intro g h m tk S lA lB sh hS hlA hlB hsh F HS9
    obtain ⟨qs, ql, a0, a1, a2, a3, o2, o3, tA, tB, ts, t00, t01, t02, t10, t11, t12, t20, t21, t22, t30, t31, t32, hm1, hd2, hd3, N⟩ := HS9
    dsimp only at g
    show wpAny _ _ _ _ _ _
    clear N0 dA dB dC
    dsimp only [List.drop]
    repeat' (first | ((fail_if_success (with_reducible show LCg.CompRest _ _ _ _ _ _ _ _ _ _ _ _ _ _ _ 4 _ _ _)); first | (first | (k_unfold; (try dsimp only)) | (k_end; wrow_close) | walk1 | (dsimp only; walk1) | (leave1; walk_say "STEP leave1"; try dsimp only))) | fail "x")
    refine' compRows4 (fun f t u v => frow (f 0) (f 1) (f 2) t u v 3) (VR S qs _) S VR.up ?h01 ?_ ?_
    (case h01 => exact VR.four (by k_mem) (by k_mem) (by k_mem) (by k_mem) (by k_mem))
--STAGE s1t 4
    · intro i v ys n' R hV nextR
      obtain ⟨a, t0, t1, t2, rfl, hqs, ha⟩ := hV
      have hSi := hS i
      unfold TurnC
      intro I oI C oC D m₂ h tk E' hNs hx F N o3' ⟨ne1, ne2, ne3⟩
      clear g
      repeat' (first | (first | (k_unfold; (try dsimp only)) | (k_end; wrow_close) | walk1 | (dsimp only; walk1) | (leave1; walk_say "STEP leave1"; try dsimp only)))
      exact nextR _ _ _ _ (off1_t3 (by assumption))
--END
    intro r0 r1 r2 r3 u00 u01 u02 u10 u11 u12 u20 u21 u22 u30 u31 u32 or0 or1 or2 or3
    repeat' (first | ((fail_if_success (with_reducible show wpAny _ _ (execs (Stmt.Assign [Expr.Name (Str.ofString "ones") _] _ _ :: _) _) _ _ _)); first | (first | (k_unfold; (try dsimp only)) | (k_end; wrow_close) | walk1 | (dsimp only; walk1) | (leave1; walk_say "STEP leave1"; try dsimp only))) | fail "x")
    refine' g _ _ _ S _ _ _ hS hlA hlB hsh ?uF ⟨_, _, _, _, _, _, _, _, _, _, _, _, _, _, _, _, _, _, _, _, _, _, _, _, _, _, _, _, _, _, _, _, _, _, _, _, _, _, _, _, ?um, ?um2, hd2, hd3, ?uN, ?uO⟩
    (case uF => k_asm)
    (case um => walk_at "mlook2")
    (case um2 => walk_at "mlook2")
    (case uN => exact subN (by k_asm) (by k_subL))
    (case uO => exact off1_sub (by assumption) (by k_subL))
--END
--STAGE s2 2
  · intro g h m tk S lA lB sh hS hlA hlB hsh F HS9
    obtain ⟨p, r0, r1, r2, r3, qs, ql, a0, a1, a2, a3, o2, o3, tA, tB, ts, t00, t01, t02, t10, t11, t12, t20, t21, t22, t30, t31, t32, u00, u01, u02, u10, u11, u12, u20, u21, u22, u30, u31, u32, hm1, hm2, hd2, hd3, N, hO⟩ := HS9
    dsimp only at g
    show wpAny _ _ _ _ _ _
    clear N0 dA dB dC
    dsimp only [List.drop]
    repeat' (first | ((fail_if_success (with_reducible show RestK _ _ _ _ _ _ _ _ _ _ _ _ _ _ _ 2 _ _ _)); first | (first | (k_unfold; (try dsimp only)) | (k_end; wrow_close) | walk1 | (dsimp only; walk1) | (leave1; walk_say "STEP leave1"; try dsimp only))) | fail "x")
    refine' restK2 (VL S (CS qs a0 a1 a2 a3 (rows4 a0 a1 a2 a3) (irow (S 0 0) (S 0 1) (S 0 2) t00 t01 t02) (irow (S 1 0) (S 1 1) (S 1 2) t10 t11 t12) (irow (S 2 0) (S 2 1) (S 2 2) t20 t21 t22) (irow (S 3 0) (S 3 1) (S 3 2) t30 t31 t32) (s1.heap.objs.size + 1 + 1) o2) ql _) (onesOf S lA) (onesOf S lB) VL.up ?r0s ?r1s ?_ ?_
    (case r0s => intro v hv; cases hv; exact ⟨lA, _, rfl, by k_mem, ⟨by k_mem, by k_mem, by k_mem, by k_mem, by k_mem, by k_mem⟩, rfl⟩)
    (case r1s => intro v hv; cases hv; exact ⟨lB, _, rfl, by k_mem, ⟨by k_mem, by k_mem, by k_mem, by k_mem, by k_mem, by k_mem⟩, rfl⟩)
--STAGE s2t 4
    · intro v ys n' f R hV nextR
      obtain ⟨l, t, rfl, hql, ⟨k0, k1, k2, k3, k4, k5⟩, rfl⟩ := hV
      unfold TurnK
      clear g
      intro I oI C oC K oK D m₂ h tk E' hNs hdK F N o3' ok ⟨ne1, ne2, ne3, ne4, ne5, ne6⟩
      repeat' (first | ((fail_if_success (with_reducible show LCg.CompRest _ _ _ _ _ _ _ _ _ _ _ _ _ _ _ 4 _ _ _)); first | (first | (k_unfold; (try dsimp only)) | (k_end; wrow_close) | walk1 | (dsimp only; walk1) | (leave1; walk_say "STEP leave1"; try dsimp only))) | fail "x")
      refine' compInts4 (onesOf S l) (fun i v n => VR S qs (rows4 a0 a1 a2 a3) i v n ∧ (K, oK) ∈ n) ?h02 ?_ ?_
      (case h02 => exact fun i v hi hv => ⟨VR.four (by k_mem) (by k_mem) (by k_mem) (by k_mem) (by k_mem) i v hi hv, by k_mem⟩)
      · intro i v ys' n'' R' hV' nextR'
        obtain ⟨⟨a, t0, t1, t2, rfl, hqs, ha⟩, hK⟩ := hV'
        unfold TurnC
        intro I' oI' C' oC' D' m₂' h' tk' E'' hNs' hx' F' N' o3'' ⟨ne1', ne2', ne3'⟩
        repeat' (first | (first | (k_unfold; (try dsimp only)) | (k_end; wrow_close) | walk1 | (dsimp only; walk1) | (leave1; walk_say "STEP leave1"; try dsimp only)))
        exact nextR' _
      · intro t0 t1 t2 t3
        repeat' (first | (first | (k_unfold; (try dsimp only)) | (k_end; wrow_close) | walk1 | (dsimp only; walk1) | (leave1; walk_say "STEP leave1"; try dsimp only)))
        exact nextR _ _ _ _ _ (off1_t4 (by assumption))
--END
    intro w0 w1 v0 v1 v2 v3 v4 v5 v6 v7 ow0 ow1
    repeat' (first | ((fail_if_success (with_reducible show wpAny _ _ (execs (Stmt.For _ _ _ _ _ :: _) _) _ _ _)); first | (first | (k_unfold; (try dsimp only)) | (k_end; wrow_close) | walk1 | (dsimp only; walk1) | (leave1; walk_say "STEP leave1"; try dsimp only))) | fail "x")
    all_goals (try (show wpAny _ _ _ _ _ _; refine' g _ _ _ S _ _ _ hS hlA hlB hsh ?uF ⟨_, _, _, _, _, _, _, _, _, _, _, _, _, _, _, _, _, _, _, _, _, _, _, _, _, _, _, _, _, _, _, _, _, _, _, _, _, _, _, _, _, _, _, _, _, _, _, _, _, _, _, _, _, _, _, ?um, ?um2, ?um3, hd2, hd3, ?uN, ?uO⟩; (case uF => k_asm); (case um => walk_at "mlook2"); (case um2 => walk_at "mlook2"); (case um3 => walk_at "mlook2"); (case uN => exact subN (by k_asm) (by k_subL)); (case uO => (repeat' (first | exact True.intro | (refine And.intro ?_ ?_))); all_goals first | exact off1_mem hO _ (by k_mem) | (refine' Ne.symm (off1_mem ?oo (p, prow r0 r1 r2 r3 4) ?mm); (case oo => assumption); (case mm => k_mem)))))
--END
--STAGE loop 2
  · intro h m tk0 S lA lB sh hS hlA hlB hsh F HS9
    obtain ⟨f0, f1, f2, f3, p, r0, r1, r2, r3, qo, w0, w1, qs, ql, a0, a1, a2, a3, o2, o3, tA, tB, ts, v0, v1, v2, v3, v4, v5, v6, v7, t00, t01, t02, t10, t11, t12, t20, t21, t22, t30, t31, t32, u00, u01, u02, u10, u11, u12, u20, u21, u22, u30, u31, u32, hm1, hm2, hm3, hd2, hd3, N, hO⟩ := HS9
    obtain ⟨kk, rfl⟩ := Int.eq_ofNat_of_zero_le hsh.1
    have hks : kk ≤ 28 := by have := hsh.2; omega
    show wpAny _ _ _ _ _ _
    clear N0 dA dB dC
    dsimp only [List.drop]
    repeat' (first | (k_unfold; (try dsimp only)) | (k_end; wrow_close) | walk1 | (dsimp only; walk1) | (leave1; walk_say "STEP leave1"; try dsimp only))
    rename_i ll h9 F9 N9 l8
    clear F9 N9
    have hOl : LCg.Off1 p [(ll, listOf #[.int 2 tk0, .int 1 (tk0 + 1)] 0)] := ⟨Nat.ne_of_gt (l8 (p, prow r0 r1 r2 r3 4) (by k_mem)), trivial⟩
    have hpi : @Ne Nat i9 p := Nat.ne_of_gt (l9 (p, prow r0 r1 r2 r3 4) (by k_mem))
    have hi3 : @Ne Nat (s1.heap.objs.size + 1 + 1 + 1) i9 := Nat.ne_of_lt (l9 (s1.heap.objs.size + 1 + 1 + 1, o3) (by k_mem))
    have hi2 : @Ne Nat (s1.heap.objs.size + 1 + 1) i9 := Nat.ne_of_lt (l9 (s1.heap.objs.size + 1 + 1, o2) (by k_mem))
    clear l8 l9
    refine cut_items (fun R => (∀ m n P oA oB, (∀ ys : List Int, ys.Pairwise (· ≤ ·) → ys.Perm (all12 S) → wayI (acr P) = ys) → LS s1.heap.objs.size ll (listOf #[.int 2 tk0, .int 1 (tk0 + 1)] 0) p qs ql a0 a1 a2 a3 o2 o3 tA tB t00 t01 t02 t10 t11 t12 t20 t21 t22 t30 t31 t32 S lA lB P oA oB m n → R [] m n) ∧
      (∀ (rest : List Itm) (lim : Nat) (tl : Tok) P oA oB, 1 ≤ lim → (∀ m n, LS s1.heap.objs.size ll (listOf #[.int 2 tk0, .int 1 (tk0 + 1)] 0) p qs ql a0 a1 a2 a3 o2 o3 tA tB t00 t01 t02 t10 t11 t12 t20 t21 t22 t30 t31 t32 S lA lB (dwn (acr P)) (onesBy oA) (onesBy oB) m n → R rest m n) →
        ∀ m n, (∃ a b, Told (dwn (acr P)) lA oA lim a b) → (∃ a b, Told (dwn (acr P)) lB oB lim a b) → LS s1.heap.objs.size ll (listOf #[.int 2 tk0, .int 1 (tk0 + 1)] 0) p qs ql a0 a1 a2 a3 o2 o3 tA tB t00 t01 t02 t10 t11 t12 t20 t21 t22 t30 t31 t32 S lA lB P oA oB m n → R (.val (.int (lim : Int) tl) :: rest) m n)) ⟨?_, ?_⟩ ?_
--STAGE end 4
    · intro m n P oA oB hW HS9
      obtain ⟨f0, f1, f2, f3, r0, r1, r2, r3, qo, w0, w1, v0, v1, v2, v3, v4, v5, v6, v7, u00, u01, u02, u10, u11, u12, u20, u21, u22, u30, u31, u32, hP, hm1, hm2, hm3, en, hO⟩ := HS9
      subst en
      repeat' (first | ((fail_if_success (with_reducible show wpAny _ _ (call (Value.ref 92) _) _ _ _)); first | (first | (k_unfold; (try dsimp only)) | (k_end; wrow_close) | walk1 | (dsimp only; walk1) | (leave1; walk_say "STEP leave1"; try dsimp only))) | fail "x")
      have NX := subN (n' := (p, prow r0 r1 r2 r3 4) :: (r0, frow (P 0 0) (P 0 1) (P 0 2) u00 u01 u02 f0) :: (r1, frow (P 1 0) (P 1 1) (P 1 2) u10 u11 u12 f1) :: (r2, frow (P 2 0) (P 2 1) (P 2 2) u20 u21 u22 f2) :: (r3, frow (P 3 0) (P 3 1) (P 3 2) u30 u31 u32 f3) :: [(ll, listOf #[.int 2 tk0, .int 1 (tk0 + 1)] 0), (qo, LCg.lst [.ref w0, .ref w1]), (w0, listOf #[.int (oA 0) v0, .int (oA 1) v1, .int (oA 2) v2, .int (oA 3) v3] 4), (w1, listOf #[.int (oB 0) v4, .int (oB 1) v5, .int (oB 2) v6, .int (oB 3) v7] 4), (qs, rows4 a0 a1 a2 a3), (a0, irow (S 0 0) (S 0 1) (S 0 2) t00 t01 t02), (a1, irow (S 1 0) (S 1 1) (S 1 2) t10 t11 t12), (a2, irow (S 2 0) (S 2 1) (S 2 2) t20 t21 t22), (a3, irow (S 3 0) (S 3 1) (S 3 2) t30 t31 t32), (ql, LCg.lst [.int lA tA, .int lB tB]), (s1.heap.objs.size + 1 + 1 + 1, o3), (s1.heap.objs.size + 1 + 1, o2)]) (by k_asm) (by k_subL)
      have hrp : r0 ≠ p ∧ r1 ≠ p ∧ r2 ≠ p ∧ r3 ≠ p := ⟨off1_mem hO (r0, _) (by k_mem), off1_mem hO (r1, _) (by k_mem), off1_mem hO (r2, _) (by k_mem), off1_mem hO (r3, _) (by k_mem)⟩
      refine' ctr_use (c_acrossA w _ P hP p r0 r1 r2 r3 4 f0 f1 f2 f3 u00 u01 u02 u10 u11 u12 u20 u21 u22 u30 u31 u32 ?hp hrp) ?k1 ?k2 ?k3 NX ?k5 ?k6 ?k7 ?_
      (case hp => exact off1_mem (off1_sub hO (by k_subL)))
      (case k1 => k_asm)
      (case k2 => k_asm)
      (case k3 => k_asm)
      (case k5 => k_asm)
      (case k6 => exact rfl)
      (case k7 => exact ⟨by decide, by decide⟩)
      rintro rr nn hh tkk FF NN ⟨q0, q1, q2, q3, g0, g1, g2, g3, s00, s01, s02, s10, s11, s12, s20, s21, s22, s30, s31, s32, aA, bA, cA, dA, eA⟩
      clear NX
      repeat' (first | (k_unfold; (try dsimp only)) | (k_end; wrow_close) | walk1 | (dsimp only; walk1) | (leave1; walk_say "STEP leave1"; try dsimp only))
--END
--STAGE turn 4
    · intro rest lim tl P oA oB hlim next m n hTA hTB HS9
      obtain ⟨f0, f1, f2, f3, r0, r1, r2, r3, qo, w0, w1, v0, v1, v2, v3, v4, v5, v6, v7, u00, u01, u02, u10, u11, u12, u20, u21, u22, u30, u31, u32, hP, hm1, hm2, hm3, en, hO⟩ := HS9
      subst en
      obtain ⟨xa, xb, hTA⟩ := hTA
      obtain ⟨ya, yb, hTB⟩ := hTB
      repeat' (first | ((fail_if_success (with_reducible show wpAny _ _ (call (Value.ref 92) _) _ _ _)); first | (first | (k_unfold; (try dsimp only)) | (k_end; wrow_close) | walk1 | (dsimp only; walk1) | (leave1; walk_say "STEP leave1"; try dsimp only))) | fail "x")
      rename (Obj.cls _ = Value.type "list_iterator") => hci
      have NX := subN (n' := (p, prow r0 r1 r2 r3 4) :: (r0, frow (P 0 0) (P 0 1) (P 0 2) u00 u01 u02 f0) :: (r1, frow (P 1 0) (P 1 1) (P 1 2) u10 u11 u12 f1) :: (r2, frow (P 2 0) (P 2 1) (P 2 2) u20 u21 u22 f2) :: (r3, frow (P 3 0) (P 3 1) (P 3 2) u30 u31 u32 f3) :: [(_, _), (ll, listOf #[.int 2 tk0, .int 1 (tk0 + 1)] 0), (qo, LCg.lst [.ref w0, .ref w1]), (w0, listOf #[.int (oA 0) v0, .int (oA 1) v1, .int (oA 2) v2, .int (oA 3) v3] 4), (w1, listOf #[.int (oB 0) v4, .int (oB 1) v5, .int (oB 2) v6, .int (oB 3) v7] 4), (qs, rows4 a0 a1 a2 a3), (a0, irow (S 0 0) (S 0 1) (S 0 2) t00 t01 t02), (a1, irow (S 1 0) (S 1 1) (S 1 2) t10 t11 t12), (a2, irow (S 2 0) (S 2 1) (S 2 2) t20 t21 t22), (a3, irow (S 3 0) (S 3 1) (S 3 2) t30 t31 t32), (ql, LCg.lst [.int lA tA, .int lB tB]), (s1.heap.objs.size + 1 + 1 + 1, o3), (s1.heap.objs.size + 1 + 1, o2)]) (by k_asm) (by k_subL)
      have hrp : r0 ≠ p ∧ r1 ≠ p ∧ r2 ≠ p ∧ r3 ≠ p := ⟨off1_mem hO (r0, _) (by k_mem), off1_mem hO (r1, _) (by k_mem), off1_mem hO (r2, _) (by k_mem), off1_mem hO (r3, _) (by k_mem)⟩
      refine' ctr_use (c_acrossA w _ P hP p r0 r1 r2 r3 4 f0 f1 f2 f3 u00 u01 u02 u10 u11 u12 u20 u21 u22 u30 u31 u32 ?hp hrp) ?k1 ?k2 ?k3 NX ?k5 ?k6 ?k7 ?_
      (case hp => exact List.forall_mem_cons.mpr ⟨hpi, off1_mem (off1_sub hO (by k_subL))⟩)
      (case k1 => k_asm)
      (case k2 => k_asm)
      (case k3 => k_asm)
      (case k5 => k_asm)
      (case k6 => exact rfl)
      (case k7 => exact ⟨by decide, by decide⟩)
      rintro rr nn hh tkk FF NN ⟨q0, q1, q2, q3, g0, g1, g2, g3, s00, s01, s02, s10, s11, s12, s20, s21, s22, s30, s31, s32, aA, bA, cA, dA, eA⟩
      clear NX
      repeat' (first | ((fail_if_success (with_reducible show wpAny _ _ (call (Value.ref 99) _) _ _ _)); first | (first | (k_unfold; (try dsimp only)) | (k_end; wrow_close) | walk1 | (dsimp only; walk1) | (leave1; walk_say "STEP leave1"; try dsimp only))) | fail "x")
      refine' ctr_use (c_downA w _ (acr P) (acr_in hP) p q0 q1 q2 q3 4 g0 g1 g2 g3 s00 s01 s02 s10 s11 s12 s20 s21 s22 s30 s31 s32 ⟨bA, cA, dA, eA⟩ (dis5 (List.forall_mem_cons.mpr ⟨hpi, off1_mem (off1_sub hO ?zs)⟩) aA cA dA eA)) ?k1 ?k2 ?k3 ?k4 ?k5 ?k6 ?k7 ?_
      (case k4 => k_asm)
      (case zs => k_subL)
      (case k1 => k_asm)
      (case k2 => k_asm)
      (case k3 => k_asm)
      (case k5 => k_asm)
      (case k6 => exact rfl)
      (case k7 => exact ⟨by decide, by decide⟩)
      rintro rr2 nn2 hh2 tkk2 FF2 NN2 ⟨z00, z01, z02, z10, z11, z12, z20, z21, z22, z30, z31, z32⟩
      repeat' (first | ((fail_if_success (with_reducible show ItemsRest _ _ _ _ _ _ (Expr.Tuple _ _ _) _ _ _ _ _ _ _ _)); first | (first | (k_unfold; (try dsimp only)) | (k_end; wrow_close) | walk1 | (dsimp only; walk1) | (leave1; walk_say "STEP leave1"; try dsimp only))) | fail "x")
      refine' two_turns (ZM p ql D7 (lim : Int) tl) (ZC p q0 q1 q2 q3 (s1.heap.objs.size + 1 + 1 + 1) _ ql D7 _ _ o3 _ _ _ _ _) (ZP (dwn (acr P)) lim) ?zM ?zC ?z1 ?z2 ?zt ?zf
      (case zM => exact ⟨by walk_at "mlook2", by walk_at "mlook2", by walk_at "mlook2", by walk_at "mlook2"⟩)
      (case zC => exact ⟨by k_mem, by k_mem, by k_mem, by k_mem, by k_mem, by k_mem, by k_mem, by k_mem, by assumption⟩)
      (case z1 => exact ⟨lA, tA, _, oA, _, _, _, xa, xb, rfl, hlA, by k_mem, hTA⟩)
      (case z2 => exact ⟨lB, tB, _, oB, _, _, _, ya, yb, rfl, hlB, by k_mem, hTB⟩)
--STAGE zt 6
      · intro Qz nz ez rz mz hC9 hP9 hM9 nextz
        obtain ⟨kp, kq0, kq1, kq2, kq3, kc3, kql, kD, klt⟩ := hC9
        obtain ⟨l, tl9, q, o, s0, s1', s2, xa, xb, ee, hl, hq, ⟨h0, h1, h2, hll⟩, ⟨hmin, hmax⟩, hc⟩ := hP9
        obtain ⟨hmp, hml, hmn, hmt⟩ := hM9
        subst ee
        have hab : xa ≤ xb ∧ xb ≤ xa + 2 ∧ xb ≤ 4 := ⟨h0, h1, h2⟩
        clear h0 h1 h2
        repeat' (first | ((fail_if_success (with_reducible show UnrEndW _ _ _ _ _ _)); first | (first | (k_unfold; (try dsimp only)) | (k_end; wrow_close) | walk1 | (dsimp only; walk1) | (leave1; walk_say "STEP leave1"; try dsimp only))) | fail "x")
        refine' UnrEndW.intro ?F ?N nz ?hI ?hS ?hO ⟨?hK, nextz _ ⟨?m1, ?m2, ?m3, ?m4⟩⟩
        (case F => k_asm)
        (case N => k_asm)
        (case hI => k_subL)
        (case hS => k_subL)
        (case hO => exact offW5 klt)
        (case hK => exact ⟨kql, kD, trivial⟩)
        (case m1 => walk_at "mlook2")
        (case m2 => walk_at "mlook2")
        (case m3 => walk_at "mlook2")
        (case m4 => walk_at "mlook2")
--END
      intro mz hz tkz hM9 Fz Nz
      obtain ⟨hmp, hml, hmn, hmt⟩ := hM9
      dsimp only
--STAGE zf 6
      repeat' (first | ((fail_if_success (with_reducible show RestK _ _ _ _ _ _ _ _ _ _ _ _ _ _ _ 2 _ _ _)); first | (first | (k_unfold; (try dsimp only)) | (k_end; wrow_close) | walk1 | (dsimp only; walk1) | (leave1; walk_say "STEP leave1"; try dsimp only))) | fail "x")
      refine' restK2 (VQ D7 _) (onesBy oA) (onesBy oB) VQ.up ?r0 ?r1 ?rt ?rf
      (case r0 => intro v hv; cases hv; exact ⟨_, oA, _, _, _, rfl, by k_mem, by k_mem, rfl⟩)
      (case r1 => intro v hv; cases hv; exact ⟨_, oB, _, _, _, rfl, by k_mem, by k_mem, rfl⟩)
--STAGE rt 6
      · intro v ys n' f R hV nextR
        obtain ⟨q, o, s0, s1', s2, rfl, hD, hq, rfl⟩ := hV
        unfold TurnK
        intro I oI C oC K oK D m₂ h tk E' hNs hdK F N o3' ok ⟨ne1, ne2, ne3, ne4, ne5, ne6⟩
        repeat' (first | ((fail_if_success (with_reducible show RestK _ _ _ _ _ _ _ _ _ _ _ _ _ _ _ 4 _ _ _)); first | (first | (k_unfold; (try dsimp only)) | (k_end; wrow_close) | walk1 | (dsimp only; walk1) | (leave1; walk_say "STEP leave1"; try dsimp only))) | fail "x")
        refine' restK4 (onesBy o) (CQ q K _ oK) ⟨?cq, ?cK⟩ ?t4 ?f4
        (case cq => k_mem)
        (case cK => k_mem)
        · intro i t ys' n'' R' hi hCN nextR'
          obtain ⟨hq', hK'⟩ := hCN
          unfold TurnK
          intro I' oI' C' oC' K' oK' D' m₂' h' tk' E'' hNs' hdK' F' N' o3'' ok' ⟨ne1', ne2', ne3', ne4', ne5', ne6'⟩
          repeat' (first | (first | (k_unfold; (try dsimp only)) | (k_end; wrow_close) | walk1 | (dsimp only; walk1) | (leave1; walk_say "STEP leave1"; try dsimp only)))
          exact nextR' _
        · intro t0 t1 t2 t3
          repeat' (first | (first | (k_unfold; (try dsimp only)) | (k_end; wrow_close) | walk1 | (dsimp only; walk1) | (leave1; walk_say "STEP leave1"; try dsimp only)))
          exact nextR _ _ _ _ _ (off1_t4 (by assumption))
--END
      intro na nb t0 t1 t2 t3 u0 u1 u2 u3 oa ob
      repeat' (first | ((fail_if_success (with_reducible show UnrEndW _ _ _ [_] _ _)); first | (first | (k_unfold; (try dsimp only)) | (k_end; wrow_close) | walk1 | (dsimp only; walk1) | (leave1; walk_say "STEP leave1"; try dsimp only))) | fail "x")
      clear o7
      refine' UnrEndW.intro F7 N7 [(ll, listOf #[.int 2 tk0, .int 1 (tk0 + 1)] 0), (p, prow q0 q1 q2 q3 4), (q0, frow (dwn (acr P) 0 0) (dwn (acr P) 0 1) (dwn (acr P) 0 2) z00 z01 z02 g0), (q1, frow (dwn (acr P) 1 0) (dwn (acr P) 1 1) (dwn (acr P) 1 2) z10 z11 z12 g1), (q2, frow (dwn (acr P) 2 0) (dwn (acr P) 2 1) (dwn (acr P) 2 2) z20 z21 z22 g2), (q3, frow (dwn (acr P) 3 0) (dwn (acr P) 3 1) (dwn (acr P) 3 2) z30 z31 z32 g3), (D7, LCg.lst [.ref _, .ref _]), (_, listOf #[.int (onesBy oA 0) _, .int (onesBy oA 1) _, .int (onesBy oA 2) _, .int (onesBy oA 3) _] 4), (_, listOf #[.int (onesBy oB 0) _, .int (onesBy oB 1) _, .int (onesBy oB 2) _, .int (onesBy oB 3) _] 4), (qs, rows4 a0 a1 a2 a3), (a0, irow (S 0 0) (S 0 1) (S 0 2) t00 t01 t02), (a1, irow (S 1 0) (S 1 1) (S 1 2) t10 t11 t12), (a2, irow (S 2 0) (S 2 1) (S 2 2) t20 t21 t22), (a3, irow (S 3 0) (S 3 1) (S 3 2) t30 t31 t32), (ql, LCg.lst [.int lA tA, .int lB tB]), (s1.heap.objs.size + 1 + 1 + 1, o3), (s1.heap.objs.size + 1 + 1, o2)] ?hI ?hS ?hO ⟨?hK, next _ _ ⟨_, _, _, _, _, _, _, _, _, _, _, _, _, _, _, _, _, _, _, _, _, _, _, _, _, _, _, _, _, _, _, dwn_in (acr_in hP), ?m1, ?m2, ?m3, rfl, ?oo⟩⟩
      (case hI => k_subL)
      (case hS => k_subL)
      (case hK => k_subL)
      (case hO => repeat' (first | exact trivial | exact Or.inl hi3 | exact Or.inl hi2 | exact Or.inr (ktu_clsNe hci (by k_cls)) | refine And.intro ?_ ?_))
      (case m1 => walk_at "mlook2")
      (case m2 => walk_at "mlook2")
      (case m3 => walk_at "mlook2")
      (case oo => (repeat' (first | exact True.intro | (refine And.intro ?_ ?_))); all_goals first | exact off1_mem hO _ (by k_mem) | exact Nat.ne_of_gt bA | exact Nat.ne_of_gt (Nat.lt_trans bA cA) | exact Nat.ne_of_gt (Nat.lt_trans bA (Nat.lt_trans cA dA)) | exact Nat.ne_of_gt (Nat.lt_trans bA (Nat.lt_trans cA (Nat.lt_trans dA eA))) | (refine' Ne.symm (off1_mem ?oz (p, prow q0 q1 q2 q3 4) ?mm); (case oz => assumption); (case mm => k_mem)))
--END
--END
--STAGE luse 4
    · rintro ⟨g0, g1⟩
      refine' g1 _ 2 _ S (onesOf S lA) (onesOf S lB) (by decide) (fun m n h => g1 [] 1 _ _ _ _ (by decide) (fun m n h => g0 m n _ _ _ (plain3 S) h) m n (plain2 S lA) (plain2 S lB) h) _ _ (plain1 S lA) (plain1 S lB) ⟨_, _, _, _, _, _, _, _, _, _, _, _, _, _, _, _, _, _, _, _, _, _, _, _, _, _, _, _, _, _, _, hS, hm1, hm2, hm3, rfl, ?oo⟩
      (case oo => exact ⟨hOl.1, hO⟩)
--END
--END
--STAGE use 2
  · rintro ⟨g1, g2, g3⟩
    have g := g1 (g2 g3)
    clear g1 g2 g3
    dsimp only at g
    repeat' (first | ((fail_if_success (with_reducible show RestK _ _ _ _ _ _ _ _ _ _ _ _ _ _ _ 4 _ _ _)); first | (first | (k_unfold; (try dsimp only)) | (k_end; wrow_close) | walk1 | (dsimp only; walk1) | (leave1; walk_say "STEP leave1"; try dsimp only))) | fail "x")
    refine' restKR4 (fun f t u v => irow (f 0) (f 1) (f 2) t u v) (VD (s1.heap.objs.size + 1) _ _ (listOf #[.int d0 _, .int d1 _, .int d2 _, .int d3 _, .int d4 _, .int d5 _, .int d6 _] _)) (lights d0 d1 d2 d3) VD.up ?h03 ?_ ?_
    (case h03 => exact VD.of (by k_mem) (by k_mem))
--STAGE uset 4
    · intro i v ys n' R hV nextR
      obtain ⟨t, rfl, hi, hc, hq⟩ := hV
      obtain ⟨td, hx⟩ := VD.item hq hi
      have hd := dsel_in b0 b1 b2 b3 i
      have hb := i63 hi
      clear hi b0 b1 b2 b3 b4 b5 b6
      unfold TurnK
      clear g
      intro I oI C oC K oK D m₂ h tk E' hNs hdK F N o3' ok ⟨ne1, ne2, ne3, ne4, ne5, ne6⟩
      repeat' (first | (first | (k_unfold; (try dsimp only)) | (k_end; wrow_close) | walk1 | (dsimp only; walk1) | (leave1; walk_say "STEP leave1"; try dsimp only)))
      exact nextR _ _ _ _ (off1_t4 (by assumption))
--END
    intro a0 a1 a2 a3 t00 t01 t02 t10 t11 t12 t20 t21 t22 t30 t31 t32 oa0 oa1 oa2 oa3
    repeat' (first | ((fail_if_success (with_reducible show wpAny _ _ (execs (Stmt.Assign [Expr.Name (Str.ofString "picture") _] _ _ :: _) _) _ _ _)); first | (first | (k_unfold; (try dsimp only)) | (k_end; wrow_close) | walk1 | (dsimp only; walk1) | (leave1; walk_say "STEP leave1"; try dsimp only))) | fail "x")
    refine' g _ _ _ (lights _ _ _ _) _ _ _ (lights_in _ _ _ _) (lv_in _) (lv_in _) (sh_in _) ?uF ⟨_, _, _, _, _, _, _, _, _, _, _, _, _, _, _, _, _, _, _, _, _, _, _, ?um, ?u2, ?u3, ?uN⟩
    (case uF => k_asm)
    (case um => walk_at "mlook2")
    (case u2 => assumption)
    (case u3 => assumption)
    (case uN => exact subN (by k_asm) (by k_subL))
--END
  )

end
end Mine
theorem PySem.Challenge.cw_tr0025_01_holds : PySem.Challenge.rw_tr0025_01.Holds :=
  Mine.the_law
