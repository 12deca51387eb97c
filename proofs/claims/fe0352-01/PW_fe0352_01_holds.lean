import PyProof.Rows.All
import Wide.All
import OpenK.AllK
import Wide.FinOn
import PySem.Challenge.RW_fe0352_01
open PySem PySem.W PyProof.Rows
set_option Elab.async false
namespace Mine
-- LTop
section
set_option maxRecDepth 100000 in
set_option maxHeartbeats 8000000 in
open_top hd for PySem.Challenge.rw_fe0352_01
end
-- LMath
section
/-- the delta of a way to count -/
def jdelta (mode : Int) : Int := if mode = 0 then 2415019 else 2416481
/-- the first number that is too large -/
def tooLarge (mode : Int) : Int := if mode = 0 then 2958466 else 2957004
/-- what xldate_from_date_tuple reckons -/
def days (y m d mode : Int) : Int :=
  (if m ≤ 2 then Int.fdiv (1461 * (y + 4716 - 1)) 4 + Int.fdiv (979 * (m + 9) + 16) 32 + d - 1364 - Int.fdiv (Int.fdiv (y + 4716 - 1 + 184) 100 * 3) 4
   else Int.fdiv (1461 * (y + 4716)) 4 + Int.fdiv (979 * (m - 3) + 16) 32 + d - 1364 - Int.fdiv (Int.fdiv (y + 4716 + 184) 100 * 3) 4) - jdelta mode

/-- a date that the law builds, and a way to count -/
structure DateOk (y m d mode : Int) : Prop where
  y0 : 1905 ≤ y
  y1 : y ≤ 9999
  m0 : 1 ≤ m
  m1 : m ≤ 12
  d0 : 1 ≤ d
  d1 : d ≤ 28
  w0 : 0 ≤ mode
  w1 : mode ≤ 1

/-- floor division by a positive number is / -/
theorem fd (a : Int) {b : Int} (h : 0 ≤ b) : Int.fdiv a b = a / b := Int.fdiv_eq_ediv_of_nonneg a h
theorem fm (a : Int) {b : Int} (h : 0 ≤ b) : Int.fmod a b = a % b := Int.fmod_eq_emod_of_nonneg a h

/-- days without fdiv, the year and the month of the year that begins in March -/
theorem days_low {y m d mode : Int} (h : m ≤ 2) : days y m d mode = (1461 * (y + 4715)) / 4 + (979 * (m + 9) + 16) / 32 + d - 1364 - ((y + 4899) / 100 * 3) / 4 - jdelta mode := by
  unfold days
  rw [if_pos h, fd _ (by decide), fd _ (by decide), fd _ (by decide), fd _ (by decide)]
  rw [show y + 4716 - 1 = y + 4715 by omega, show y + 4715 + 184 = y + 4899 by omega]
theorem days_high {y m d mode : Int} (h : ¬ m ≤ 2) : days y m d mode = (1461 * (y + 4716)) / 4 + (979 * (m - 3) + 16) / 32 + d - 1364 - ((y + 4900) / 100 * 3) / 4 - jdelta mode := by
  unfold days
  rw [if_neg h, fd _ (by decide), fd _ (by decide), fd _ (by decide), fd _ (by decide)]
  rw [show y + 4716 + 184 = y + 4900 by omega]
theorem jdelta_cases {mode : Int} (h0 : 0 ≤ mode) (h1 : mode ≤ 1) : jdelta mode = 2415019 + 1462 * mode := by
  unfold jdelta; split <;> omega
theorem tooLarge_cases {mode : Int} (h0 : 0 ≤ mode) (h1 : mode ≤ 1) : tooLarge mode = 2958466 - 1462 * mode := by
  unfold tooLarge; split <;> omega

theorem days_bounds {y m d mode : Int} (hy0 : 1905 ≤ y) (hy1 : y ≤ 9999) (hm0 : 1 ≤ m) (hm1 : m ≤ 12) (hd0 : 0 ≤ d) (hd1 : d ≤ 29) (h0 : 0 ≤ mode) (h1 : mode ≤ 1) :
    61 ≤ days y m d mode ∧ days y m d mode < tooLarge mode := by
  rw [tooLarge_cases h0 h1]
  by_cases h : m ≤ 2
  · rw [days_low h, jdelta_cases h0 h1]; omega
  · rw [days_high h, jdelta_cases h0 h1]; omega

/-- an int that a float holds -/
theorem shift_zero (n : Nat) : Float64.shift n 1 0 = (n, 1) := by simp [Float64.shift]
theorem halfEven_one (n : Nat) : Float64.halfEven n 1 = n := by
  unfold Float64.halfEven
  simp [Nat.mod_one]
set_option maxRecDepth 20000 in
theorem decode_ofInt {i : Int} (h0 : 0 < i) (h1 : i < 2 ^ 52) : ∃ l : Nat, l < 52 ∧ Float64.decode (Float64.ofInt i) = .fin false (i.toNat * 2 ^ (52 - l)) ((l : Int) - 52) := by
  obtain ⟨n, rfl⟩ : ∃ n : Nat, i = (n : Int) := ⟨i.toNat, by omega⟩
  have hn0 : n ≠ 0 := by omega
  have hn1 : n < 2 ^ 52 := by omega
  have hl : n.log2 < 52 := (Nat.log2_lt hn0).mpr hn1
  have hlo : 2 ^ n.log2 ≤ n := Nat.log2_self_le hn0
  have hhi : n < 2 ^ (n.log2 + 1) := Nat.lt_log2_self
  generalize hL : n.log2 = l at hl hlo hhi
  refine ⟨l, hl, ?_⟩
  have e2 : (2 : Nat) ^ 52 = 2 ^ l * 2 ^ (52 - l) := by rw [← Nat.pow_add]; congr 1; omega
  have e3 : (2 : Nat) ^ 53 = 2 ^ (l + 1) * 2 ^ (52 - l) := by rw [← Nat.pow_add]; congr 1; omega
  have hp : 0 < 2 ^ (52 - l) := Nat.two_pow_pos _
  have a1 : 2 ^ 52 ≤ n * 2 ^ (52 - l) := by rw [e2]; exact Nat.mul_le_mul_right _ hlo
  have a2 : n * 2 ^ (52 - l) < 2 ^ 53 := by rw [e3]; exact Nat.mul_lt_mul_of_pos_right hhi hp
  have hr : Float64.roundMag n 1 = (l + 1022) * 2 ^ 52 + n * 2 ^ (52 - l) := by
    unfold Float64.roundMag
    have hb : (n == 0) = false := by simpa using hn0
    have h1l : Nat.log2 1 = 0 := by decide
    rw [hb, hL, h1l]
    simp only [Bool.false_eq_true, if_false]
    have hs : Float64.shift n 1 (-((l : Int) - ((0 : Nat) : Int))) = (if l = 0 then (n, 1) else (n, 2 ^ l)) := by
      unfold Float64.shift
      by_cases z : l = 0
      · subst z; simp
      · rw [if_neg (by omega), if_neg z]
        have : (-(-((l : Int) - ((0 : Nat) : Int)))).toNat = l := by omega
        rw [this, Nat.one_mul]
    rw [hs]
    have hc : ((if l = 0 then (n, 1) else (n, 2 ^ l)) : Nat × Nat).1 ≥ ((if l = 0 then (n, 1) else (n, 2 ^ l)) : Nat × Nat).2 := by
      by_cases z : l = 0
      · subst z; simp; omega
      · rw [if_neg z]; exact hlo
    rw [if_pos hc]
    have he : max ((l : Int) - ((0 : Nat) : Int) - 52) (-1074) = (l : Int) - 52 := by omega
    rw [he]
    have hs2 : Float64.shift n 1 (-((l : Int) - 52)) = (n * 2 ^ (52 - l), 1) := by
      unfold Float64.shift
      rw [if_pos (by omega)]
      have : (-((l : Int) - 52)).toNat = 52 - l := by omega
      rw [this]
    rw [hs2]
    simp only [halfEven_one]
    have h4 : ((l : Int) - 52 + 1074).toNat = l + 1022 := by omega
    rw [h4]
    refine Nat.min_eq_right ?_
    unfold Float64.infMag
    have h9 : (l + 1022) * 2 ^ 52 ≤ 1073 * 2 ^ 52 := Nat.mul_le_mul_right _ (by omega)
    exact Nat.le_trans (Nat.add_le_add h9 (Nat.le_of_lt a2)) (by decide)
  have hx : (Float64.ofInt (n : Int)).toNat = (l + 1022) * 2 ^ 52 + n * 2 ^ (52 - l) := by
    unfold Float64.ofInt Float64.ofFrac Float64.pack
    have hneg : decide ((n : Int) < 0) = false := by simp
    rw [hneg, Int.natAbs_natCast, hr]
    simp only [Bool.false_eq_true, if_false, Nat.zero_add]
    have hlt : (l + 1022) * 2 ^ 52 + n * 2 ^ (52 - l) < 2 ^ 64 := by
      have : (l + 1022) * 2 ^ 52 ≤ 1073 * 2 ^ 52 := Nat.mul_le_mul_right _ (by omega)
      omega
    rw [Nat.toUInt64_eq, UInt64.toNat_ofNat', Nat.mod_eq_of_lt hlt]
  unfold Float64.decode
  rw [hx]
  generalize hM : n * 2 ^ (52 - l) = M at a1 a2
  have q1 : ((l + 1022) * 2 ^ 52 + M) / 2 ^ 63 = 0 := by
    have : (l + 1022) * 2 ^ 52 ≤ 1073 * 2 ^ 52 := Nat.mul_le_mul_right _ (by omega)
    exact Nat.div_eq_of_lt (by omega)
  have q2 : ((l + 1022) * 2 ^ 52 + M) / 2 ^ 52 = l + 1023 := by
    rw [Nat.mul_comm, Nat.mul_add_div (by decide)]
    have : M / 2 ^ 52 = 1 := by omega
    omega
  have q3 : ((l + 1022) * 2 ^ 52 + M) % 2 ^ 52 = M - 2 ^ 52 := by
    rw [Nat.mul_comm, Nat.mul_add_mod]
    omega
  simp only [q1, q2, q3]
  have q4 : (l + 1023) % 2048 = l + 1023 := Nat.mod_eq_of_lt (by omega)
  rw [q4]
  have q5 : (l + 1023 == 2047) = false := by simp; omega
  have q6 : (l + 1023 == 0) = false := by simp
  rw [q5, q6]
  simp only [Bool.false_eq_true, if_false]
  have q7 : 2 ^ 52 + (M - 2 ^ 52) = M := by omega
  rw [q7, Int.toNat_natCast, hM]
  have q8 : ((l + 1023 : Nat) : Int) - 1075 = (l : Int) - 52 := by omega
  rw [q8]
  rfl

theorem trunc_ofInt {i : Int} (h0 : 0 < i) (h1 : i < 2 ^ 52) : ∃ (m : Nat) (e : Int), Float64.decode (Float64.ofInt i) = .fin false m e ∧ Float64.truncOf false m e = i := by
  obtain ⟨l, hl, hd⟩ := decode_ofInt h0 h1
  refine ⟨_, _, hd, ?_⟩
  unfold Float64.truncOf Float64.floorOf Float64.sgn
  rw [if_neg Bool.false_ne_true, if_neg (by omega), if_neg Bool.false_ne_true]
  have e1 : (-((l : Int) - 52)).toNat = 52 - l := by omega
  rw [e1]
  have hp : (0 : Int) < 2 ^ (52 - l) := Int.pow_pos (by decide)
  have hc : ((i.toNat * 2 ^ (52 - l) : Nat) : Int) = (i.toNat : Int) * 2 ^ (52 - l) := by rw [Int.natCast_mul, Int.natCast_pow]; rfl
  rw [Int.fdiv_eq_ediv_of_nonneg _ (Int.le_of_lt hp), hc, Int.mul_ediv_cancel _ (by omega)]
  omega
end
-- LFrom
section
section
variable {prog : Program} {w : World} {A : Around} {E : Value → Shared → Prop} {s : Shared} {h₀ : Heap} {L : Addr} {m : Str → Option Value} {Q : Value → Shared → Prop} {value slice : PySem.Expr} {k : Int} {u : Tok}
theorem dim_item (F : Fr h₀ L s.heap m) (X₀ : (hd.heap_39 w.params).In h₀) (h0 : 1 ≤ k) (h1 : k ≤ 12) (h : ∀ n t, 28 ≤ n → n ≤ 31 → Q (.int n t) s)
    (hs : subscripted slice false (.ref 104) (.int k u) = operate [.ref 104, .int k u] (getItem (.ref 104) (.int k u))) :
    wpAny (model prog w) A (subscriptTail value slice (.ref 104) (.int k u)) Q E s := by
  have hc : k = 1 ∨ k = 2 ∨ k = 3 ∨ k = 4 ∨ k = 5 ∨ k = 6 ∨ k = 7 ∨ k = 8 ∨ k = 9 ∨ k = 10 ∨ k = 11 ∨ k = 12 := by omega
  rcases hc with rfl | rfl | rfl | rfl | rfl | rfl | rfl | rfl | rfl | rfl | rfl | rfl <;>
    exact topTup_K F X₀ rfl (by decide) (by decide) rfl rfl (h _ _ (by decide) (by decide)) hs
theorem delta_item (F : Fr h₀ L s.heap m) (X₀ : (hd.heap_39 w.params).In h₀) (h0 : 0 ≤ k) (h1 : k ≤ 1) (h : ∀ t, Q (.int (jdelta k) t) s)
    (hs : subscripted slice false (.ref 15) (.int k u) = operate [.ref 15, .int k u] (getItem (.ref 15) (.int k u))) :
    wpAny (model prog w) A (subscriptTail value slice (.ref 15) (.int k u)) Q E s := by
  have hc : k = 0 ∨ k = 1 := by omega
  rcases hc with rfl | rfl <;>
    exact topTup_K F X₀ rfl (by decide) (by decide) rfl rfl (h _) hs
theorem large_item (F : Fr h₀ L s.heap m) (X₀ : (hd.heap_39 w.params).In h₀) (h0 : 0 ≤ k) (h1 : k ≤ 1) (h : ∀ t, Q (.int (tooLarge k) t) s)
    (hs : subscripted slice false (.ref 16) (.int k u) = operate [.ref 16, .int k u] (getItem (.ref 16) (.int k u))) :
    wpAny (model prog w) A (subscriptTail value slice (.ref 16) (.int k u)) Q E s := by
  have hc : k = 0 ∨ k = 1 := by omega
  rcases hc with rfl | rfl <;>
    exact topTup_K F X₀ rfl (by decide) (by decide) rfl rfl (h _) hs
end

def FromTells (prog : Program) (w : World) (K : Frag) (p : Program) (loose : List Str) (mean : ExcName → Option Value) (mg mb : Str → Option Value) : Prop :=
  ∀ (dp un : Nat) (gd : Option (List Code)) (cn : Str) (cs : Scope) (a : Addr) (ccd : Value) (cl : List (Str × Addr)) (outer : List Env) (A₀ : Around) (base h₀ : Heap) (L : Addr) (m : Str → Option Value) (news : List (Addr × Obj)) (s : Shared)
    (T : Addr) (y mo d mode : Int) (ty tm td tk : Tok) (n : Nat) (Q E : Value → Shared → Prop),
    Below A₀ base outer h₀ → Fr h₀ L s.heap m → K.In h₀ → News h₀ L s.heap ((T, ({ cls := .type "tuple", data := .seq #[.int y ty, .int mo tm, .int d td] n } : Obj)) :: news) → Top p loose mean mg mb h₀ → cs.kind = .function →
    DateOk y mo d mode → dp + 1 < recursionLimit → un + 8 < cLine →
    (∀ t h' tk', Fr h₀ L h' m → News h₀ L h' ((T, ({ cls := .type "tuple", data := .seq #[.int y ty, .int mo tm, .int d td] n } : Obj)) :: news) → Q (.float (Float64.ofInt (days y mo d mode)) t) { s with heap := h', toks := tk' }) →
    wpAny (model prog w) (ktrTop dp un gd cn cs L a ccd cl outer) (call (.ref 111) [.ref T, .int mode tk]) Q E s

theorem sub_days {prog : Program} {w : World} {A : Around} {E : Value → Shared → Prop} {s : Shared} {Q : Value → Shared → Prop} {x y mo d mode : Int} {t u : Tok}
    (ok : DateOk y mo d mode) (e : x - jdelta mode = days y mo d mode) (h : 61 ≤ days y mo d mode → days y mo d mode < 2958466 → ∀ t tk', Q (.int (days y mo d mode) t) { s with toks := tk' }) :
    wpAny (model prog w) A (binaryOp .Sub (.int x t) (.int (jdelta mode) u)) Q E s := by
  obtain ⟨hy0, hy1, hm0, hm1, hd0, hd1, h0, h1⟩ := ok
  have hb := days_bounds hy0 hy1 hm0 hm1 (by omega : 0 ≤ d) (by omega : d ≤ 29) h0 h1
  rw [tooLarge_cases h0 h1] at hb
  refine sub_int ?_
  rw [e]
  exact h hb.1 (by omega) _ _
theorem float_days {prog : Program} {w : World} {A : Around} {E : Value → Shared → Prop} {s : Shared} {Q : Value → Shared → Prop} {n : Int} {u : Tok} (h0 : 61 ≤ n) (h1 : n < 2958466) (h : ∀ t tk', Q (.float (Float64.ofInt n) t) { s with toks := tk' }) :
    wpAny (model prog w) A (call (.type "float") [.int n u]) Q E s :=
  call_float_int_fits (Nat.lt_of_lt_of_le (show n.natAbs < 2 ^ 32 by omega) (Nat.pow_le_pow_right (by decide) (by decide))) (h _ _)

local macro_rules | `(tactic| walk_at "my dec") => `(tactic| ((try simp only [List.any_cons, List.any_nil, Bool.or_false, Bool.or_eq_true, beq_iff_eq, bne_iff_ne, decide_eq_true_eq, ne_eq, Bool.not_eq_true', decide_eq_false_iff_not, Bool.or_eq_false_iff, beq_eq_false_iff_ne] at *); omega))
local macro_rules | `(tactic| walk_at "ite") => `(tactic| (k_here; first | (refine ite_pos (by walk_at "my dec") ?_) | (refine ite_neg (by walk_at "my dec") ?_)))
local macro_rules | `(tactic| walk_at "subscriptTail") => `(tactic| (k_here; (with_reducible show wpAny _ _ (subscriptTail _ _ (Value.ref 104) (Value.int _ _)) _ _ _); k_dflt (refine' dim_item ?F ?X ?a ?b ?_ ?c; (case F => k_asm); (case X => k_asm); (case a => omega); (case b => omega); (case c => with_unfolding_all rfl)); intro n' t' hn1 hn2))
local macro_rules | `(tactic| walk_at "subscriptTail") => `(tactic| (k_here; (with_reducible show wpAny _ _ (subscriptTail _ _ (Value.ref 15) (Value.int _ _)) _ _ _); k_dflt (refine' delta_item ?F ?X ?a ?b ?_ ?c; (case F => k_asm); (case X => k_asm); (case a => omega); (case b => omega); (case c => with_unfolding_all rfl)); intro t'))
local macro_rules | `(tactic| walk_at "binaryOp Sub int int") => `(tactic| (k_here; (with_reducible show wpAny _ _ (binaryOp _ (Value.int _ _) (Value.int (jdelta _) _)) _ _ _); k_dflt (refine sub_days (by assumption) (by unfold days; first | rw [if_pos (by assumption)] | rw [if_neg (by assumption)]) ?_); intro hb0 hb1 t' tk'))
local macro_rules | `(tactic| walk_at "call type:float") => `(tactic| (k_here; (with_reducible show wpAny _ _ (call _ [Value.int (days _ _ _ _) _]) _ _ _); k_dflt (refine float_days (by assumption) (by assumption) ?_); intro t' tk'))
set_option maxRecDepth 100000 in
set_option maxHeartbeats 4000000 in
theorem from_tells {w : World} {mean : ExcName → Option Value} {mg mb : Str → Option Value} : FromTells PySem.Challenge.rw_fe0352_01.row.prog w (hd.heap_39 w.params) hd.view_39 (looseW hd.view_39 []) mean mg mb := by
  k_fill
  unfold FromTells
  intro dp un gd cn cs a ccd cl outer A₀ base h₀ L m news s T y mo d mode ty tm td tk n Q E B F X N T hk ok hd hu hret
  obtain ⟨hy0, hy1, hm0, hm1, hd0, hd1, ho0, ho1⟩ := id ok
  refine wpAny_call ?_
  k_dflt cell_enter
  k_steps
  all_goals exact hret _ _ _ (by k_asm) (cb_drop (by assumption) (by kcj_all))
end
-- LAs
section
/-- what xldate_as_tuple reckons -/
@[reducible] def yregOf (j : Int) : Int := (Int.fdiv (Int.fdiv (j * 4 + 274277) 146097 * 3) 4 + j + 1363) * 4 + 3
@[reducible] def mpOf (j : Int) : Int := Int.fdiv (Int.fmod (yregOf j) 1461) 4 * 535 + 333
def civY (j : Int) : Int := if Int.fdiv (mpOf j) (2 ^ Int.toNat 14) ≥ 10 then Int.fdiv (yregOf j) 1461 - 4715 else Int.fdiv (yregOf j) 1461 - 4716
def civM (j : Int) : Int := if Int.fdiv (mpOf j) (2 ^ Int.toNat 14) ≥ 10 then Int.fdiv (mpOf j) (2 ^ Int.toNat 14) - 9 else Int.fdiv (mpOf j) (2 ^ Int.toNat 14) + 3
@[reducible] def civD (j : Int) : Int := Int.fdiv (Int.fmod (mpOf j) 16384) 535 + 1

abbrev sixOf (y mo d : Int) (t1 t2 t3 t4 t5 t6 : Tok) (c : Nat) : Obj := { cls := .type "tuple", data := .seq #[.int y t1, .int mo t2, .int d t3, .int 0 t4, .int 0 t5, .int 0 t6] c }

def AsTells (prog : Program) (w : World) (K : Frag) (p : Program) (loose : List Str) (mean : ExcName → Option Value) (mg mb : Str → Option Value) : Prop :=
  ∀ (dp un : Nat) (gd : Option (List Code)) (cn : Str) (cs : Scope) (a : Addr) (ccd : Value) (cl : List (Str × Addr)) (outer : List Env) (A₀ : Around) (base h₀ : Heap) (L : Addr) (m : Str → Option Value) (news : List (Addr × Obj)) (s : Shared)
    (x mode : Int) (tx tk : Tok) (Q E : Value → Shared → Prop),
    Below A₀ base outer h₀ → Fr h₀ L s.heap m → K.In h₀ → News h₀ L s.heap news → Top p loose mean mg mb h₀ → cs.kind = .function →
    61 ≤ x → x < tooLarge mode → 0 ≤ mode → mode ≤ 1 → dp + 1 < recursionLimit → un + 8 < cLine →
    (∀ D t1 t2 t3 t4 t5 t6 c h' tk', Fr h₀ L h' m → News h₀ L h' ((D, sixOf (civY (x + jdelta mode)) (civM (x + jdelta mode)) (civD (x + jdelta mode)) t1 t2 t3 t4 t5 t6 c) :: news) → AllLt D news → Q (.ref D) { s with heap := h', toks := tk' }) →
    wpAny (model prog w) (ktrTop dp un gd cn cs L a ccd cl outer) (call (.ref 96) [.int x tx, .int mode tk]) Q E s

theorem cmp_zero {n : Int} (h : 0 < n) : Float64.cmpInt 0 n = some .lt := by
  have hd : Float64.decode 0 = .fin false 0 (-1074) := by unfold Float64.decode; rfl
  unfold Float64.cmpInt
  rw [hd]
  have hp : (0 : Int) < 2 ^ (-(-1074) : Int).toNat := Int.pow_pos (by decide)
  have hq : (0 : Int) < n * 2 ^ (-(-1074) : Int).toNat := Int.mul_pos h hp
  show some (if (-1074 : Int) ≥ 0 then _ else compare (Float64.sgn false 0) (n * 2 ^ (-(-1074) : Int).toNat)) = _
  rw [if_neg (by decide)]
  generalize n * 2 ^ (-(-1074) : Int).toNat = z at hq
  show some (compareOfLessAndEq (0 : Int) z) = _
  unfold compareOfLessAndEq
  rw [if_pos hq]
section
variable {prog : Program} {w : World} {A : Around} {E : Value → Shared → Prop} {s : Shared} {Q : Value → Shared → Prop} {n : Int} {t u : Tok}
theorem eq_zeroF (h : 61 ≤ n) (hq : Q (.bool false) s) : wpAny (model prog w) A (compareOp .Eq (.int n u) (.float 0 t)) Q E s := eq_if (by rw [cmp_zero (by omega)]; exact hq)
theorem lt_zeroF (h : 61 ≤ n) (hq : Q (.bool false) s) : wpAny (model prog w) A (compareOp .Lt (.int n u) (.float 0 t)) Q E s := lt_if (by rw [cmp_zero (by omega)]; exact hq)
theorem sub_self_int (h : ∀ t tk', Q (.int 0 t) { s with toks := tk' }) : wpAny (model prog w) A (binaryOp .Sub (.int n t) (.int n u)) Q E s := sub_int (by rw [Int.sub_self]; exact h _ _)
theorem mul_zeroF (h : ∀ t tk', Q (.float 0 t) { s with toks := tk' }) : wpAny (model prog w) A (binaryOp .Mult (.int 0 u) (.float 4680673776000565248 t)) Q E s :=
  mul_if_fits (by show (0 : Nat) < 2 ^ 1023; exact Nat.two_pow_pos _) (by rw [show Float64.mul (Float64.ofInt 0) 4680673776000565248 = 0 by decide +kernel]; exact h _ _)
theorem round_zero (hA : A.handled = none) (h : ∀ t tk', Q (.int 0 t) { s with toks := tk' }) : wpAny (model prog w) A (call (.builtin "round") [.float 0 t]) Q E s :=
  PySem.Flt.call_round_float hA (fun q => absurd q (by decide +kernel)) (fun q => absurd q (by decide +kernel)) (fun _ => by rw [show PySem.Flt.toInt Float64.nearestOf 0 = 0 by decide +kernel]; exact h _ _)
end
theorem as_end1 {h₀ h' : Heap} {L D : Addr} {m : Str → Option Value} {news : List (Addr × Obj)} {s : Shared} {Q : Value → Shared → Prop} {j : Int} {t1 t2 t3 t4 t5 t6 : Tok} {c : Nat} {tk' : Nat}
    (hret : ∀ D t1 t2 t3 t4 t5 t6 c h' tk', Fr h₀ L h' m → News h₀ L h' ((D, sixOf (civY j) (civM j) (civD j) t1 t2 t3 t4 t5 t6 c) :: news) → AllLt D news → Q (.ref D) { s with heap := h', toks := tk' })
    (hc : Int.fdiv (mpOf j) (2 ^ Int.toNat 14) ≥ 10) (F : Fr h₀ L h' m) (N : News h₀ L h' ((D, sixOf (Int.fdiv (yregOf j) 1461 - 4715) (Int.fdiv (mpOf j) (2 ^ Int.toNat 14) - 9) (civD j) t1 t2 t3 t4 t5 t6 c) :: news)) (hl : AllLt D news) :
    Q (.ref D) { s with heap := h', toks := tk' } := by
  refine hret D t1 t2 t3 t4 t5 t6 c h' tk' F ?_ hl
  unfold civY civM
  rw [if_pos hc, if_pos hc]
  exact N
theorem as_end2 {h₀ h' : Heap} {L D : Addr} {m : Str → Option Value} {news : List (Addr × Obj)} {s : Shared} {Q : Value → Shared → Prop} {j : Int} {t1 t2 t3 t4 t5 t6 : Tok} {c : Nat} {tk' : Nat}
    (hret : ∀ D t1 t2 t3 t4 t5 t6 c h' tk', Fr h₀ L h' m → News h₀ L h' ((D, sixOf (civY j) (civM j) (civD j) t1 t2 t3 t4 t5 t6 c) :: news) → AllLt D news → Q (.ref D) { s with heap := h', toks := tk' })
    (hc : ¬ Int.fdiv (mpOf j) (2 ^ Int.toNat 14) ≥ 10) (F : Fr h₀ L h' m) (N : News h₀ L h' ((D, sixOf (Int.fdiv (yregOf j) 1461 - 4716) (Int.fdiv (mpOf j) (2 ^ Int.toNat 14) + 3) (civD j) t1 t2 t3 t4 t5 t6 c) :: news)) (hl : AllLt D news) :
    Q (.ref D) { s with heap := h', toks := tk' } := by
  refine hret D t1 t2 t3 t4 t5 t6 c h' tk' F ?_ hl
  unfold civY civM
  rw [if_neg hc, if_neg hc]
  exact N

local macro_rules | `(tactic| walk_at "my dec") => `(tactic| ((try simp only [List.any_cons, List.any_nil, Bool.or_false, Bool.or_eq_true, beq_iff_eq, bne_iff_ne, decide_eq_true_eq, ne_eq, Bool.not_eq_true', decide_eq_false_iff_not, Bool.or_eq_false_iff, beq_eq_false_iff_ne] at *); omega))
local macro_rules | `(tactic| walk_at "ite") => `(tactic| (k_here; first | (refine ite_pos (by walk_at "my dec") ?_) | (refine ite_neg (by walk_at "my dec") ?_)))
local macro_rules | `(tactic| walk_at "subscriptTail") => `(tactic| (k_here; (with_reducible show wpAny _ _ (subscriptTail _ _ (Value.ref 15) (Value.int _ _)) _ _ _); k_dflt (refine' delta_item ?F ?X ?a ?b ?_ ?c; (case F => k_asm); (case X => k_asm); (case a => omega); (case b => omega); (case c => with_unfolding_all rfl)); intro t'))
local macro_rules | `(tactic| walk_at "subscriptTail") => `(tactic| (k_here; (with_reducible show wpAny _ _ (subscriptTail _ _ (Value.ref 16) (Value.int _ _)) _ _ _); k_dflt (refine' large_item ?F ?X ?a ?b ?_ ?c; (case F => k_asm); (case X => k_asm); (case a => omega); (case b => omega); (case c => with_unfolding_all rfl)); intro t'))
local macro_rules | `(tactic| walk_at "compareOp Eq int float") => `(tactic| (k_here; k_dflt (refine eq_zeroF (by assumption) ?_)))
local macro_rules | `(tactic| walk_at "compareOp Lt int float") => `(tactic| (k_here; k_dflt (refine lt_zeroF (by assumption) ?_)))
local macro_rules | `(tactic| walk_at "binaryOp Sub int int") => `(tactic| (k_here; with_reducible (refine sub_self_int ?_); intro t' tk'))
local macro_rules | `(tactic| walk_at "binaryOp Mult int float") => `(tactic| (k_here; k_dflt (refine mul_zeroF ?_); intro t' tk'))
local macro_rules | `(tactic| walk_at "call builtin:round") => `(tactic| (k_here; k_dflt (refine round_zero rfl ?_); intro t' tk'))
set_option maxRecDepth 100000 in
set_option maxHeartbeats 4000000 in
theorem as_tells {w : World} {mean : ExcName → Option Value} {mg mb : Str → Option Value} : AsTells PySem.Challenge.rw_fe0352_01.row.prog w (hd.heap_39 w.params) hd.view_39 (looseW hd.view_39 []) mean mg mb := by
  k_fill
  unfold AsTells
  intro dp un gd cn cs a ccd cl outer A₀ base h₀ L m news s x mode tx tk Q E B F X N T hk hx0 hx1 ho0 ho1 hd hu hret
  refine wpAny_call ?_
  k_dflt cell_enter
  k_steps
  all_goals simp only [show Int.fdiv 0 60 = 0 by decide, show Int.fmod 0 60 = 0 by decide] at *
  · refine' as_end1 hret ?c ?F ?N ?l
    case c => assumption
    case F => k_asm
    case N => exact cb_drop (by assumption) (by kcj_all)
    case l => exact (by assumption : _ ∧ _ ∧ _ ∧ AllLt _ news).2.2.2
  · refine' as_end2 hret ?c ?F ?N ?l
    case c => assumption
    case F => k_asm
    case N => exact cb_drop (by assumption) (by kcj_all)
    case l => exact (by assumption : _ ∧ _ ∧ _ ∧ AllLt _ news).2.2.2
end
-- LUse
section
section
variable {w : World} {mean : ExcName → Option Value} {mg mb : Str → Option Value} {dp un : Nat} {gd : Option (List Code)} {cn : Str} {cs : Scope} {a : Addr} {ccd : Value} {cl : List (Str × Addr)} {outer : List Env} {A₀ : Around} {base h₀ : Heap} {L : Addr} {m : Str → Option Value} {news : List (Addr × Obj)} {s : Shared} {Q E : Value → Shared → Prop}
theorem from_use {T : Addr} {y mo d mode : Int} {ty tm td tk : Tok} {n : Nat}
    (B : Below A₀ base outer h₀) (F : Fr h₀ L s.heap m) (X : (hd.heap_39 w.params).In h₀) (N : News h₀ L s.heap ((T, ({ cls := .type "tuple", data := .seq #[.int y ty, .int mo tm, .int d td] n } : Obj)) :: news)) (Tp : Top hd.view_39 (looseW hd.view_39 []) mean mg mb h₀) (hk : cs.kind = .function)
    (ok : DateOk y mo d mode) (hdp : dp + 1 < recursionLimit) (hu : un + 8 < cLine)
    (ret : 61 ≤ days y mo d mode → days y mo d mode < 2958466 → ∀ t h' tk', Fr h₀ L h' m → News h₀ L h' news → Q (.float (Float64.ofInt (days y mo d mode)) t) { s with heap := h', toks := tk' }) :
    wpAny (model PySem.Challenge.rw_fe0352_01.row.prog w) (ktrTop dp un gd cn cs L a ccd cl outer) (call (.ref 111) [.ref T, .int mode tk]) Q E s := by
  have hb := days_bounds ok.y0 ok.y1 ok.m0 ok.m1 (by have := ok.d0; omega : 0 ≤ d) (by have := ok.d1; omega : d ≤ 29) ok.w0 ok.w1
  rw [tooLarge_cases ok.w0 ok.w1] at hb
  have h0 := ok.w0
  exact from_tells dp un gd cn cs a ccd cl outer A₀ base h₀ L m news s T y mo d mode ty tm td tk n Q E B F X N Tp hk ok hdp hu
    (fun t h' tk' F' N' => ret hb.1 (by omega) t h' tk' F' (cb_drop N' fun p hp => List.mem_cons_of_mem _ hp))
theorem as_use {x y mo d mode : Int} {tx tk : Tok}
    (B : Below A₀ base outer h₀) (F : Fr h₀ L s.heap m) (X : (hd.heap_39 w.params).In h₀) (N : News h₀ L s.heap news) (Tp : Top hd.view_39 (looseW hd.view_39 []) mean mg mb h₀) (hk : cs.kind = .function)
    (hx0 : 61 ≤ x) (hx1 : x < tooLarge mode) (h0 : 0 ≤ mode) (h1 : mode ≤ 1) (hdp : dp + 1 < recursionLimit) (hu : un + 8 < cLine)
    (ey : civY (x + jdelta mode) = y) (em : civM (x + jdelta mode) = mo) (ed : civD (x + jdelta mode) = d)
    (ret : ∀ D t1 t2 t3 t4 t5 t6 c h' tk', Fr h₀ L h' m → News h₀ L h' ((D, sixOf y mo d t1 t2 t3 t4 t5 t6 c) :: news) → AllLt D news → Q (.ref D) { s with heap := h', toks := tk' }) :
    wpAny (model PySem.Challenge.rw_fe0352_01.row.prog w) (ktrTop dp un gd cn cs L a ccd cl outer) (call (.ref 96) [.int x tx, .int mode tk]) Q E s := by
  subst ey; subst em; subst ed
  exact as_tells dp un gd cn cs a ccd cl outer A₀ base h₀ L m news s x mode tx tk Q E B F X N Tp hk hx0 hx1 h0 h1 hdp hu ret
end
section
variable {prog : Program} {w : World} {A : Around} {E : Value → Shared → Prop} {s : Shared} {Q : Value → Shared → Prop} {a b n r : Int} {t u : Tok}
theorem draw (hn : 0 < n) (h : ∀ r t tk', 0 ≤ r → r < n → Q (.int r t) { s with toks := tk' }) : wpAny (model prog w) A (binaryOp .Mod (.int a t) (.int n u)) Q E s :=
  mod_int' (by omega) (by rw [fm a (by omega : 0 ≤ n)]; exact h _ _ _ (Int.emod_nonneg _ (by omega)) (Int.emod_lt_of_pos _ hn))
theorem add_draw (h0 : 0 ≤ r) (h1 : r < n) (h : ∀ z t tk', b ≤ z → z < b + n → Q (.int z t) { s with toks := tk' }) : wpAny (model prog w) A (binaryOp .Add (.int b t) (.int r u)) Q E s :=
  add_int (h _ _ _ (by omega) (by omega))
theorem int_float (h0 : 61 ≤ n) (h1 : n < 2958466) (h : ∀ t tk', Q (.int n t) { s with toks := tk' }) : wpAny (model prog w) A (call (.type "int") [.float (Float64.ofInt n) t]) Q E s := by
  obtain ⟨m, e, hd, hv⟩ := trunc_ofInt (i := n) (by omega) (by omega)
  exact call_int_float hd (by rw [hv]; exact h _ _)
end
end
-- LPlain
section
@[reducible] def anchor (y mode : Int) : Int := Int.fmod (3 + mode + y + Int.fdiv y 4 - Int.fdiv y 100 + Int.fdiv y 400) 7
theorem anchor_eq (y mode : Int) : anchor y mode = (3 + mode + y + y / 4 - y / 100 + y / 400) % 7 := by
  unfold anchor
  rw [fm _ (by decide), fd _ (by decide), fd _ (by decide), fd _ (by decide)]
theorem q400 (y : Int) : y / 400 = y / 100 / 4 := by omega

/-- the days of the whole years ahead of y -/
def yearDays (y : Int) : Int := 365 * y + y / 4 - y / 100 + y / 400
theorem march_core (y : Int) : (1461 * (y + 4716)) / 4 - ((y + 4900) / 100 * 3) / 4 = yearDays y + (1461 * 1179 - 36) := by
  unfold yearDays
  have e1 : (1461 * (y + 4716)) / 4 = 365 * y + y / 4 + 1461 * 1179 := by omega
  have e2 : (y + 4900) / 100 = y / 100 + 49 := by omega
  rw [e1, e2, q400]
  generalize y / 100 = c
  have e3 : (c + 49) * 3 / 4 = c - c / 4 + 36 := by omega
  rw [e3]
  omega
/-- a date from March on, by the year's own count -/
theorem days_march {y m d mode : Int} (h : ¬ m ≤ 2) (h0 : 0 ≤ mode) (h1 : mode ≤ 1) :
    days y m d mode = yearDays y + (979 * (m - 3) + 16) / 32 + d + (1461 * 1179 - 36 - 1364 - 2415019) - 1462 * mode := by
  rw [days_high h, jdelta_cases h0 h1]
  have := march_core y
  omega
theorem days_early {y m d mode : Int} (h : m ≤ 2) (h0 : 0 ≤ mode) (h1 : mode ≤ 1) :
    days y m d mode = yearDays (y - 1) + (979 * (m + 9) + 16) / 32 + d + (1461 * 1179 - 36 - 1364 - 2415019) - 1462 * mode := by
  rw [days_low h, jdelta_cases h0 h1]
  have := march_core (y - 1)
  rw [show y - 1 + 4716 = y + 4715 by omega, show y - 1 + 4900 = y + 4899 by omega] at this
  omega

theorem doomsday {y m d mode : Int} (h : ¬ m ≤ 2) (h0 : 0 ≤ mode) (h1 : mode ≤ 1) (k : Int) (hk : (979 * (m - 3) + 16) / 32 + d = 7 * k) : Int.fmod (days y m d mode) 7 = anchor y mode := by
  rw [days_march h h0 h1, anchor_eq, fm _ (by decide)]
  unfold yearDays
  omega
theorem told_all {y mode : Int} (h0 : 0 ≤ mode) (h1 : mode ≤ 1) : ∀ v ∈ List.map (fun k' => Int.fmod k' 7) [days y 4 4 mode, days y 6 6 mode, days y 8 8 mode, days y 10 10 mode, days y 12 12 mode, days y 5 9 mode, days y 9 5 mode, days y 7 11 mode, days y 11 7 mode, days y 3 1 mode - 1], v = anchor y mode := by
  have q : Int.fmod (days y 3 1 mode - 1) 7 = anchor y mode := by
    rw [days_march (by decide) h0 h1, anchor_eq, fm _ (by decide)]
    unfold yearDays
    omega
  intro v hv
  simp only [List.map_cons, List.map_nil, List.mem_cons, List.not_mem_nil, or_false] at hv
  rcases hv with rfl | rfl | rfl | rfl | rfl | rfl | rfl | rfl | rfl | rfl
  · exact doomsday (by decide) h0 h1 5 (by decide)
  · exact doomsday (by decide) h0 h1 14 (by decide)
  · exact doomsday (by decide) h0 h1 23 (by decide)
  · exact doomsday (by decide) h0 h1 32 (by decide)
  · exact doomsday (by decide) h0 h1 41 (by decide)
  · exact doomsday (by decide) h0 h1 10 (by decide)
  · exact doomsday (by decide) h0 h1 27 (by decide)
  · exact doomsday (by decide) h0 h1 19 (by decide)
  · exact doomsday (by decide) h0 h1 36 (by decide)
  · exact q
end
-- LSets
section
open PySem.Spec
theorem entry_set_ne : entryFor table "set.__ne__" = some Builtin.«frozenset.__ne__» :=
  entryFor_alias (id' := "frozenset.__ne__") (by kernel_rfl) rfl (by decide +kernel) (by kernel_rfl)
theorem sub_set_frozen : isSubtype (.type "set") (.type "frozenset") = pure false := by rw [isSubtype_type]; kernel_rfl

section
variable {prog : Program} {w : World} {A : Around} {E : Value → Shared → Prop} {s : Shared} {a b : Addr} {c : Int}
/-- a set of one int -/
theorem one_int {S : Int → Bool} (h : s.heap.SetOf (intKind prog w) a S 1) (hc : S c = true) : ∃ (o : Obj) (t : SetTable) (ep : Nat) (tk : Tok),
    s.heap.get? a = some o ∧ o.ExactSet ∧ o.data = .set #[((intKind prog w).hash c, .int c tk)] ep t ∧ t.fits 1 = true := by
  obtain ⟨o, es, ep, t, ho, hex, hd, hel, hmem, hb, hf, hn⟩ := h
  obtain ⟨l⟩ := es
  match l, hn with
  | [e], _ =>
    obtain ⟨e', he', hk⟩ := (hmem c).mp hc
    have : e' = e := by simpa using he'
    subst this
    obtain ⟨h', v⟩ := e'
    obtain ⟨⟨k, hk', hh⟩, _⟩ := hel _ (List.mem_singleton.mpr rfl)
    have hkc : c = k := by
      have := KeyKind.is_eq_decide hk' c
      rw [hk] at this
      exact of_decide_eq_true this.symm
    subst hkc
    obtain ⟨tk, rfl⟩ : ∃ tk, v = .int c tk := by
      cases v <;> simp [intKind, Value.isInt] at hk
      exact ⟨_, by rw [hk]⟩
    simp only at hh
    subst hh
    exact ⟨o, t, ep, tk, ho, hex, hd, hf⟩

set_option maxHeartbeats 2000000 in
set_option maxRecDepth 100000 in
theorem ne_one {S S' : Int → Bool} {Q : Value → Shared → Prop} (hu : A.units < cLine) (ha : s.heap.SetOf (intKind prog w) a S 1) (hb : s.heap.SetOf (intKind prog w) b S' 1) (hc : S c = true) (hc' : S' c = true)
    (h : Q (.bool false) s) : wpAny (model prog w) A (compareOp .NotEq (.ref a) (.ref b)) Q E s := by
  show wpAny _ A (richCompare .NotEq _ _) Q E s
  refine wpAny_richCompare_same_room ha.typeIs hb.typeIs F.slot_set_ne ?_ hu
  refine wpAny_call_entry F.slot_set_ne ha.typeIs entry_set_ne ?_ (F.args_set_ne_2 _ _)
  obtain ⟨oa, ta, ea, ka, ga, xa, da, fa⟩ := one_int ha hc
  obtain ⟨ob, tb, eb, kb, gb, xb, db, fb⟩ := one_int hb hc'
  have hTa := ha.typeIs
  have hTb := hb.typeIs
  have hs1 := sub_set_self
  have hs2 := sub_set_frozen
  have hFind : ∀ {A' : Around} {Q' : Option Nat → Shared → Prop}, (∀ r : Option Nat, r.isSome = true → Q' r s) → wpAny (model prog w) A' (setFind b (.int c ka) ((intKind prog w).hash c)) Q' E s :=
    fun h' => wpAny_setFind_of (intKind_is prog w c ka) rfl hb fun r hr => h' r (hr.trans hc')
  obtain ⟨h0, g0, d0, k0, os0⟩ := s
  obtain ⟨cla, dia, daa, sla⟩ := oa
  obtain ⟨clb, dib, dab, slb⟩ := ob
  simp only at da db
  subst da
  subst db
  simp only [SetTable.fits, Bool.and_eq_true, beq_iff_eq, decide_eq_true_eq] at fa fb
  have pa : (ta.place.size != 1) = false := by rw [fa.1]; rfl
  have pb : (tb.place.size != 1) = false := by rw [fb.1]; rfl
  have qa : decide (ta.fill > ta.mask) = false := decide_eq_false (Nat.not_lt.mpr fa.2)
  have qb : decide (tb.fill > tb.mask) = false := decide_eq_false (Nat.not_lt.mpr fb.2)
  have ra : ∀ x : Int × Value, (ta.place.size != (#[x] : Array (Int × Value)).size || decide (ta.fill > ta.mask)) = false := fun x => by rw [qa]; simpa using fa.1
  have rb : ∀ x : Int × Value, (tb.place.size != (#[x] : Array (Int × Value)).size || decide (tb.fill > tb.mask)) = false := fun x => by rw [qb]; simpa using fb.1
  dsimp only at ga gb hTa hTb hFind h
  unfold Builtin.«frozenset.__ne__»
  wp_walk using hFind
  intro r hr
  cases r with
  | none => cases hr
  | some i =>
    wp_walk
    refine ⟨_, rfl, ?_, h⟩
    exact fun q => by cases q
end
end
-- LSetUse
section
open PySem.Spec
/-- the list without what was met before -/
def dedup (ns : List Int) : List Int := ns.foldl step_dedup []
theorem range_getD (ns : List Int) : (List.range ns.length).map (fun i => ns.getD i 0) = ns := by
  apply List.ext_getElem
  · simp
  · intro i h1 h2
    simp at h1
    simp [List.getD_eq_getElem?_getD, List.getElem?_eq_getElem h1]
theorem firstMet_eq (ns : List Int) : firstMet (fun i => ns.getD i 0) ns.length = dedup ns := by
  unfold firstMet dedup
  rw [range_getD]
theorem dedup_same_from {c : Int} : ∀ (ns : List Int), (∀ v ∈ ns, v = c) → ns.foldl step_dedup [c] = [c]
  | [], _ => rfl
  | x :: r, h => by
    rw [List.foldl_cons, h x (.head _)]
    have : step_dedup [c] c = [c] := by simp [step_dedup]
    rw [this]
    exact dedup_same_from r fun v hv => h v (.tail _ hv)
theorem dedup_same {c : Int} {ns : List Int} (hne : ns ≠ []) (h : ∀ v ∈ ns, v = c) : dedup ns = [c] := by
  cases ns with
  | nil => exact absurd rfl hne
  | cons x r =>
    unfold dedup
    rw [List.foldl_cons, h x (.head _)]
    exact dedup_same_from r fun v hv => h v (.tail _ hv)

section
variable {prog : Program} {w : World} {A : Around} {E : Value → Shared → Prop} {s : Shared} {h₀ : Heap} {L : Addr} {m : Str → Option Value} {news : List (Addr × Obj)} {Q : Value → Shared → Prop}
/-- set(a list of ints), the list in the ledger -/
theorem set_K {l : Addr} {items : Array Value} {k : Nat} {ns : List Int} (F : Fr h₀ L s.heap m) (N : News h₀ L s.heap news) (hA : A.handled = none)
    (hm : (l, ({ cls := .type "list", data := .seq items k } : Obj)) ∈ news) (hi : IntsAre items.toList ns) (hb : ns.length + 1 < scanBound)
    (h : ∀ S o h' tk', Fr h₀ L h' m → News h₀ L h' ((S, o) :: news) → o.SetObjOf (intKind prog w) (fun k' => (dedup ns).any (· == k')) (dedup ns).length → (dedup ns).length ≤ ns.length → Q (.ref S) { s with heap := h', toks := tk' }) :
    wpAny (model prog w) A (call (.type "set") [.ref l]) Q E s := by
  have hl : s.heap.IsList l items := ⟨_, (N _ hm).1, rfl, _, rfl⟩
  have hsz : items.size = ns.length := by rw [← Array.length_toList]; exact IntsAre.length hi
  refine PySem.call_set_list (items := items) (ns := ns) hA hl hi (by rw [hsz]; exact hb) fun h' tk hS hk => ?_
  rw [hsz, firstMet_eq] at hS
  have hle : (dedup ns).length ≤ ns.length := by rw [← firstMet_eq]; exact firstMet_length_le _ _
  obtain ⟨o, ho, hso⟩ := hS.objOf
  obtain ⟨oL, _, _, hL, _⟩ := F.ns
  have hLlt : L < s.heap.objs.size := Heap.lt_size hL
  refine h _ o h' tk ⟨F.ns.at' fun o' e => hk L o' hLlt e, fun b o' e => hk b o' (Heap.lt_size (F.keep b o' e)) (F.keep b o' e), F.above⟩ (fun p hp => ?_) hso hle
  rcases List.mem_cons.mp hp with rfl | hp
  · refine ⟨ho, Nat.ne_of_gt hLlt, ?_⟩
    cases hq : h₀.get? s.heap.objs.size with
    | none => rfl
    | some o' => exact absurd (Heap.lt_size (F.keep _ _ hq)) (Nat.lt_irrefl _)
  · exact ⟨hk _ _ (Heap.lt_size (N p hp).1) (N p hp).1, (N p hp).2.1, (N p hp).2.2⟩
/-- a set of one int -/
def OneSet (prog : Program) (w : World) (o : Obj) (c : Int) : Prop := ∃ S : Int → Bool, o.SetObjOf (intKind prog w) S 1 ∧ S c = true
theorem set_one {l : Addr} {items : Array Value} {k : Nat} {ns : List Int} (c : Int) (F : Fr h₀ L s.heap m) (N : News h₀ L s.heap news) (hA : A.handled = none)
    (hm : (l, ({ cls := .type "list", data := .seq items k } : Obj)) ∈ news) (hi : IntsAre items.toList ns) (hb : ns.length + 1 < scanBound) (hne : ns ≠ []) (hc : ∀ v ∈ ns, v = c)
    (h : ∀ S o h' tk', Fr h₀ L h' m → News h₀ L h' ((S, o) :: news) → OneSet prog w o c → Q (.ref S) { s with heap := h', toks := tk' }) :
    wpAny (model prog w) A (call (.type "set") [.ref l]) Q E s := by
  refine set_K F N hA hm hi hb fun S o h' tk' F' N' hS _ => h S o h' tk' F' N' ?_
  rw [dedup_same hne hc] at hS
  exact ⟨_, hS, by simp⟩
theorem set_told {l : Addr} {items : Array Value} {k : Nat} {y mode : Int} (F : Fr h₀ L s.heap m) (N : News h₀ L s.heap news) (hA : A.handled = none)
    (hm : (l, ({ cls := .type "list", data := .seq items k } : Obj)) ∈ news)
    (hi : IntsAre items.toList (List.map (fun k' => Int.fmod k' 7) [days y 4 4 mode, days y 6 6 mode, days y 8 8 mode, days y 10 10 mode, days y 12 12 mode, days y 5 9 mode, days y 9 5 mode, days y 7 11 mode, days y 11 7 mode, days y 3 1 mode - 1]))
    (h0 : 0 ≤ mode) (h1 : mode ≤ 1)
    (h : ∀ S o h' tk', Fr h₀ L h' m → News h₀ L h' ((S, o) :: news) → OneSet prog w o (anchor y mode) → Q (.ref S) { s with heap := h', toks := tk' }) :
    wpAny (model prog w) A (call (.type "set") [.ref l]) Q E s :=
  set_one _ F N hA hm hi (by unfold scanBound; simp) (by simp) (told_all h0 h1) h
theorem set_anchor {l : Addr} {k : Nat} {y mode : Int} {t : Tok} (F : Fr h₀ L s.heap m) (N : News h₀ L s.heap news) (hA : A.handled = none)
    (hm : (l, ({ cls := .type "list", data := .seq #[.int (anchor y mode) t] k } : Obj)) ∈ news)
    (h : ∀ S o h' tk', Fr h₀ L h' m → News h₀ L h' ((S, o) :: news) → OneSet prog w o (anchor y mode) → Q (.ref S) { s with heap := h', toks := tk' }) :
    wpAny (model prog w) A (call (.type "set") [.ref l]) Q E s :=
  set_one (ns := [anchor y mode]) _ F N hA hm (.cons _ _ .nil) (by unfold scanBound; simp) (by simp) (by simp) h
theorem ne_sets {a b : Addr} {oa ob : Obj} {c : Int} (N : News h₀ L s.heap news) (hu : A.units < cLine) (ma : (a, oa) ∈ news) (mb : (b, ob) ∈ news) (ha : OneSet prog w oa c) (hb : OneSet prog w ob c) (h : Q (.bool false) s) :
    wpAny (model prog w) A (compareOp .NotEq (.ref a) (.ref b)) Q E s := by
  obtain ⟨Sa, ha, ca⟩ := ha
  obtain ⟨Sb, hb, cb⟩ := hb
  exact ne_one hu (ha.setOf (N _ ma).1 (by unfold scanBound; decide)) (hb.setOf (N _ mb).1 (by unfold scanBound; decide)) ca cb h
/-- len(set(a list of ints)) -/
theorem len_set {a : Addr} {o : Obj} {S : Int → Bool} {n : Nat} (N : News h₀ L s.heap news) (ma : (a, o) ∈ news) (hS : o.SetObjOf (intKind prog w) S n) (hn : n < 4000) (h : ∀ t tk', Q (.int n t) { s with toks := tk' }) :
    wpAny (model prog w) A (call (.builtin "len") [.ref a]) Q E s := by
  obtain ⟨o', es, ep, t, ho, hex, hd, _, _, _, hf, he⟩ := hS.setOf (N _ ma).1 (by unfold scanBound; omega)
  subst he
  exact call_len_set ho hex hd hf (by omega) (h _ _)
end
end
-- LCiv
section
theorem yreg_eq (j : Int) : yregOf j = ((j * 4 + 274277) / 146097 * 3 / 4 + j + 1363) * 4 + 3 := by
  unfold yregOf
  rw [fd _ (by decide), fd _ (by decide)]
/-- the day t (0 up) of the year Y that begins in March -/
theorem yreg_of {Y t : Int} (h0 : 0 ≤ t) (h1 : t ≤ 365) (hl : t = 365 → yearDays (Y + 1) - yearDays Y = 366) :
    yregOf (yearDays Y + t + 1721120) = 1461 * (Y + 4716) + (4 * t + 3 - Y % 4) ∧ (t = 365 → Y % 4 = 3) := by
  have hc : ∃ c r : Int, Y = 100 * c + r ∧ 0 ≤ r ∧ r ≤ 99 ∧ Y / 100 = c := ⟨Y / 100, Y % 100, by omega, by omega, by omega, rfl⟩
  obtain ⟨c, r, hY, r0, r1, hq⟩ := hc
  have d4 : Y / 4 = 25 * c + r / 4 := by omega
  have d400 : Y / 400 = c / 4 := by rw [q400, hq]
  have hy : yearDays Y = 36524 * c + c / 4 + 365 * r + r / 4 := by unfold yearDays; rw [d400, hq, d4, hY]; omega
  have hm : Y % 4 = r % 4 := by omega
  have leapf : t = 365 → r % 4 = 3 ∧ (r = 99 → c % 4 = 3) := by
    intro e
    have h := hl e
    rw [hy] at h
    unfold yearDays at h
    have e4 : (Y + 1) / 4 = 25 * c + (r + 1) / 4 := by omega
    have e400 : (Y + 1) / 400 = (Y + 1) / 100 / 4 := q400 _
    rw [e400, e4] at h
    by_cases hr : r = 99
    · subst hr
      have e100 : (Y + 1) / 100 = c + 1 := by omega
      rw [e100] at h
      omega
    · have e100 : (Y + 1) / 100 = c := by omega
      rw [e100] at h
      omega
  have key : (((yearDays Y + t + 1721120) * 4 + 274277) / 146097 * 3) / 4 = c - c / 4 + 36 := by
    rw [hy]
    have hR : (36524 * c + c / 4 + 365 * r + r / 4 + t + 1721120) * 4 + 274277 = 146097 * (c + 49) + (4 - c % 4 + 1460 * r + 4 * (r / 4) + 4 * t) := by omega
    rw [hR]
    by_cases hx : t = 365 ∧ r = 99
    · obtain ⟨e1, e2⟩ := hx
      have hcc := (leapf e1).2 e2
      subst e1; subst e2
      have hD : (146097 * (c + 49) + (4 - c % 4 + 1460 * 99 + 4 * (99 / 4) + 4 * 365)) / 146097 = c + 50 := by omega
      rw [hD]
      omega
    · have hr4 : 4 * (r / 4) ≤ 96 := by clear hR hy hl leapf d4 d400 hq hY hm; omega
      have hr0 : 0 ≤ r / 4 := by clear hR hy hl leapf d4 d400 hq hY hm; omega
      have hc4 : 0 ≤ c % 4 := by clear hR hy hl leapf d4 d400 hq hY hm; omega
      have hb : 4 - c % 4 + 1460 * r + 4 * (r / 4) + 4 * t < 146097 := by
        by_cases ht : t = 365
        · have : r ≠ 99 := fun q => hx ⟨ht, q⟩
          clear hR hy hl leapf d4 d400 hq hY hm
          generalize r / 4 = r4 at *
          generalize c % 4 = c4 at *
          omega
        · clear hR hy hl leapf d4 d400 hq hY hm
          generalize r / 4 = r4 at *
          generalize c % 4 = c4 at *
          omega
      have hb0 : 0 ≤ 4 - c % 4 + 1460 * r + 4 * (r / 4) + 4 * t := by clear hR hy hl leapf d4 d400 hq hY hm; omega
      generalize 4 - c % 4 + 1460 * r + 4 * (r / 4) + 4 * t = R at hb hb0
      have hD : (146097 * (c + 49) + R) / 146097 = c + 49 := by omega
      rw [hD]
      omega
  refine ⟨?_, fun e => by rw [hm]; exact (leapf e).1⟩
  rw [yreg_eq, key, hy, hm, hY]
  omega

theorem yreg_parts {Y t : Int} (h0 : 0 ≤ t) (h1 : t ≤ 365) (hl : t = 365 → yearDays (Y + 1) - yearDays Y = 366) :
    Int.fdiv (yregOf (yearDays Y + t + 1721120)) 1461 = Y + 4716 ∧ mpOf (yearDays Y + t + 1721120) = t * 535 + 333 := by
  obtain ⟨e, h3⟩ := yreg_of h0 h1 hl
  unfold mpOf
  rw [e, fd _ (by decide), fd _ (by decide), fm _ (by decide)]
  have hb : 4 * t + 3 - Y % 4 < 1461 := by
    by_cases ht : t = 365
    · have := h3 ht; omega
    · omega
  have hb0 : 0 ≤ 4 * t + 3 - Y % 4 := by omega
  have hz : (4 * t + 3 - Y % 4) / 4 = t := by omega
  generalize hR : 4 * t + 3 - Y % 4 = R at hb hb0 hz
  have e1 : (1461 * (Y + 4716) + R) / 1461 = Y + 4716 := by omega
  have e2 : (1461 * (Y + 4716) + R) % 1461 = R := by omega
  rw [e1, e2, hz]
  exact ⟨rfl, rfl⟩
theorem pow14 : ((2 : Int) ^ Int.toNat 14) = 16384 := by decide
/-- what is told of the day t of the year Y that begins in March, Mp months on -/
theorem civ_of {Y t Mp d : Int} (h0 : 0 ≤ t) (h1 : t ≤ 365) (hl : t = 365 → yearDays (Y + 1) - yearDays Y = 366) (q1 : (t * 535 + 333) / 16384 = Mp) (q2 : (t * 535 + 333) % 16384 / 535 + 1 = d) :
    civY (yearDays Y + t + 1721120) = (if 10 ≤ Mp then Y + 1 else Y) ∧ civM (yearDays Y + t + 1721120) = (if 10 ≤ Mp then Mp - 9 else Mp + 3) ∧ civD (yearDays Y + t + 1721120) = d := by
  obtain ⟨e1, e2⟩ := yreg_parts h0 h1 hl
  have m1 : Int.fdiv (mpOf (yearDays Y + t + 1721120)) (2 ^ Int.toNat 14) = Mp := by rw [e2, pow14, fd _ (by decide), q1]
  have m2 : Int.fdiv (Int.fmod (mpOf (yearDays Y + t + 1721120)) 16384) 535 + 1 = d := by rw [e2, fd _ (by decide), fm _ (by decide), q2]
  refine ⟨?_, ?_, m2⟩
  · unfold civY
    rw [m1, e1]
    by_cases hM : 10 ≤ Mp
    · rw [if_pos hM, if_pos hM]; omega
    · rw [if_neg hM, if_neg hM]; omega
  · unfold civM
    rw [m1]
theorem civ_days {y m d mode : Int} (hm0 : 1 ≤ m) (hm1 : m ≤ 12) (hd0 : 1 ≤ d) (hd1 : d ≤ 28) (h0 : 0 ≤ mode) (h1 : mode ≤ 1) :
    civY (days y m d mode + jdelta mode) = y ∧ civM (days y m d mode + jdelta mode) = m ∧ civD (days y m d mode + jdelta mode) = d := by
  by_cases h : m ≤ 2
  · have e : days y m d mode + jdelta mode = yearDays (y - 1) + ((979 * (m + 9) + 16) / 32 + d - 1) + 1721120 := by rw [days_early h h0 h1, jdelta_cases h0 h1]; omega
    rw [e]
    have hc : m = 1 ∨ m = 2 := by omega
    have := civ_of (Y := y - 1) (t := (979 * (m + 9) + 16) / 32 + d - 1) (Mp := m + 9) (d := d) (by omega) (by omega) (by omega) (by rcases hc with rfl | rfl <;> omega) (by rcases hc with rfl | rfl <;> omega)
    rw [if_pos (by omega), if_pos (by omega)] at this
    refine ⟨by rw [this.1]; omega, by rw [this.2.1]; omega, this.2.2⟩
  · have e : days y m d mode + jdelta mode = yearDays y + ((979 * (m - 3) + 16) / 32 + d - 1) + 1721120 := by rw [days_march h h0 h1, jdelta_cases h0 h1]; omega
    rw [e]
    have hc : m = 3 ∨ m = 4 ∨ m = 5 ∨ m = 6 ∨ m = 7 ∨ m = 8 ∨ m = 9 ∨ m = 10 ∨ m = 11 ∨ m = 12 := by omega
    have := civ_of (Y := y) (t := (979 * (m - 3) + 16) / 32 + d - 1) (Mp := m - 3) (d := d) (by omega) (by omega) (by omega) (by rcases hc with rfl | rfl | rfl | rfl | rfl | rfl | rfl | rfl | rfl | rfl <;> omega) (by rcases hc with rfl | rfl | rfl | rfl | rfl | rfl | rfl | rfl | rfl | rfl <;> omega)
    rw [if_neg (by omega), if_neg (by omega)] at this
    refine ⟨this.1, by rw [this.2.1]; omega, this.2.2⟩

/-- the year's last day of February -/
def febLast (y : Int) : Int := if y % 4 = 0 ∧ (0 < y % 100 ∨ y % 400 = 0) then 29 else 28
theorem year_len (y : Int) : yearDays y - yearDays (y - 1) = 365 + (febLast y - 28) := by
  unfold yearDays febLast
  have a1 : y / 400 = y / 100 / 4 := q400 y
  have a2 : (y - 1) / 400 = (y - 1) / 100 / 4 := q400 _
  have b1 : y / 4 - (y - 1) / 4 = if y % 4 = 0 then 1 else 0 := by split <;> omega
  have b2 : y / 100 - (y - 1) / 100 = if y % 100 = 0 then 1 else 0 := by split <;> omega
  have b3 : y / 400 - (y - 1) / 400 = if y % 400 = 0 then 1 else 0 := by split <;> omega
  by_cases p4 : y % 4 = 0
  · by_cases p100 : y % 100 = 0
    · by_cases p400 : y % 400 = 0
      · rw [if_pos p4] at b1; rw [if_pos p100] at b2; rw [if_pos p400] at b3
        rw [if_pos ⟨p4, .inr p400⟩]; omega
      · rw [if_pos p4] at b1; rw [if_pos p100] at b2; rw [if_neg p400] at b3
        rw [if_neg (by omega)]; omega
    · have p400 : ¬ y % 400 = 0 := by omega
      rw [if_pos p4] at b1; rw [if_neg p100] at b2; rw [if_neg p400] at b3
      rw [if_pos ⟨p4, .inl (by omega)⟩]; omega
  · have p100 : ¬ y % 100 = 0 := by omega
    have p400 : ¬ y % 400 = 0 := by omega
    rw [if_neg p4] at b1; rw [if_neg p100] at b2; rw [if_neg p400] at b3
    rw [if_neg (by omega)]; omega
theorem febLast_cases (y : Int) : febLast y = 28 ∨ febLast y = 29 := by unfold febLast; split <;> omega
theorem civ_feb {y mode : Int} (h0 : 0 ≤ mode) (h1 : mode ≤ 1) :
    civY (days y 3 1 mode - 1 + jdelta mode) = y ∧ civM (days y 3 1 mode - 1 + jdelta mode) = 2 ∧ civD (days y 3 1 mode - 1 + jdelta mode) = febLast y := by
  have hl := year_len y
  have hf := febLast_cases y
  have e : days y 3 1 mode - 1 + jdelta mode = yearDays (y - 1) + (febLast y + 336) + 1721120 := by rw [days_march (by decide) h0 h1, jdelta_cases h0 h1]; omega
  rw [e]
  have := civ_of (Y := y - 1) (t := febLast y + 336) (Mp := 11) (d := febLast y) (by omega) (by omega) (by intro q; rw [show y - 1 + 1 = y by omega]; omega) (by rcases hf with q | q <;> rw [q] <;> decide) (by rcases hf with q | q <;> rw [q] <;> decide)
  rw [if_pos (by decide), if_pos (by decide)] at this
  refine ⟨by rw [this.1]; omega, this.2.1, this.2.2⟩
end
-- LUse2
section
theorem feb_bounds {y mode : Int} (hy0 : 1905 ≤ y) (hy1 : y ≤ 9999) (h0 : 0 ≤ mode) (h1 : mode ≤ 1) : 61 ≤ days y 3 1 mode - 1 ∧ days y 3 1 mode - 1 < tooLarge mode := by
  have h := days_bounds (m := 3) (d := 0) hy0 hy1 (by decide) (by decide) (by decide) (by decide) h0 h1
  have e : days y 3 1 mode - 1 = days y 3 0 mode := by
    rw [days_march (by decide) h0 h1, days_march (by decide) h0 h1]; omega
  rw [e]; exact h
section
variable {w : World} {mean : ExcName → Option Value} {mg mb : Str → Option Value} {dp un : Nat} {gd : Option (List Code)} {cn : Str} {cs : Scope} {a : Addr} {ccd : Value} {cl : List (Str × Addr)} {outer : List Env} {A₀ : Around} {base h₀ : Heap} {L : Addr} {m : Str → Option Value} {news : List (Addr × Obj)} {s : Shared} {Q E : Value → Shared → Prop}
theorem as_feb {y mode : Int} {tx tk : Tok}
    (B : Below A₀ base outer h₀) (F : Fr h₀ L s.heap m) (X : (hd.heap_39 w.params).In h₀) (N : News h₀ L s.heap news) (Tp : Top hd.view_39 (looseW hd.view_39 []) mean mg mb h₀) (hk : cs.kind = .function)
    (hy0 : 1905 ≤ y) (hy1 : y ≤ 9999) (h0 : 0 ≤ mode) (h1 : mode ≤ 1) (hdp : dp + 1 < recursionLimit) (hu : un + 8 < cLine)
    (ret : ∀ D t1 t2 t3 t4 t5 t6 c h' tk', Fr h₀ L h' m → News h₀ L h' ((D, sixOf y 2 (febLast y) t1 t2 t3 t4 t5 t6 c) :: news) → AllLt D news → Q (.ref D) { s with heap := h', toks := tk' }) :
    wpAny (model PySem.Challenge.rw_fe0352_01.row.prog w) (ktrTop dp un gd cn cs L a ccd cl outer) (call (.ref 96) [.int (days y 3 1 mode - 1) tx, .int mode tk]) Q E s :=
  have hb := feb_bounds hy0 hy1 h0 h1
  have hc := civ_feb (y := y) h0 h1
  as_use B F X N Tp hk hb.1 hb.2 h0 h1 hdp hu hc.1 hc.2.1 hc.2.2 ret
theorem as_date {y mo d mode : Int} {tx tk : Tok}
    (B : Below A₀ base outer h₀) (F : Fr h₀ L s.heap m) (X : (hd.heap_39 w.params).In h₀) (N : News h₀ L s.heap news) (Tp : Top hd.view_39 (looseW hd.view_39 []) mean mg mb h₀) (hk : cs.kind = .function)
    (ok : DateOk y mo d mode) (hdp : dp + 1 < recursionLimit) (hu : un + 8 < cLine)
    (ret : ∀ D t1 t2 t3 t4 t5 t6 c h' tk', Fr h₀ L h' m → News h₀ L h' ((D, sixOf y mo d t1 t2 t3 t4 t5 t6 c) :: news) → AllLt D news → Q (.ref D) { s with heap := h', toks := tk' }) :
    wpAny (model PySem.Challenge.rw_fe0352_01.row.prog w) (ktrTop dp un gd cn cs L a ccd cl outer) (call (.ref 96) [.int (days y mo d mode) tx, .int mode tk]) Q E s :=
  have hb := days_bounds ok.y0 ok.y1 ok.m0 ok.m1 (by have := ok.d0; omega : 0 ≤ d) (by have := ok.d1; omega : d ≤ 29) ok.w0 ok.w1
  have hc := civ_days ok.m0 ok.m1 ok.d0 ok.d1 ok.w0 ok.w1
  as_use B F X N Tp hk hb.1 hb.2 ok.w0 ok.w1 hdp hu hc.1 hc.2.1 hc.2.2 ret
end
theorem feb_29a {y : Int} (h4 : Int.fmod y 4 = 0) (h1 : 0 < Int.fmod y 100) : febLast y = 29 := by
  rw [fm _ (by decide)] at h4 h1
  unfold febLast
  rw [if_pos ⟨h4, .inl h1⟩]
theorem feb_29b {y : Int} (h4 : Int.fmod y 4 = 0) (h1 : Int.fmod y 400 = 0) : febLast y = 29 := by
  rw [fm _ (by decide)] at h4 h1
  unfold febLast
  rw [if_pos ⟨h4, .inr h1⟩]
theorem feb_28a {y : Int} (h1 : ¬ 0 < Int.fmod y 100) (h2 : Int.fmod y 400 ≠ 0) : febLast y = 28 := by
  rw [fm _ (by decide)] at h1 h2
  unfold febLast
  rw [if_neg (fun q => q.2.elim h1 h2)]
theorem feb_28b {y : Int} (h4 : Int.fmod y 4 ≠ 0) : febLast y = 28 := by
  rw [fm _ (by decide)] at h4
  unfold febLast
  rw [if_neg (fun q => h4 q.1)]
section
variable {prog : Program} {w : World} {A : Around} {E : Value → Shared → Prop} {s : Shared} {h₀ : Heap} {L : Addr} {news : List (Addr × Obj)} {Q : Value → Shared → Prop}
theorem reads_six {h : Heap} {D : Addr} {y mo d : Int} {t1 t2 t3 t4 t5 t6 : Tok} {c : Nat} (ho : h.get? D = some (sixOf y mo d t1 t2 t3 t4 t5 t6 c)) : Reads h (.ref D) (.tuple [.int y, .int mo, .int d, .int 0, .int 0, .int 0]) [] :=
  reads_tuple_at ho rfl rfl (.cons (.int _ _) (.cons (.int _ _) (.cons (.int _ _) (.cons (.int _ _) (.cons (.int _ _) (.cons (.int _ _) .nil))))))
theorem ne_six {a b : Addr} {y mo d y' mo' d' : Int} {t1 t2 t3 t4 t5 t6 u1 u2 u3 u4 u5 u6 : Tok} {c c' : Nat} (N : News h₀ L s.heap news) (ma : (a, sixOf y mo d t1 t2 t3 t4 t5 t6 c) ∈ news) (mb : (b, sixOf y' mo' d' u1 u2 u3 u4 u5 u6 c') ∈ news)
    (ey : y = y') (em : mo = mo') (ed : d = d') (hu : A.units + 64 < cLine) (h : Q (.bool false) s) : wpAny (model prog w) A (compareOp .NotEq (.ref a) (.ref b)) Q E s := by
  subst ey; subst em; subst ed
  refine ne_dataH (reads_six (N _ ma).1) (reads_six (N _ mb).1) rfl rfl hu ?_
  simp only [PyData.eqv, PyData.eqvAll, beq_self_eq_true, Bool.and_self, Bool.not_true]
  exact h
end
theorem add_lit {prog : Program} {w : World} {A : Around} {E : Value → Shared → Prop} {s : Shared} {Q : Value → Shared → Prop} {a b : Int} {t u : Tok} (c : Int) (e : a + b = c) (h : ∀ t tk', Q (.int c t) { s with toks := tk' }) : wpAny (model prog w) A (binaryOp .Add (.int a t) (.int b u)) Q E s := add_int (by rw [e]; exact h _ _)
end
-- LThirteen
section
open PySem.Spec
/-- the days of the week of the thirteenths -/
@[reducible] def thirteenths (y mode : Int) : List Int := [Int.fmod (days y 1 13 mode) 7, Int.fmod (days y 2 13 mode) 7, Int.fmod (days y 3 13 mode) 7, Int.fmod (days y 4 13 mode) 7, Int.fmod (days y 5 13 mode) 7, Int.fmod (days y 6 13 mode) 7, Int.fmod (days y 7 13 mode) 7, Int.fmod (days y 8 13 mode) 7, Int.fmod (days y 9 13 mode) 7, Int.fmod (days y 10 13 mode) 7, Int.fmod (days y 11 13 mode) 7, Int.fmod (days y 12 13 mode) 7]
theorem week_march {y m mode : Int} (h : ¬ m ≤ 2) (h0 : 0 ≤ mode) (h1 : mode ≤ 1) : Int.fmod (days y m 13 mode) 7 = (days y 3 13 mode % 7 + (979 * (m - 3) + 16) / 32) % 7 := by
  rw [fm _ (by decide), days_march h h0 h1, days_march (by decide) h0 h1]
  omega
theorem week_early {y m mode : Int} (h : m ≤ 2) (h0 : 0 ≤ mode) (h1 : mode ≤ 1) : Int.fmod (days y m 13 mode) 7 = (days y 3 13 mode % 7 + (979 * (m + 9) + 16) / 32 - 365 - (febLast y - 28)) % 7 := by
  have hl := year_len y
  rw [fm _ (by decide), days_early h h0 h1, days_march (by decide) h0 h1]
  omega
theorem thirteen {y mode : Int} (h0 : 0 ≤ mode) (h1 : mode ≤ 1) : (dedup (thirteenths y mode)).length = 7 := by
  unfold thirteenths
  rw [week_early (m := 1) (by decide) h0 h1, week_early (m := 2) (by decide) h0 h1, week_march (m := 3) (by decide) h0 h1, week_march (m := 4) (by decide) h0 h1, week_march (m := 5) (by decide) h0 h1, week_march (m := 6) (by decide) h0 h1,
    week_march (m := 7) (by decide) h0 h1, week_march (m := 8) (by decide) h0 h1, week_march (m := 9) (by decide) h0 h1, week_march (m := 10) (by decide) h0 h1, week_march (m := 11) (by decide) h0 h1, week_march (m := 12) (by decide) h0 h1]
  have hb : days y 3 13 mode % 7 = 0 ∨ days y 3 13 mode % 7 = 1 ∨ days y 3 13 mode % 7 = 2 ∨ days y 3 13 mode % 7 = 3 ∨ days y 3 13 mode % 7 = 4 ∨ days y 3 13 mode % 7 = 5 ∨ days y 3 13 mode % 7 = 6 := by omega
  have hf := febLast_cases y
  generalize days y 3 13 mode % 7 = b at hb
  generalize febLast y = f at hf
  rcases hb with rfl | rfl | rfl | rfl | rfl | rfl | rfl <;> rcases hf with rfl | rfl <;> decide +kernel

section
variable {prog : Program} {w : World} {A : Around} {E : Value → Shared → Prop} {s : Shared} {h₀ : Heap} {L : Addr} {m : Str → Option Value} {news : List (Addr × Obj)} {Q : Value → Shared → Prop}
/-- a set of seven ints -/
def SevenSet (prog : Program) (w : World) (o : Obj) : Prop := ∃ S : Int → Bool, o.SetObjOf (intKind prog w) S 7
theorem set_thirteen {l : Addr} {items : Array Value} {k : Nat} {y mode : Int} (F : Fr h₀ L s.heap m) (N : News h₀ L s.heap news) (hA : A.handled = none)
    (hm : (l, ({ cls := .type "list", data := .seq items k } : Obj)) ∈ news) (hi : IntsAre items.toList (thirteenths y mode)) (h0 : 0 ≤ mode) (h1 : mode ≤ 1)
    (h : ∀ S o h' tk', Fr h₀ L h' m → News h₀ L h' ((S, o) :: news) → SevenSet prog w o → Q (.ref S) { s with heap := h', toks := tk' }) :
    wpAny (model prog w) A (call (.type "set") [.ref l]) Q E s := by
  refine set_K F N hA hm hi (by unfold scanBound; simp) fun S o h' tk' F' N' hS _ => h S o h' tk' F' N' ?_
  rw [thirteen h0 h1] at hS
  exact ⟨_, hS⟩
theorem len_seven {a : Addr} {o : Obj} (N : News h₀ L s.heap news) (ma : (a, o) ∈ news) (hS : SevenSet prog w o) (h : ∀ t tk', Q (.int 7 t) { s with toks := tk' }) :
    wpAny (model prog w) A (call (.builtin "len") [.ref a]) Q E s := by
  obtain ⟨S, hS⟩ := hS
  exact len_set N ma hS (by decide) h
end
end
-- LUse3
section
theorem year_400 (y : Int) : yearDays (y + 400) = yearDays y + 146097 := by unfold yearDays; omega
theorem days_400 {y m d mode : Int} (h0 : 0 ≤ mode) (h1 : mode ≤ 1) : days (y + 400) m d mode - days y m d mode = 146097 := by
  by_cases h : m ≤ 2
  · rw [days_early h h0 h1, days_early h h0 h1, show y + 400 - 1 = y - 1 + 400 by omega, year_400]; omega
  · rw [days_march h h0 h1, days_march h h0 h1, year_400]; omega
theorem year_28 {y : Int} (ha : y % 100 ≤ 71) : yearDays (y + 28) = yearDays y + 10227 := by
  unfold yearDays
  have e1 : (y + 28) / 4 = y / 4 + 7 := by omega
  have e2 : (y + 28) / 100 = y / 100 := by omega
  rw [q400, q400 y, e1, e2]
  omega
theorem days_28 {y m d mode : Int} (h0 : 0 ≤ mode) (h1 : mode ≤ 1) (ha : 1 ≤ y % 100) (hb : y % 100 ≤ 71) : days (y + 28) m d mode - days y m d mode = 10227 := by
  by_cases h : m ≤ 2
  · rw [days_early h h0 h1, days_early h h0 h1, show y + 28 - 1 = y - 1 + 28 by omega, year_28 (by omega)]; omega
  · rw [days_march h h0 h1, days_march h h0 h1, year_28 hb]; omega
section
variable {prog : Program} {w : World} {A : Around} {E : Value → Shared → Prop} {s : Shared} {Q : Value → Shared → Prop} {y m d mode : Int} {t u : Tok}
theorem sub_400 (h0 : 0 ≤ mode) (h1 : mode ≤ 1) (h : ∀ t tk', Q (.int 146097 t) { s with toks := tk' }) : wpAny (model prog w) A (binaryOp .Sub (.int (days (y + 400) m d mode) t) (.int (days y m d mode) u)) Q E s := sub_int (by rw [days_400 h0 h1]; exact h _ _)
theorem sub_28 (h0 : 0 ≤ mode) (h1 : mode ≤ 1) (ha : 1 ≤ y % 100) (hb : y % 100 ≤ 71) (h : ∀ t tk', Q (.int 10227 t) { s with toks := tk' }) : wpAny (model prog w) A (binaryOp .Sub (.int (days (y + 28) m d mode) t) (.int (days y m d mode) u)) Q E s := sub_int (by rw [days_28 h0 h1 ha hb]; exact h _ _)
theorem near_sum (hy0 : 1905 ≤ y) (hy1 : y ≤ 9599) (h : ∀ n t tk', 1901 ≤ n → n ≤ 9571 → 1 ≤ n % 100 → n % 100 ≤ 71 → Q (.int n t) { s with toks := tk' }) :
    wpAny (model prog w) A (binaryOp .Add (.int (y - Int.fmod y 100 + 1) t) (.int (Int.fmod (Int.fmod y 100) 71) u)) Q E s := by
  refine add_int (h _ _ _ ?_ ?_ ?_ ?_) <;> rw [fm _ (by decide), fm _ (by decide)] <;> omega
end
end
-- LLaw
section
/-- the law's def in the text -/
def lawIn : List Stmt × Scope := match PySem.Challenge.rw_fe0352_01.prog.main.body.reverse with
  | .FunctionDef _ _ b _ _ _ sc _ _ _ :: _ => (b, sc)
  | _ => ([], { kind := .module, names := [], isGenerator := false, isCoroutine := false })
set_option maxRecDepth 100000 in
@[reducible] def bodyA : List Stmt := by
  refine Subtype.val (p := fun b => b = lawIn.1.drop 3) ⟨?b, ?h⟩
  case h => with_unfolding_all (conv => rhs; whnf)
set_option maxRecDepth 100000 in
@[reducible] def bodyB : List Stmt := by
  refine Subtype.val (p := fun b => b = lawIn.1.drop 6) ⟨?b, ?h⟩
  case h => with_unfolding_all (conv => rhs; whnf)
set_option maxRecDepth 100000 in
@[reducible] def bodyC : List Stmt := by
  refine Subtype.val (p := fun b => b = lawIn.1.drop 8) ⟨?b, ?h⟩
  case h => with_unfolding_all (conv => rhs; whnf)
set_option maxRecDepth 100000 in
@[reducible] def bodyD : List Stmt := by
  refine Subtype.val (p := fun b => b = lawIn.1.drop 9) ⟨?b, ?h⟩
  case h => with_unfolding_all (conv => rhs; whnf)
set_option maxRecDepth 100000 in
@[reducible] def bodyE : List Stmt := by
  refine Subtype.val (p := fun b => b = lawIn.1.drop 12) ⟨?b, ?h⟩
  case h => with_unfolding_all (conv => rhs; whnf)
set_option maxRecDepth 100000 in
@[reducible] def lawScope : Scope := by
  refine Subtype.val (p := fun b => b = lawIn.2) ⟨?b, ?h⟩
  case h => with_unfolding_all (conv => rhs; whnf)

/-- the law from a statement on: true, whatever the heap, for letters within their bounds -/
def RestFrom (w : World) (body : List Stmt) : Prop :=
  ∀ {mean : ExcName → Option Value} {mg mb : Str → Option Value} {h₀ : Heap} {fa : Addr} {cdv : Value} {L : Addr} {m : Str → Option Value} {s : Shared} {oY oM : Obj} {y mo d mode : Int} {ty tmo td tm : Tok} {Q : Flow → Shared → Prop} {E : Value → Shared → Prop},
    Below callerA h₀ [] h₀ → Fr h₀ L s.heap m → (hd.heap_39 w.params).In h₀ → News h₀ L s.heap [(L + 1 + 1, oM), (L + 1, oY)] →
    Top hd.view_39 (looseW hd.view_39 []) mean mg mb h₀ → oY.data = .cell (some (.int y ty)) → oM.data = .cell (some (.int mode tm)) →
    m (Str.ofString "day") = some (.int d td) → m (Str.ofString "month") = some (.int mo tmo) →
    1905 ≤ y → y ≤ 9599 → 1 ≤ mo → mo ≤ 12 → 1 ≤ d → d ≤ 28 → 0 ≤ mode → mode ≤ 1 →
    (∀ h' tk' m', Fr h₀ L h' m' → News h₀ L h' [] → Q (.ret (.bool true)) { s with heap := h', toks := tk' }) →
    wpAny (model PySem.Challenge.rw_fe0352_01.row.prog w) (callerA.deeper (envOfC (Str.ofString "law") lawScope L fa cdv)) (execs body (envOfC (Str.ofString "law") lawScope L fa cdv)) Q E s
/-- the same, behind the list told -/
def RestTold (w : World) (body : List Stmt) : Prop :=
  ∀ {mean : ExcName → Option Value} {mg mb : Str → Option Value} {h₀ : Heap} {fa : Addr} {cdv : Value} {L : Addr} {m : Str → Option Value} {s : Shared} {oY oM : Obj} {y mo d mode : Int} {ty tmo td tm : Tok} {Q : Flow → Shared → Prop} {E : Value → Shared → Prop}
    {D : Addr} {v0 v1 v2 v3 v4 v5 v6 v7 v8 : Value} {t9 : Tok} {n9 : Nat},
    Below callerA h₀ [] h₀ → Fr h₀ L s.heap m → (hd.heap_39 w.params).In h₀ → News h₀ L s.heap [(D, W.listOf #[v0, v1, v2, v3, v4, v5, v6, v7, v8, .int (days y 3 1 mode - 1) t9] n9), (L + 1 + 1, oM), (L + 1, oY)] →
    Top hd.view_39 (looseW hd.view_39 []) mean mg mb h₀ → oY.data = .cell (some (.int y ty)) → oM.data = .cell (some (.int mode tm)) →
    m (Str.ofString "day") = some (.int d td) → m (Str.ofString "month") = some (.int mo tmo) → m (Str.ofString "told") = some (.ref D) →
    1905 ≤ y → y ≤ 9599 → 1 ≤ mo → mo ≤ 12 → 1 ≤ d → d ≤ 28 → 0 ≤ mode → mode ≤ 1 →
    (∀ h' tk' m', Fr h₀ L h' m' → News h₀ L h' [] → Q (.ret (.bool true)) { s with heap := h', toks := tk' }) →
    wpAny (model PySem.Challenge.rw_fe0352_01.row.prog w) (callerA.deeper (envOfC (Str.ofString "law") lawScope L fa cdv)) (execs body (envOfC (Str.ofString "law") lawScope L fa cdv)) Q E s

theorem fr_two {h₀ h : Heap} {L : Addr} {m : Str → Option Value} {dv mv : Value} (F : Fr h₀ L h m) (hd : m (Str.ofString "day") = some dv) (hm : m (Str.ofString "month") = some mv) :
    Fr h₀ L h (fun z => if z = Str.ofString "day" then some dv else if z = Str.ofString "month" then some mv else m z) := by
  have e : (fun z => if z = Str.ofString "day" then some dv else if z = Str.ofString "month" then some mv else m z) = m := by
    funext z
    split
    · rename_i q; rw [q, hd]
    · split
      · rename_i q; rw [q, hm]
      · rfl
  rw [e]
  exact F
theorem fr_told {h₀ h : Heap} {L : Addr} {m : Str → Option Value} {tv dv mv : Value} (F : Fr h₀ L h m) (hd : m (Str.ofString "day") = some dv) (hm : m (Str.ofString "month") = some mv) (ht : m (Str.ofString "told") = some tv) :
    Fr h₀ L h (fun z => if z = Str.ofString "told" then some tv else if z = Str.ofString "day" then some dv else if z = Str.ofString "month" then some mv else m z) := by
  have e : (fun z => if z = Str.ofString "told" then some tv else if z = Str.ofString "day" then some dv else if z = Str.ofString "month" then some mv else m z) = m := by
    funext z
    split
    · rename_i q; rw [q, ht]
    · split
      · rename_i q; rw [q, hd]
      · split
        · rename_i q; rw [q, hm]
        · rfl
  rw [e]
  exact F
end
-- LRestE
section
-- the calls
local macro_rules | `(tactic| walk_at "call ref") => `(tactic| (k_here; (with_reducible show wpAny _ _ (call (Value.ref 111) [Value.ref _, Value.int _ _]) _ _ _); k_dflt (refine' from_use ?k1 ?k2 ?k3 ?k4 ?k5 ?kK ?ko ?kd ?ku ?_; (case k1 => k_asm); (case k2 => k_asm); (case k3 => k_asm); (case k4 => k_asm); (case k5 => k_asm); (case kK => first | exact rfl | assumption); (case ko => constructor <;> omega); (case kd => ktr_room); (case ku => ktr_units)); intro hb0 hb1 t9 h9 tk9 F9 N9; (try dsimp only)))
local macro_rules | `(tactic| walk_at "call type:int") => `(tactic| (k_here; (with_reducible show wpAny _ _ (call _ [Value.float (Float64.ofInt _) _]) _ _ _); k_dflt (refine int_float (by assumption) (by assumption) ?_); intro t' tk'))
-- ten pairs
local macro_rules | `(tactic| walk_at "exec Assign cons ListComp") => `(tactic| (k_here; lcp_look; k_dflt (refine' LCp.Assign_ListComp_P (F₀ := by k_asm) ?a1 ?a2 ?a3 ?a4 ?a5 ?a6 ?a7 ?a8 ?a9 ?a10 ?a11 ?_; (case a1 => rfl); (case a2 => with_unfolding_all rfl); (case a3 => with_unfolding_all rfl); (case a4 => decide); (case a5 => rfl); (case a6 => decide); (case a7 => rfl); (case a8 => rfl); (case a9 => decide); (case a10 => rfl); (case a11 => rfl))))
local macro_rules | `(tactic| walk_at "SrcLP") => `(tactic| (k_here; k_dflt ((refine LCp.SrcLP.ledger (by rfl) (by k_asm) (by k_asm) (by k_mem) (by exact Nat.le_of_ble_eq_true rfl) ?_); intro g'; show LCp.CompRestP _ _ _ _ _ _ _ _ _ _ _ _ _ _ _ _ 10 _ _ _); dsimp only))
local macro_rules | `(tactic| walk_at "newTuple") => `(tactic| (k_here; k_dflt (refine' kup_newTuple ?F ?N ?_ ?z; (case F => k_asm); (case N => k_asm); (case z => kmk_size)); intro D' h' F' N' l1; clear l1; (try k_sweep)))
local macro_rules | `(tactic| walk_at "CompRestP") => `(tactic| (with_unfolding_all first
  | (refine LCp.CompRestP.succ ?_; intro v' hv'; lcg_open hv'; refine ⟨_, _, _, _, _, rfl, by k_mem, rfl, rfl, ?_⟩; intro I' oI' C' oC' D' m' h' tk' E' hC' hx' hy' F' N' off' ne')
  | refine LCp.CompRestP.zero ?_))
local macro_rules | `(tactic| walk_at "CompEnd") => `(tactic| (k_dflt (refine' LCg.CompEnd.intro ?F ?N _ ?sub ?off ?S ?_; (case off => assumption); (case F => assumption); (case N => assumption); (case sub => exact fun p hp => hp); (case S => lcg_src))))
local macro_rules | `(tactic| walk_at "binaryOp Sub int int") => `(tactic| (k_here; (with_reducible show wpAny _ _ (binaryOp _ (Value.int (days _ _ _ _) _) (Value.int (days _ _ _ _) _)) _ _ _); k_dflt (refine sub_28 (by assumption) (by assumption) (by omega) (by omega) ?_); intro t' tk'))
local macro_rules | `(tactic| walk_at "binaryOp Add int int") => `(tactic| (k_here; (with_reducible show wpAny _ _ (binaryOp _ (Value.int _ _) (Value.int (Int.fmod _ _) _)) _ _ _); k_dflt (refine near_sum (by assumption) (by assumption) ?_); intro n' t' tk' hn0 hn1 hn2 hn3))
local macro_rules | `(tactic| walk_at "my nought") => `(tactic| skip)
set_option maxRecDepth 100000 in
set_option maxHeartbeats 3000000 in
theorem restE_tells {w : World} : RestFrom w bodyE := by
  unfold RestFrom
  k_fill
  intro mean mg mb h₀ fa cdv L m s oY oM y mo d mode ty tmo td tm Q E K0 F X N T dY dM hmd hmm hy0 hy1 hm0 hm1 hd0 hd1 ho0 ho1 hQ
  replace F := fr_two F hmd hmm
  clear hmd hmm
  unfold bodyE lawScope
  dsimp only
  k_steps
  all_goals exact hQ _ _ _ (by k_asm) (fun _ hp => nomatch hp)
end
-- LRestD
section
-- the calls
local macro_rules | `(tactic| walk_at "call ref") => `(tactic| (k_here; (with_reducible show wpAny _ _ (call (Value.ref 111) [Value.ref _, Value.int _ _]) _ _ _); k_dflt (refine' from_use ?k1 ?k2 ?k3 ?k4 ?k5 ?kK ?ko ?kd ?ku ?_; (case k1 => k_asm); (case k2 => k_asm); (case k3 => k_asm); (case k4 => k_asm); (case k5 => k_asm); (case kK => first | exact rfl | assumption); (case ko => constructor <;> omega); (case kd => ktr_room); (case ku => ktr_units)); intro hb0 hb1 t9 h9 tk9 F9 N9; (try dsimp only)))
local macro_rules | `(tactic| walk_at "call type:int") => `(tactic| (k_here; (with_reducible show wpAny _ _ (call _ [Value.float (Float64.ofInt _) _]) _ _ _); k_dflt (refine int_float (by assumption) (by assumption) ?_); intro t' tk'))
-- ten pairs
local macro_rules | `(tactic| walk_at "exec Assign cons ListComp") => `(tactic| (k_here; lcp_look; k_dflt (refine' LCp.Assign_ListComp_P (F₀ := by k_asm) ?a1 ?a2 ?a3 ?a4 ?a5 ?a6 ?a7 ?a8 ?a9 ?a10 ?a11 ?_; (case a1 => rfl); (case a2 => with_unfolding_all rfl); (case a3 => with_unfolding_all rfl); (case a4 => decide); (case a5 => rfl); (case a6 => decide); (case a7 => rfl); (case a8 => rfl); (case a9 => decide); (case a10 => rfl); (case a11 => rfl))))
local macro_rules | `(tactic| walk_at "SrcLP") => `(tactic| (k_here; k_dflt ((refine LCp.SrcLP.ledger (by rfl) (by k_asm) (by k_asm) (by k_mem) (by exact Nat.le_of_ble_eq_true rfl) ?_); intro g'; show LCp.CompRestP _ _ _ _ _ _ _ _ _ _ _ _ _ _ _ _ 10 _ _ _); dsimp only))
local macro_rules | `(tactic| walk_at "newTuple") => `(tactic| (k_here; k_dflt (refine' kup_newTuple ?F ?N ?_ ?z; (case F => k_asm); (case N => k_asm); (case z => kmk_size)); intro D' h' F' N' l1; clear l1; (try k_sweep)))
local macro_rules | `(tactic| walk_at "CompRestP") => `(tactic| (with_unfolding_all first
  | (refine LCp.CompRestP.succ ?_; intro v' hv'; lcg_open hv'; refine ⟨_, _, _, _, _, rfl, by k_mem, rfl, rfl, ?_⟩; intro I' oI' C' oC' D' m' h' tk' E' hC' hx' hy' F' N' off' ne')
  | refine LCp.CompRestP.zero ?_))
local macro_rules | `(tactic| walk_at "CompEnd") => `(tactic| (k_dflt (refine' LCg.CompEnd.intro ?F ?N _ ?sub ?off ?S ?_; (case off => assumption); (case F => assumption); (case N => assumption); (case sub => exact fun p hp => hp); (case S => lcg_src))))
local macro_rules | `(tactic| walk_at "call ref") => `(tactic| (k_here; (with_reducible show wpAny _ _ (call (Value.ref 96) [Value.int (days _ _ _ _) _, Value.int _ _]) _ _ _); k_dflt (refine' as_date ?k1 ?k2 ?k3 ?k4 ?k5 ?kK ?ko ?kd ?ku ?_; (case k1 => k_asm); (case k2 => k_asm); (case k3 => k_asm); (case k4 => k_asm); (case k5 => k_asm); (case kK => first | exact rfl | assumption); (case ko => constructor <;> omega); (case kd => ktr_room); (case ku => ktr_units)); intro D' t1' t2' t3' t4' t5' t6' c' h9 tk9 F9 N9 l9; clear l9; (try dsimp only)))
local macro_rules | `(tactic| walk_at "binaryOp Sub int int") => `(tactic| (k_here; (with_reducible show wpAny _ _ (binaryOp _ (Value.int (days _ _ _ _) _) (Value.int (days _ _ _ _) _)) _ _ _); k_dflt (refine sub_400 (by assumption) (by assumption) ?_); intro t' tk'))
local macro_rules | `(tactic| walk_at "compareOp NotEq ref ref") => `(tactic| (k_here; k_dflt (refine' ne_six ?N ?ma ?mb ?ey ?em ?ed ?u ?_; (case N => k_asm); (case ma => k_mem); (case mb => k_mem); (case ey => rfl); (case em => rfl); (case ed => rfl); (case u => units_room))))
local macro_rules | `(tactic| walk_at "execs cons") => `(tactic| (k_here; (with_reducible show wpAny _ _ (execs [Stmt.Assign [Expr.Name (PySem.Str.ofString "near") _] _ _, _, _] _) _ _ _); k_dflt (refine' restE_tells ?B ?F ?X ?N ?T ?dY ?dM ?d ?m ?y0 ?y1 ?m0 ?m1 ?d0 ?d1 ?o0 ?o1 ?_; (case B => assumption); (case F => k_asm); (case X => k_asm); (case N => exact cb_drop (by assumption) (by kcj_all)); (case T => k_asm); (case dY => assumption); (case dM => assumption); (case d => rfl); (case m => rfl); (all_goals (try assumption)))))
set_option maxRecDepth 100000 in
set_option maxHeartbeats 3000000 in
theorem restD_tells {w : World} : RestFrom w bodyD := by
  unfold RestFrom
  k_fill
  intro mean mg mb h₀ fa cdv L m s oY oM y mo d mode ty tmo td tm Q E K0 F X N T dY dM hmd hmm hy0 hy1 hm0 hm1 hd0 hd1 ho0 ho1 hQ
  replace F := fr_two F hmd hmm
  clear hmd hmm
  unfold bodyD lawScope
  dsimp only
  k_steps
end
-- LRestC
section
-- the calls
local macro_rules | `(tactic| walk_at "call ref") => `(tactic| (k_here; (with_reducible show wpAny _ _ (call (Value.ref 111) [Value.ref _, Value.int _ _]) _ _ _); k_dflt (refine' from_use ?k1 ?k2 ?k3 ?k4 ?k5 ?kK ?ko ?kd ?ku ?_; (case k1 => k_asm); (case k2 => k_asm); (case k3 => k_asm); (case k4 => k_asm); (case k5 => k_asm); (case kK => first | exact rfl | assumption); (case ko => constructor <;> omega); (case kd => ktr_room); (case ku => ktr_units)); intro hb0 hb1 t9 h9 tk9 F9 N9; (try dsimp only)))
local macro_rules | `(tactic| walk_at "call type:int") => `(tactic| (k_here; (with_reducible show wpAny _ _ (call _ [Value.float (Float64.ofInt _) _]) _ _ _); k_dflt (refine int_float (by assumption) (by assumption) ?_); intro t' tk'))
-- ten pairs
local macro_rules | `(tactic| walk_at "exec Assign cons ListComp") => `(tactic| (k_here; lcp_look; k_dflt (refine' LCp.Assign_ListComp_P (F₀ := by k_asm) ?a1 ?a2 ?a3 ?a4 ?a5 ?a6 ?a7 ?a8 ?a9 ?a10 ?a11 ?_; (case a1 => rfl); (case a2 => with_unfolding_all rfl); (case a3 => with_unfolding_all rfl); (case a4 => decide); (case a5 => rfl); (case a6 => decide); (case a7 => rfl); (case a8 => rfl); (case a9 => decide); (case a10 => rfl); (case a11 => rfl))))
local macro_rules | `(tactic| walk_at "SrcLP") => `(tactic| (k_here; k_dflt ((refine LCp.SrcLP.ledger (by rfl) (by k_asm) (by k_asm) (by k_mem) (by exact Nat.le_of_ble_eq_true rfl) ?_); intro g'; show LCp.CompRestP _ _ _ _ _ _ _ _ _ _ _ _ _ _ _ _ 10 _ _ _); dsimp only))
local macro_rules | `(tactic| walk_at "newTuple") => `(tactic| (k_here; k_dflt (refine' kup_newTuple ?F ?N ?_ ?z; (case F => k_asm); (case N => k_asm); (case z => kmk_size)); intro D' h' F' N' l1; clear l1; (try k_sweep)))
local macro_rules | `(tactic| walk_at "CompRestP") => `(tactic| (with_unfolding_all first
  | (refine LCp.CompRestP.succ ?_; intro v' hv'; lcg_open hv'; refine ⟨_, _, _, _, _, rfl, by k_mem, rfl, rfl, ?_⟩; intro I' oI' C' oC' D' m' h' tk' E' hC' hx' hy' F' N' off' ne')
  | refine LCp.CompRestP.zero ?_))
local macro_rules | `(tactic| walk_at "CompEnd") => `(tactic| (k_dflt (refine' LCg.CompEnd.intro ?F ?N _ ?sub ?off ?S ?_; (case off => assumption); (case F => assumption); (case N => assumption); (case sub => exact fun p hp => hp); (case S => lcg_src))))
local macro_rules | `(tactic| walk_at "eval ListComp") => `(tactic| (k_here; k_dflt (refine' LCg.ListComp_U (F₀ := by k_asm) ?a1 ?a2 ?a3 ?a4 ?a5 ?_; (case a1 => with_unfolding_all rfl); (case a2 => decide); (case a3 => rfl); (case a4 => decide); (case a5 => rfl))))
local macro_rules | `(tactic| walk_at "CompSrc") => `(tactic| (k_here; k_dflt ((refine LCg.CompSrc.range (n := 12) (by rfl) (by k_asm) (by k_asm) (by assumption) (by first | decide | rfl) (by first | rfl | decide) (by exact Nat.le_of_ble_eq_true rfl) ?_); intro g'; dsimp only)))
local macro_rules | `(tactic| walk_at "CompRest") => `(tactic| (with_unfolding_all first
  | (refine LCg.CompRest.succ ?_; intro v' I' oI' C' oC' D' m' h' tk' E' hv' hC' hx' F' N' off' ne'; obtain ⟨t9', hv9'⟩ := hv'; (try simp at hv9'); subst hv9')
  | refine LCg.CompRest.zero ?_))
local macro_rules | `(tactic| walk_at "binaryOp Add int int") => `(tactic| (k_here; k_dflt (first | refine add_lit 1 (by decide) ?_ | refine add_lit 2 (by decide) ?_ | refine add_lit 3 (by decide) ?_ | refine add_lit 4 (by decide) ?_ | refine add_lit 5 (by decide) ?_ | refine add_lit 6 (by decide) ?_ | refine add_lit 7 (by decide) ?_ | refine add_lit 8 (by decide) ?_ | refine add_lit 9 (by decide) ?_ | refine add_lit 10 (by decide) ?_ | refine add_lit 11 (by decide) ?_ | refine add_lit 12 (by decide) ?_); intro t' tk'))
local macro_rules | `(tactic| walk_at "call type:set") => `(tactic| (k_here; k_dflt (refine' set_thirteen ?F ?N ?A ?m ?i ?a ?b ?_; (case F => k_asm); (case N => k_asm); (case A => rfl); (case m => k_mem); (case i => exact .cons _ _ (.cons _ _ (.cons _ _ (.cons _ _ (.cons _ _ (.cons _ _ (.cons _ _ (.cons _ _ (.cons _ _ (.cons _ _ (.cons _ _ (.cons _ _ .nil)))))))))))); (case a => assumption); (case b => assumption)); intro S' o' h' tk' F' N' hS'; (try k_sweep)))
local macro_rules | `(tactic| walk_at "call builtin:len") => `(tactic| (k_here; (with_reducible show wpAny _ _ (call (Value.builtin "len") [Value.ref _]) _ _ _); k_dflt (refine' len_seven ?N ?m ?h ?_; (case N => k_asm); (case m => k_mem); (case h => assumption)); intro t' tk'))
local macro_rules | `(tactic| walk_at "execs cons") => `(tactic| (k_here; (with_reducible show wpAny _ _ (execs (Stmt.Assign [Expr.Name (PySem.Str.ofString "first") _] _ _ :: _) _) _ _ _); k_dflt (refine' restD_tells ?B ?F ?X ?N ?T ?dY ?dM ?d ?m ?y0 ?y1 ?m0 ?m1 ?d0 ?d1 ?o0 ?o1 ?_; (case B => assumption); (case F => k_asm); (case X => k_asm); (case N => exact cb_drop (by assumption) (by kcj_all)); (case T => k_asm); (case dY => assumption); (case dM => assumption); (case d => rfl); (case m => rfl); (all_goals (try assumption)))))
set_option maxRecDepth 100000 in
set_option maxHeartbeats 3000000 in
theorem restC_tells {w : World} : RestFrom w bodyC := by
  unfold RestFrom
  k_fill
  intro mean mg mb h₀ fa cdv L m s oY oM y mo d mode ty tmo td tm Q E K0 F X N T dY dM hmd hmm hy0 hy1 hm0 hm1 hd0 hd1 ho0 ho1 hQ
  replace F := fr_two F hmd hmm
  clear hmd hmm
  unfold bodyC lawScope
  dsimp only
  k_steps
end
-- LRestB
section
-- the calls
local macro_rules | `(tactic| walk_at "call ref") => `(tactic| (k_here; (with_reducible show wpAny _ _ (call (Value.ref 111) [Value.ref _, Value.int _ _]) _ _ _); k_dflt (refine' from_use ?k1 ?k2 ?k3 ?k4 ?k5 ?kK ?ko ?kd ?ku ?_; (case k1 => k_asm); (case k2 => k_asm); (case k3 => k_asm); (case k4 => k_asm); (case k5 => k_asm); (case kK => first | exact rfl | assumption); (case ko => constructor <;> omega); (case kd => ktr_room); (case ku => ktr_units)); intro hb0 hb1 t9 h9 tk9 F9 N9; (try dsimp only)))
local macro_rules | `(tactic| walk_at "call type:int") => `(tactic| (k_here; (with_reducible show wpAny _ _ (call _ [Value.float (Float64.ofInt _) _]) _ _ _); k_dflt (refine int_float (by assumption) (by assumption) ?_); intro t' tk'))
-- ten pairs
local macro_rules | `(tactic| walk_at "exec Assign cons ListComp") => `(tactic| (k_here; lcp_look; k_dflt (refine' LCp.Assign_ListComp_P (F₀ := by k_asm) ?a1 ?a2 ?a3 ?a4 ?a5 ?a6 ?a7 ?a8 ?a9 ?a10 ?a11 ?_; (case a1 => rfl); (case a2 => with_unfolding_all rfl); (case a3 => with_unfolding_all rfl); (case a4 => decide); (case a5 => rfl); (case a6 => decide); (case a7 => rfl); (case a8 => rfl); (case a9 => decide); (case a10 => rfl); (case a11 => rfl))))
local macro_rules | `(tactic| walk_at "SrcLP") => `(tactic| (k_here; k_dflt ((refine LCp.SrcLP.ledger (by rfl) (by k_asm) (by k_asm) (by k_mem) (by exact Nat.le_of_ble_eq_true rfl) ?_); intro g'; show LCp.CompRestP _ _ _ _ _ _ _ _ _ _ _ _ _ _ _ _ 10 _ _ _); dsimp only))
local macro_rules | `(tactic| walk_at "newTuple") => `(tactic| (k_here; k_dflt (refine' kup_newTuple ?F ?N ?_ ?z; (case F => k_asm); (case N => k_asm); (case z => kmk_size)); intro D' h' F' N' l1; clear l1; (try k_sweep)))
local macro_rules | `(tactic| walk_at "CompRestP") => `(tactic| (with_unfolding_all first
  | (refine LCp.CompRestP.succ ?_; intro v' hv'; lcg_open hv'; refine ⟨_, _, _, _, _, rfl, by k_mem, rfl, rfl, ?_⟩; intro I' oI' C' oC' D' m' h' tk' E' hC' hx' hy' F' N' off' ne')
  | refine LCp.CompRestP.zero ?_))
local macro_rules | `(tactic| walk_at "CompEnd") => `(tactic| (k_dflt (refine' LCg.CompEnd.intro ?F ?N _ ?sub ?off ?S ?_; (case off => assumption); (case F => assumption); (case N => assumption); (case sub => exact fun p hp => hp); (case S => lcg_src))))
local macro_rules | `(tactic| walk_at "call ref") => `(tactic| (k_here; (with_reducible show wpAny _ _ (call (Value.ref 96) [Value.int _ _, Value.int _ _]) _ _ _); k_dflt (refine' as_feb ?k1 ?k2 ?k3 ?k4 ?k5 ?kK ?y0 ?y1 ?o0 ?o1 ?kd ?ku ?_; (case k1 => k_asm); (case k2 => k_asm); (case k3 => k_asm); (case k4 => k_asm); (case k5 => k_asm); (case kK => first | exact rfl | assumption); (case y0 => omega); (case y1 => omega); (case o0 => omega); (case o1 => omega); (case kd => ktr_room); (case ku => ktr_units)); intro D' t1' t2' t3' t4' t5' t6' c' h9 tk9 F9 N9 l9; clear l9; (try dsimp only)))
local macro_rules | `(tactic| walk_at "execs cons") => `(tactic| (k_here; (with_reducible show wpAny _ _ (execs (Stmt.If (Expr.Compare (Expr.Call (Expr.Name (PySem.Str.ofString "len") _) _ _ _) _ _ _) _ _ _ :: _) _) _ _ _); k_dflt (refine' restC_tells ?B ?F ?X ?N ?T ?dY ?dM ?d ?m ?y0 ?y1 ?m0 ?m1 ?d0 ?d1 ?o0 ?o1 ?_; (case B => assumption); (case F => k_asm); (case X => k_asm); (case N => exact cb_drop (by assumption) (by kcj_all)); (case T => k_asm); (case dY => assumption); (case dM => assumption); (case d => rfl); (case m => rfl); (all_goals (try assumption)))))
set_option maxRecDepth 100000 in
set_option maxHeartbeats 3000000 in
theorem restB_tells {w : World} : RestTold w bodyB := by
  unfold RestTold
  k_fill
  intro mean mg mb h₀ fa cdv L m s oY oM y mo d mode ty tmo td tm Q E D v0 v1 v2 v3 v4 v5 v6 v7 v8 t9 n9 K0 F X N T dY dM hmd hmm hmt hy0 hy1 hm0 hm1 hd0 hd1 ho0 ho1 hQ
  replace F := fr_told F hmd hmm hmt
  clear hmd hmm hmt
  unfold bodyB lawScope
  dsimp only
  k_steps
  all_goals first
    | exact absurd (feb_29a (by assumption) (by assumption)) (by assumption)
    | exact absurd (feb_29b (by assumption) (by assumption)) (by assumption)
    | exact absurd (feb_28a (by assumption) (by assumption)) (by assumption)
    | exact absurd (feb_28b (by assumption)) (by assumption)
    | exact absurd (by assumption : Int.fmod y 4 = 0) (by assumption)
end
-- LRestA
section
-- the calls
local macro_rules | `(tactic| walk_at "call ref") => `(tactic| (k_here; (with_reducible show wpAny _ _ (call (Value.ref 111) [Value.ref _, Value.int _ _]) _ _ _); k_dflt (refine' from_use ?k1 ?k2 ?k3 ?k4 ?k5 ?kK ?ko ?kd ?ku ?_; (case k1 => k_asm); (case k2 => k_asm); (case k3 => k_asm); (case k4 => k_asm); (case k5 => k_asm); (case kK => first | exact rfl | assumption); (case ko => constructor <;> omega); (case kd => ktr_room); (case ku => ktr_units)); intro hb0 hb1 t9 h9 tk9 F9 N9; (try dsimp only)))
local macro_rules | `(tactic| walk_at "call type:int") => `(tactic| (k_here; (with_reducible show wpAny _ _ (call _ [Value.float (Float64.ofInt _) _]) _ _ _); k_dflt (refine int_float (by assumption) (by assumption) ?_); intro t' tk'))
-- ten pairs
local macro_rules | `(tactic| walk_at "exec Assign cons ListComp") => `(tactic| (k_here; lcp_look; k_dflt (refine' LCp.Assign_ListComp_P (F₀ := by k_asm) ?a1 ?a2 ?a3 ?a4 ?a5 ?a6 ?a7 ?a8 ?a9 ?a10 ?a11 ?_; (case a1 => rfl); (case a2 => with_unfolding_all rfl); (case a3 => with_unfolding_all rfl); (case a4 => decide); (case a5 => rfl); (case a6 => decide); (case a7 => rfl); (case a8 => rfl); (case a9 => decide); (case a10 => rfl); (case a11 => rfl))))
local macro_rules | `(tactic| walk_at "SrcLP") => `(tactic| (k_here; k_dflt ((refine LCp.SrcLP.ledger (by rfl) (by k_asm) (by k_asm) (by k_mem) (by exact Nat.le_of_ble_eq_true rfl) ?_); intro g'; show LCp.CompRestP _ _ _ _ _ _ _ _ _ _ _ _ _ _ _ _ 10 _ _ _); dsimp only))
local macro_rules | `(tactic| walk_at "newTuple") => `(tactic| (k_here; k_dflt (refine' kup_newTuple ?F ?N ?_ ?z; (case F => k_asm); (case N => k_asm); (case z => kmk_size)); intro D' h' F' N' l1; clear l1; (try k_sweep)))
local macro_rules | `(tactic| walk_at "CompRestP") => `(tactic| (with_unfolding_all first
  | (refine LCp.CompRestP.succ ?_; intro v' hv'; lcg_open hv'; refine ⟨_, _, _, _, _, rfl, by k_mem, rfl, rfl, ?_⟩; intro I' oI' C' oC' D' m' h' tk' E' hC' hx' hy' F' N' off' ne')
  | refine LCp.CompRestP.zero ?_))
local macro_rules | `(tactic| walk_at "CompEnd") => `(tactic| (k_dflt (refine' LCg.CompEnd.intro ?F ?N _ ?sub ?off ?S ?_; (case off => assumption); (case F => assumption); (case N => assumption); (case sub => exact fun p hp => hp); (case S => lcg_src))))
local macro_rules | `(tactic| walk_at "call type:set") => `(tactic| (k_here; k_dflt (first
  | (refine' set_told ?F ?N ?A ?m ?i ?a ?b ?_; (case F => k_asm); (case N => k_asm); (case A => rfl); (case m => k_mem); (case i => assumption); (case a => assumption); (case b => assumption))
  | (refine' set_anchor ?F ?N ?A ?m ?_; (case F => k_asm); (case N => k_asm); (case A => rfl); (case m => k_mem))); intro S' o' h' tk' F' N' hS'; (try k_sweep)))
local macro_rules | `(tactic| walk_at "compareOp NotEq ref ref") => `(tactic| (k_here; k_dflt (refine' ne_sets ?N ?u ?ma ?mb ?ha ?hb ?_; (case N => k_asm); (case u => units_room); (case ma => k_mem); (case mb => k_mem); (case ha => assumption); (case hb => assumption))))
local macro_rules | `(tactic| walk_at "execs cons") => `(tactic| (k_here; (with_reducible show wpAny _ _ (execs (Stmt.Assign [Expr.Name (PySem.Str.ofString "leap") _] _ _ :: _) _) _ _ _); k_dflt (refine' restB_tells ?B ?F ?X ?N ?T ?dY ?dM ?d ?m ?t ?y0 ?y1 ?m0 ?m1 ?d0 ?d1 ?o0 ?o1 ?_; (case B => assumption); (case F => k_asm); (case X => k_asm); (case N => exact cb_drop (by assumption) (by kcj_all)); (case T => k_asm); (case dY => assumption); (case dM => assumption); (case d => rfl); (case m => rfl); (case t => rfl); (all_goals (try assumption)))))
set_option maxRecDepth 100000 in
set_option maxHeartbeats 3000000 in
theorem restA_tells {w : World} : RestFrom w bodyA := by
  unfold RestFrom
  k_fill
  intro mean mg mb h₀ fa cdv L m s oY oM y mo d mode ty tmo td tm Q E K0 F X N T dY dM hmd hmm hy0 hy1 hm0 hm1 hd0 hd1 ho0 ho1 hQ
  replace F := fr_two F hmd hmm
  clear hmd hmm
  unfold bodyA lawScope
  dsimp only
  k_steps
end
-- LHead
section
theorem flat {α : Type} {M : Model} {A : Around} {T : Sem α} {Q : α → Shared → Prop} {E : Value → Shared → Prop} {s₁ : Shared} {h : Heap} {g : Array GenState} {d : Drawn} {t : Nat} {o : OsState}
    (hg : s₁.gens = #[]) (eg : g = s₁.gens) (ed : d = s₁.drawn) (eo : o = s₁.os) (H : ∀ tk, wpAny M A T Q E ⟨h, s₁.gens, s₁.drawn, tk, s₁.os⟩) : wpAny M A T Q E ⟨h, g, d, t, o⟩ := by
  subst eg; subst ed; subst eo
  exact H t
-- the draws become letters
local macro_rules | `(tactic| walk_at "binaryOp Mod int int") => `(tactic| (k_here; first
  | ((with_reducible show wpAny _ _ (binaryOp _ (Value.int _ _) (Value.int 7695 _)) _ _ _); k_dflt (refine draw (by decide) ?_); intro r' t' tk' hr0 hr1)
  | ((with_reducible show wpAny _ _ (binaryOp _ (Value.int _ _) (Value.int 12 _)) _ _ _); k_dflt (refine draw (by decide) ?_); intro r' t' tk' hr0 hr1)
  | ((with_reducible show wpAny _ _ (binaryOp _ (Value.int _ _) (Value.int 28 _)) _ _ _); k_dflt (refine draw (by decide) ?_); intro r' t' tk' hr0 hr1)
  | ((with_reducible show wpAny _ _ (binaryOp _ (Value.int _ _) (Value.int 2 _)) _ _ _); k_dflt (refine draw (by decide) ?_); intro r' t' tk' hr0 hr1)))
local macro_rules | `(tactic| walk_at "binaryOp Add int int") => `(tactic| (k_here; first
  | ((with_reducible show wpAny _ _ (binaryOp _ (Value.int 1905 _) (Value.int _ _)) _ _ _); k_dflt (refine add_draw (by assumption) (by assumption) ?_); intro z' t' tk' hz0 hz1)
  | ((with_reducible show wpAny _ _ (binaryOp _ (Value.int 1 _) (Value.int _ _)) _ _ _); k_dflt (refine add_draw (by assumption) (by assumption) ?_); intro z' t' tk' hz0 hz1)))
local macro_rules | `(tactic| walk_at "execs cons") => `(tactic| (k_here; (with_reducible show wpAny _ _ (execs (Stmt.Assign [Expr.Name (PySem.Str.ofString "told") _] _ _ :: _) _) _ _ _); k_dflt (refine' flat ?hg ?eg ?ed ?eo ?_; (case hg => assumption); (case eg => rfl); (case ed => rfl); (case eo => rfl)); intro tk'; k_dflt (refine' @restA_tells _ _ _ _ _ _ _ _ _ _ _ _ _ _ _ _ _ _ _ _ _ _ ?B ?F ?X ?N ?T ?dY ?dM ?d ?m ?y0 ?y1 ?m0 ?m1 ?d0 ?d1 ?o0 ?o1 ?_; (case B => assumption); (case F => k_asm); (case X => k_asm); (case N => exact cb_drop (by assumption) (by kcj_all)); (case T => k_asm); (case dY => assumption); (case dM => assumption); (case d => rfl); (case m => rfl); (case y0 => omega); (case y1 => omega); (case m0 => omega); (case m1 => omega); (case d0 => omega); (case d1 => omega); (case o0 => omega); (case o1 => omega)); intro h' tk' m' F' N'))
set_option maxRecDepth 100000 in
set_option maxHeartbeats 3500000 in
theorem law_holds : PySem.Challenge.rw_fe0352_01.Holds := hd (by k_go)
end
end Mine
theorem PySem.Challenge.cw_fe0352_01_holds : PySem.Challenge.rw_fe0352_01.Holds :=
  Mine.law_holds
