import PyProof.Rows.All
import Wide.All
import OpenK.AllK
import Wide.FinOn
import Lean
import PySem.Challenge.RW_kh0015_01
set_option Elab.async false
set_option maxRecDepth 100000
set_option linter.unusedVariables false
set_option compiler.extract_closed false
section
open PySem PySem.W PyProof.Rows
namespace Mine
/-- what the walk may lean on: the top's statements that no later one shadows -/
def viewQ : Program := view PySem.Challenge.pw_kh0015_01 [0, 3, 5, 7, 9, 11, 12, 14, 16, 17, 18, 19, 20, 21, 22, 23, 24, 25, 26, 27, 28, 30, 32, 33, 35, 36, 38, 39, 40, 41, 42, 43, 44, 45, 46, 47]
def looseL : List Str := [Str.ofString "is_inf_optimized_curve", Str.ofString "is_on_curve_optimized_curve",
  Str.ofString "double_optimized_curve", Str.ofString "add_optimized_curve",
  Str.ofString "multiply_optimized_curve", Str.ofString "neg_optimized_curve", Str.ofString "is_inf_bn128_curve",
  Str.ofString "is_on_curve_bn128_curve", Str.ofString "double_bn128_curve", Str.ofString "add_bn128_curve",
  Str.ofString "multiply_bn128_curve", Str.ofString "neg_bn128_curve", Str.ofString "FQ",
  Str.ofString "FQ_field_elements", Str.ofString "FQ_optimized_field_elements"]
theorem saidL : OpenLaw.wellSaid PySem.Challenge.rw_kh0015_01 = true := by
  rw [PySem.W.Fast.te9446332074065402090]
  kernel_rfl
theorem optBoth {α β γ : Type} {x : Option α} {f : α → β} {g : α → γ} {a : β} {b : γ} (h1 : x.map f = some a) (h2 : x.map g = some b) : x.map (fun s => (f s, g s)) = some (a, b) := by
  cases x with
  | none => cases h1
  | some y =>
    cases h1
    cases h2
    rfl
theorem leftSeen (w : World) : (openEnds treeTable PySem.Challenge.rw_kh0015_01.row.prog w 5698).map (fun s => openSeen viewQ looseL (importedModules PySem.Challenge.rw_kh0015_01.row.prog.main.body) (fun s => xlAt viewQ [] s && recOk (RowW.records (OpenRow.toRowW PySem.Challenge.rw_kh0015_01.row)) s) true s) = some (openGood viewQ looseL) := by
  unfold openEnds fencedOpening topFrom opening
  rw [PySem.W.Fast.te14082659384304107361, PySem.W.Fast.te10274390034422433532, PySem.W.Fast.te4187177175401517315, PySem.W.Fast.te14289696077712309145]
  kernel_rfl
section
local macro_rules | `(tactic| o_law) => `(tactic| refine holds_law saidL fun said => ?_)
local macro_rules | `(tactic| o_head $H) => `(tactic| (
  refine holds_open (r := PySem.Challenge.rw_kh0015_01.row) (q := viewQ) (loose := looseL) (Xt := fun s => xlAt viewQ [] s && recOk (RowW.records (OpenRow.toRowW PySem.Challenge.rw_kh0015_01.row)) s) (XP := XL viewQ []) (Yf := Hook.obs $H) (Ya := Hook.val $H) (YP := Hook.says $H) (N := 5698) ?hl (Hook.of $H) (Hook.keeps $H) (fun s e => xl_of s (Bool.and_eq_true_iff.mp e).1) XL.keeps (by rfl) (by rfl) (by rfl) (fun s e => recFacts_of (Bool.and_eq_true_iff.mp e).2) (by rfl) (by first | assumption | decide +kernel) (by decide +kernel) ⟨rfl, rfl, rfl, rfl, rfl, by decide +kernel⟩ ?hw ?hc
  case hl =>
    intro w
    refine optBoth (leftSeen w) ?_
    unfold openEnds fencedOpening topFrom opening
    rw [PySem.W.Fast.te14082659384304107361, PySem.W.Fast.te10274390034422433532, PySem.W.Fast.te14289696077712309145]
    kernel_rfl))
set_option maxHeartbeats 8000000 in
open_top hd for PySem.Challenge.rw_kh0015_01
end
end Mine
end
section
open PySem PySem.W PyProof.Rows PySem.Calls PySem.Spec
namespace Mine
theorem imul_inst (a : Int) (t : Tok) (l : Addr) (o : Obj) (hd : o.data = .plain) :
    Meets (Builtin.«int.__mul__» ⟨[.int a t, .ref l], []⟩) (fun _ R s => s.heap.get? l = some o ∧ R (.ok (.ret Value.notImplemented)) s) :=
  .of_wp fun prog w A R s h => by
    obtain ⟨c, d, da, sl⟩ := o
    dsimp only at hd
    subst hd
    obtain ⟨hp, g, d, tk, os⟩ := s; obtain ⟨hl, h⟩ := h; wp_walk; exact ⟨_, rfl, h⟩
set_option maxHeartbeats 1000000 in
theorem rmulOp {prog : Program} {w : World} {A : Around} {E : Value → Shared → Prop} {s : Shared} {K : Frag} {x C L f f0 : Addr} {h₀ : Heap} {m : Str → Option Value} {ox : Obj} {od : Option Obj} {k : Int} {t : Tok} {Q : Value → Shared → Prop}
    (F : Fr h₀ L s.heap m) (X₀ : K.In h₀) (I : InstAt s.heap x ox C od) (hd : ox.data = .plain) (hc : selfFirst K C = true)
    (hs : findIn K (.ref C) (PySem.dunder "mul") = some (some (.ref f0))) (hr : findIn K (.ref C) (PySem.dunderR "mul") = some (some (.ref f))) (hf : isFn K (.ref f) = true) (hsub : subIn K (.ref C) (.type "int") = some false)
    (h : wpAny (model prog w) A (call (.ref f) [.ref x, .int k t]) (W.CmpBack Q) E s) : wpAny (model prog w) A (binaryOp .Mult (.int k t) (.ref x)) Q E s := by
  have X := X₀.keeps F.keep
  obtain ⟨cd, rest, hcd, hm⟩ := ksp_first hc
  have one := ksp_try (name := PySem.dunderR "mul") X I hr hf h
  have dec0 : wpAny (model prog w) A (call (.builtin "int.__mul__") [.int k t, .ref x]) (fun v s' => v = .notImplemented ∧ s' = s) E s := by
    refine call_meets PySem.F.slot_int_mul (typeIs_int s k t) PySem.F.entry_int_mul (PySem.F.args_int_mul_2 _ _) (imul_inst k t x ox hd) ?_
    refine ⟨I.at_, ?_⟩
    show _ ∧ _
    exact ⟨rfl, rfl⟩
  have dec : ∀ Q' : Option Value → Shared → Prop, Q' none s → wpAny (model prog w) A (tryMethod (.int k t) (PySem.dunder "mul") (.ref x)) Q' E s := fun Q' hq => by
    have h1 := @wpAny_tryMethod_declines (model prog w) A E s (.int k t) (.ref x) "int" (PySem.dunder "mul") "int.__mul__" Q'
    have h2 := h1 (typeIs_int s k t)
    have h3 := h2 PySem.F.slot_int_mul
    exact h3 (wpAny_mono dec0 (fun v s' h' => ⟨h'.1, by rw [h'.2]; exact hq⟩) fun _ _ h => h)
  have L1 : Looks (model prog w) s.heap (typeOf (.ref x)) (.ref C) := I.type
  have L2 : Looks (model prog w) s.heap (fillsNumberSlot (.ref C) "mul") true := fills_K X hcd hm hs
  have L3 : Looks (model prog w) s.heap (isSubtype (.ref C) (.type "int")) false := looks_subIn X hsub
  have hne : (Value.type "int" == Value.ref C) = false := Bool.eq_false_iff.mpr fun q => by cases beq_iff_eq.mp q
  have hpy : numberSlotInPython (.type "int") "mul" = pure false := rfl
  show wpAny _ _ (binaryOp .Mult (.int k t) (.ref x)) _ _ _
  unfold binaryOp
  refine wpAny_holding (wpAny_bind ?_)
  show wpAny _ _ (binaryOp1 "mul" _ _) _ _ _
  unfold binaryOp1
  refine wpAny_bind (wpAny_typeOf (typeIs_int s k t) (wpAny_bind (L1.here (wpAny_bind (wpAny_of_eq PySem.F.fills_int_mul ?_)))))
  simp only [hne, Bool.false_eq_true, if_false]
  refine wpAny_bind (L2.here ?_)
  simp only [Bool.and_self, if_true]
  refine wpAny_bind (L3.here ?_)
  simp only [Bool.false_eq_true, if_false, pure_bind, Bool.not_false, Bool.and_self, if_true, hpy]
  refine wpAny_bind (dec _ ?_)
  dsimp only
  refine wpAny_bind (wpAny_mono one (fun r s' z => ?_) fun _ _ e => e)
  obtain ⟨v, rfl, hq⟩ := z
  exact wpAny_bind (wpAny_rule (wpAny_pure (wpAny_pure hq)))

theorem kind_pow : builtinKind "pow" = none := by decide +kernel
theorem plain_pow : plainId "pow" = true := by decide +kernel
theorem entry_pow : entryFor table "pow" = some Builtin.«pow» := entryFor_of_fast (by kernel_rfl)
theorem args_pow (a b c : Value) : argsOk "pow" ⟨[a, b, c], []⟩ := by unfold argsOk; kernel_rfl
theorem args_ipow3 (a b c : Value) : argsOk "int.__pow__" ⟨[a, b, c], []⟩ := by unfold argsOk; kernel_rfl
theorem look_pow : typeLookup (.type "int") "__pow__" = pure (some (.builtin "int.__pow__")) := by rw [typeLookup_type, builtinLookup_eq_fast]; kernel_rfl

set_option maxHeartbeats 1000000 in
theorem ipow3 {prog : Program} {w : World} {A : Around} {E : Value → Shared → Prop} {s : Shared} {b e n : Int} {t1 t2 t3 : Tok} {Q : Value → Shared → Prop}
    (he : 0 ≤ e) (hn : 1 < n)
    (h : ∀ tk t, Q (.int (Builtin.powMod (b % n).toNat e.natAbs n.natAbs : Nat) t) { s with toks := tk }) :
    wpAny (model prog w) A (call (.builtin "int.__pow__") [.int b t1, .int e t2, .int n t3]) Q E s := by
  have slot : Slot "int" (Str.ofString "__pow__") "int.__pow__" := PyProof.Rows.slot_int_pow
  refine @wpAny_call_entry prog w A E s "int" (Str.ofString "__pow__") "int.__pow__" Builtin.«int.__pow__» (.int b t1) [.int e t2, .int n t3] _ slot (typeIs_int s b t1) PyProof.Rows.entry_int_pow ?_ (args_ipow3 _ _ _)
  have h0 : (n == 0) = false := by simp; omega
  have h1 : (n.natAbs == 1) = false := by simp; omega
  have hlt : (Int.decLt e 0) = isFalse (by omega) := by cases Int.decLt e 0 with | isTrue h => omega | isFalse h => rfl
  conv in (Builtin.«int.__pow__» _) => whnf
  rw [h0]
  conv => arg 3; whnf
  rw [h1]
  conv => arg 3; whnf
  rw [hlt]
  have hn0 : decide (n < 0) = false := decide_eq_false (by omega)
  have hnn : ((n.natAbs : Nat) : Int) = n := Int.natAbs_of_nonneg (by omega)
  show wpAny _ _ (retInt (if (decide (n < 0) && _) = true then _ else ((Builtin.powMod (b % (n.natAbs : Int)).toNat e.natAbs n.natAbs : Nat) : Int))) _ _ _
  rw [hn0, Bool.false_and, if_neg (by decide), hnn]
  exact wpAny_ret_mkInt (h _ _)
set_option maxHeartbeats 1000000 in
theorem powMod3 {prog : Program} {w : World} {A : Around} {E : Value → Shared → Prop} {s : Shared} {b e n : Int} {t1 t2 t3 : Tok} {Q : Value → Shared → Prop}
    (he : 0 ≤ e) (hn : 1 < n)
    (h : ∀ tk t, Q (.int (Builtin.powMod (b % n).toNat e.natAbs n.natAbs : Nat) t) { s with toks := tk }) :
    wpAny (model prog w) A (call (.builtin "pow") [.int b t1, .int e t2, .int n t3]) Q E s := by
  refine call_function_entry kind_pow plain_pow entry_pow (args_pow _ _ _) ?_
  unfold Builtin.«pow»
  refine wpAny_bind (m := Builtin.Builtins.bindParams _ _ _ _) (wpAny_of_eq (a := [some (.int b t1), some (.int e t2), some (.int n t3)]) (by kernel_rfl) ?_)
  dsimp only
  refine wpAny_bind (wpAny_rule ?_)
  refine wpAny_bind (wpAny_typeOf (typeIs_int s b t1) ?_)
  dsimp only
  refine wpAny_bind (wpAny_of_eq look_pow ?_)
  dsimp only
  have slot : Slot "int" (Str.ofString "__pow__") "int.__pow__" := PyProof.Rows.slot_int_pow
  refine wpAny_bind (@wpAny_callSpecial?_slot (model prog w) A.in1 E s (.int b t1) "int" (Str.ofString "__pow__") "int.__pow__" [.int e t2, .int n t3] [] _ (typeIs_int s b t1) slot (ipow3 he hn fun tk t => ?_))
  exact wpAny_pure ⟨_, rfl, h tk t⟩
end Mine
end
section
namespace Mine
structure InvJ (v P lm hm low high : Int) : Prop where
  l1 : 1 ≤ low
  lh : low < high
  hp : high ≤ P
  cl : ∃ x, lm * v = low + x * P
  ch : ∃ y, hm * v = high + y * P
  g : ∃ x y, x * low + y * high = 1
  sz : ∃ A B : Int, 0 ≤ A ∧ 0 ≤ B ∧ -A ≤ lm ∧ lm ≤ A ∧ -B ≤ hm ∧ hm ≤ B ∧ A * high + B * low ≤ P

theorem InvJ.start {v P : Int} (hP : 1 < P) (h0 : v % P ≠ 0) (hg : ∃ x y : Int, x * v + y * P = 1) : InvJ (v % P) P 1 0 (v % P % P) P := by
  have h1 : 0 ≤ v % P := Int.emod_nonneg _ (by omega)
  have h2 : v % P < P := Int.emod_lt_of_pos _ (by omega)
  rw [Int.emod_eq_of_lt h1 h2]
  refine ⟨by omega, h2, Int.le_refl _, ⟨0, by omega⟩, ⟨-1, by omega⟩, ?_, ⟨1, 0, by omega, by omega, by omega, by omega, by omega, by omega, by omega⟩⟩
  obtain ⟨x, y, h⟩ := hg
  refine ⟨x, y + x * (v / P), ?_⟩
  have e := Int.emod_add_mul_ediv v P
  rw [Int.add_mul, Int.mul_assoc x, Int.mul_comm (v / P) P]
  calc x * (v % P) + (y * P + x * (P * (v / P))) = x * (v % P + P * (v / P)) + y * P := by rw [Int.mul_add]; omega
    _ = 1 := by rw [e]; exact h

theorem InvJ.step {v P lm hm low high : Int} (J : InvJ v P lm hm low high) (h : 1 < low) :
    InvJ v P (hm - lm * high.fdiv low) lm (high - low * high.fdiv low) low ∧ high - low * high.fdiv low < low ∧ 0 ≤ high.fdiv low ∧ high.fdiv low ≤ high := by
  obtain ⟨l1, lh, hp, ⟨x, cl⟩, ⟨y, ch⟩, ⟨gx, gy, g⟩, ⟨A, B, hA, hB, a1, a2, b1, b2, sz⟩⟩ := J
  rw [Int.fdiv_eq_ediv_of_nonneg high (by omega)]
  have e := Int.emod_add_mul_ediv high low
  have m0 : 0 ≤ high % low := Int.emod_nonneg _ (by omega)
  have m1 : high % low < low := Int.emod_lt_of_pos _ (by omega)
  have em : high - low * (high / low) = high % low := by omega
  have r0 : 0 ≤ high / low := Int.ediv_nonneg (by omega) (by omega)
  have r1 : high / low ≤ high := Int.ediv_le_self _ (by omega)
  rw [em]
  generalize high / low = r at *
  generalize high % low = q at *
  have hh : high = q + low * r := by omega
  subst hh
  have q1 : q ≠ 0 := by
    intro q0
    subst q0
    have : low * (gx + gy * r) = 1 := by rw [← g]; grind
    have := Int.eq_one_of_dvd_one (by omega) ⟨_, this.symm⟩
    omega
  refine ⟨⟨by omega, m1, by omega, ⟨y - x * r, by grind⟩, ⟨x, cl⟩, ⟨gy, gx + gy * r, by grind⟩, ⟨B + A * r, A, ?_, hA, ?_, ?_, a1, a2, ?_⟩⟩, m1, r0, r1⟩
  · have := Int.mul_nonneg hA r0; omega
  · have h1 : lm * r ≤ A * r := Int.mul_le_mul_of_nonneg_right a2 r0
    omega
  · have h1 : -A * r ≤ lm * r := Int.mul_le_mul_of_nonneg_right a1 r0
    have h2 : -A * r = -(A * r) := Int.neg_mul _ _
    omega
  · have : (B + A * r) * low + A * q = A * (q + low * r) + B * low := by grind
    omega

theorem InvJ.bounds {v P lm hm low high : Int} (J : InvJ v P lm hm low high) : -P ≤ lm ∧ lm ≤ P ∧ -P ≤ hm ∧ hm ≤ P := by
  obtain ⟨l1, lh, hp, _, _, _, ⟨A, B, hA, hB, a1, a2, b1, b2, sz⟩⟩ := J
  have h1 : A * 1 ≤ A * high := Int.mul_le_mul_of_nonneg_left (by omega) hA
  have h2 : B * 1 ≤ B * low := Int.mul_le_mul_of_nonneg_left (by omega) hB
  omega

theorem InvJ.done {v P lm hm low high : Int} (J : InvJ (v % P) P lm hm low high) (hP : 1 < P) (h : ¬ 1 < low) : (v * (lm % P)) % P = 1 := by
  obtain ⟨l1, lh, hp, ⟨x, cl⟩, _⟩ := J
  have e : low = 1 := by omega
  subst e
  have : (v * (lm % P)) % P = (lm * (v % P)) % P := by
    rw [Int.mul_emod, Int.emod_emod_of_dvd _ (Int.dvd_refl P), Int.mul_comm, ← Int.emod_emod_of_dvd v (Int.dvd_refl P), ← Int.mul_emod, Int.emod_emod_of_dvd v (Int.dvd_refl P)]
  rw [this, cl, Int.add_mul_emod_self_right]
  exact Int.emod_eq_of_lt (by omega) hP
end Mine
end
section
open PySem
namespace Mine
theorem shr_step (e i : Nat) : e >>> i = 2 * (e >>> (i + 1)) + (if e.testBit i then 1 else 0) := by
  have h1 : e >>> (i + 1) = (e >>> i) / 2 := by rw [Nat.shiftRight_succ]
  have h2 : e.testBit i = decide ((e >>> i) % 2 = 1) := by
    rw [Nat.testBit_eq_decide_div_mod_eq, Nat.shiftRight_eq_div_pow]
  rw [h1, h2]
  by_cases h : (e >>> i) % 2 = 1
  · simp only [h, decide_true, if_true]
    omega
  · simp only [h, decide_false, Bool.false_eq_true, if_false]
    omega
theorem powMod_fold (b e m : Nat) : ∀ k, (List.range k).reverse.foldl (fun p i => if e.testBit i then p * p % m * b % m else p * p % m) (b ^ (e >>> k) % m) = b ^ e % m
  | 0 => by simp
  | k + 1 => by
    rw [List.range_succ, List.reverse_append]
    simp only [List.reverse_singleton, List.singleton_append, List.foldl_cons]
    have hs := shr_step e k
    have hh : (if e.testBit k then b ^ (e >>> (k + 1)) % m * (b ^ (e >>> (k + 1)) % m) % m * b % m else b ^ (e >>> (k + 1)) % m * (b ^ (e >>> (k + 1)) % m) % m) = b ^ (e >>> k) % m := by
      rw [hs]
      cases e.testBit k with
      | true =>
        simp only [if_true]
        rw [Nat.pow_succ, Nat.two_mul, Nat.pow_add, ← Nat.mul_mod]
        exact (Nat.mul_mod _ _ _).trans (by rw [Nat.mod_mod, ← Nat.mul_mod])
      | false =>
        simp only [Bool.false_eq_true, if_false, Nat.add_zero]
        rw [Nat.two_mul, Nat.pow_add, ← Nat.mul_mod]
    rw [hh]
    exact powMod_fold b e m k
theorem powMod_eq (b e m : Nat) : Builtin.powMod b e m = b ^ e % m := by
  unfold Builtin.powMod
  have h : b ^ (e >>> (Builtin.Int.intBits (e : Int))) % m = 1 % m := by
    have hb : e >>> (Builtin.Int.intBits (e : Int)) = 0 := by
      rw [Nat.shiftRight_eq_div_pow]
      refine Nat.div_eq_of_lt ?_
      have := PyProof.Rows.natAbs_lt_pow_bits (e : Int)
      simpa using this
    rw [hb, Nat.pow_zero]
  have := powMod_fold b e m (Builtin.Int.intBits (e : Int))
  rw [h] at this
  exact this
end Mine
end
section
namespace Mine
open Lean.Grind
/-- an int in the ring of residues -/
def ph (n : Nat) [NeZero n] (x : Int) : Fin n := ((CommRing.toRing : Ring (Fin n)).intCast).intCast x
section
variable {n : Nat} [NeZero n]
theorem ph_add (x y : Int) : ph n (x + y) = ph n x + ph n y := Ring.intCast_add x y
theorem ph_mul (x y : Int) : ph n (x * y) = ph n x * ph n y := Ring.intCast_mul x y
theorem ph_sub (x y : Int) : ph n (x - y) = ph n x - ph n y := Ring.intCast_sub x y
theorem ph_neg (x : Int) : ph n (-x) = - ph n x := Ring.intCast_neg x
theorem ph_mod (x : Int) : ph n (x % (n : Int)) = ph n x := IsCharP.intCast_emod n x
theorem ph_eq {x y : Int} : ph n x = ph n y ↔ x % (n : Int) = y % (n : Int) := IsCharP.intCast_ext_iff n
theorem ph_zero {x : Int} : ph n x = 0 ↔ x % (n : Int) = 0 := IsCharP.intCast_eq_zero_iff n x
theorem ph_0 : ph n 0 = 0 := ph_zero.mpr (Int.zero_emod _)
theorem ph_1 : ph n 1 = 1 := Ring.intCast_one
theorem ph_2 : ph n 2 = 2 := Ring.intCast_ofNat 2
theorem ph_3 : ph n 3 = 3 := Ring.intCast_ofNat 3
theorem ph_4 : ph n 4 = 4 := Ring.intCast_ofNat 4
theorem ph_8 : ph n 8 = 8 := Ring.intCast_ofNat 8
end
theorem alg_chk {R : Type} [CommRing R] {x1 x2 y1 y2 i nx : R} (h : (x2 - x1) * i = 1) : -((y2 - y1) * i) * nx + (y2 - y1) * i * x1 - y1 = -((y2 - y1) * i) * nx + (y2 - y1) * i * x2 - y2 := by grind
theorem chk {P x1 x2 y1 y2 i nx : Int} (hP : 1 < P) (h : (x2 - x1) % P * i % P = 1) :
    ((-((y2 - y1) % P * i % P) % P * nx % P + (y2 - y1) % P * i % P * x1 % P) % P - y1) % P = ((-((y2 - y1) % P * i % P) % P * nx % P + (y2 - y1) % P * i % P * x2 % P) % P - y2) % P := by
  obtain ⟨n, rfl⟩ : ∃ n : Nat, P = n := ⟨P.toNat, by omega⟩
  have : NeZero n := ⟨by omega⟩
  have h1 : ph n ((x2 - x1) % n * i % n) = ph n 1 := by rw [h]
  rw [ph_mod, ph_mul, ph_mod, ph_sub, ph_1] at h1
  rw [← ph_eq]
  simp only [ph_mod, ph_mul, ph_sub, ph_add, ph_neg]
  exact alg_chk h1
end Mine
end
section
namespace Mine
/-- a prime, of naturals -/
def NPrm (p : Nat) : Prop := 1 < p ∧ ∀ d e : Nat, d * e = p → d = 1 ∨ e = 1
theorem NPrm.dvd {p d : Nat} (h : NPrm p) (hd : d ∣ p) : d = 1 ∨ d = p := by
  obtain ⟨e, he⟩ := hd
  rcases h.2 d e he.symm with h1 | h1
  · exact .inl h1
  · subst h1
    exact .inr (by omega)
theorem NPrm.cop {p a : Nat} (h : NPrm p) (ha : ¬ p ∣ a) : Nat.Coprime p a := by
  have hg := h.dvd (Nat.gcd_dvd_left p a)
  rcases hg with hg | hg
  · exact hg
  · exact absurd (hg ▸ Nat.gcd_dvd_right p a) ha
theorem NPrm.mul {p a b : Nat} (h : NPrm p) (hd : p ∣ a * b) : p ∣ a ∨ p ∣ b := by
  by_cases ha : p ∣ a
  · exact .inl ha
  · exact .inr ((h.cop ha).dvd_of_dvd_mul_left hd)
def prodL : List Nat → Nat
  | [] => 1
  | a :: l => a * prodL l
theorem prodL_perm {l l' : List Nat} (h : l.Perm l') : prodL l = prodL l' := by
  induction h with
  | nil => rfl
  | cons x _ ih => simp only [prodL, ih]
  | swap x y l => simp only [prodL, Nat.mul_left_comm]
  | trans _ _ h1 h2 => exact h1.trans h2
theorem prodL_map {p a : Nat} : ∀ l : List Nat, prodL (l.map fun k => a * k % p) % p = a ^ l.length * prodL l % p
  | [] => by simp [prodL]
  | x :: l => by
    have ih := prodL_map (p := p) (a := a) l
    simp only [List.map_cons, prodL, List.length_cons]
    rw [Nat.mul_mod, ih, Nat.mod_mod, ← Nat.mul_mod, Nat.pow_succ]
    congr 1
    simp only [Nat.mul_assoc, Nat.mul_left_comm, Nat.mul_comm]
theorem prodL_cop {p : Nat} (h : NPrm p) : ∀ l : List Nat, (∀ x ∈ l, 0 < x ∧ x < p) → ¬ p ∣ prodL l
  | [], _, hd => by
    have := Nat.le_of_dvd (by decide) hd
    have := h.1
    simp only [prodL] at *
    omega
  | x :: l, hl, hd => by
    rcases h.mul hd with h1 | h1
    · have hx := hl x (.head _)
      have := Nat.le_of_dvd hx.1 h1
      omega
    · exact prodL_cop h l (fun y hy => hl y (.tail _ hy)) h1
theorem NPrm.inj {p a x y : Nat} (h : NPrm p) (ha : ¬ p ∣ a) (hx : x < p) (hy : y < p) (hle : x ≤ y) (e : a * x % p = a * y % p) : x = y := by
  have h1 : p ∣ a * (y - x) := by
    rw [Nat.mul_sub]
    exact Nat.dvd_of_mod_eq_zero (Nat.sub_mod_eq_zero_of_mod_eq e.symm)
  rcases h.mul h1 with h2 | h2
  · exact absurd h2 ha
  · rcases Nat.eq_zero_or_pos (y - x) with h3 | h3
    · omega
    · have := Nat.le_of_dvd h3 h2
      omega
theorem flt {p a : Nat} (h : NPrm p) (ha : ¬ p ∣ a) : a ^ (p - 1) % p = 1 := by
  have h1 := h.1
  let l := (List.range (p - 1)).map (· + 1)
  have hl : ∀ x, x ∈ l ↔ 0 < x ∧ x < p := by
    intro x
    simp only [l, List.mem_map, List.mem_range]
    constructor
    · rintro ⟨k, hk, rfl⟩
      omega
    · rintro ⟨h1, h2⟩
      exact ⟨x - 1, by omega, by omega⟩
  have hnd : l.Nodup := by
    simp only [l]
    refine List.Pairwise.map _ (fun a b hab => ?_) List.nodup_range
    omega
  have hmap : ∀ x ∈ l, a * x % p ∈ l := by
    intro x hx
    have hx' := (hl x).mp hx
    refine (hl _).mpr ⟨?_, Nat.mod_lt _ (by omega)⟩
    rcases Nat.eq_zero_or_pos (a * x % p) with h0 | h0
    · rcases h.mul (Nat.dvd_of_mod_eq_zero h0) with h2 | h2
      · exact absurd h2 ha
      · have := Nat.le_of_dvd hx'.1 h2
        omega
    · exact h0
  have hnd2 : (l.map fun k => a * k % p).Nodup := by
    refine List.pairwise_map.mpr (hnd.imp_of_mem fun {x y} hx hy hne e => ?_)
    have hx' := (hl x).mp hx
    have hy' := (hl y).mp hy
    rcases Nat.le_total x y with hle | hle
    · exact hne (h.inj ha hx'.2 hy'.2 hle e)
    · exact hne (h.inj ha hy'.2 hx'.2 hle e.symm).symm
  have hperm : (l.map fun k => a * k % p).Perm l := by
    have hsub : (l.map fun k => a * k % p).Subset l := by
      intro x hx
      obtain ⟨k, hk, rfl⟩ := List.mem_map.mp hx
      exact hmap k hk
    refine (List.perm_ext_iff_of_nodup hnd2 hnd).mpr fun x => ⟨fun hx => hsub hx, fun hx => ?_⟩
    by_cases hm : x ∈ l.map fun k => a * k % p
    · exact hm
    · have h3 : (x :: l.map fun k => a * k % p).Nodup := List.nodup_cons.mpr ⟨hm, hnd2⟩
      have h4 := List.Nodup.length_le_of_subset h3 (l₂ := l) (by
        intro y hy
        rcases List.mem_cons.mp hy with rfl | hy
        · exact hx
        · exact hsub hy)
      simp only [List.length_cons, List.length_map] at h4
      omega
  have e := prodL_map (p := p) (a := a) l
  rw [prodL_perm hperm] at e
  have hc := prodL_cop h l fun x hx => (hl x).mp hx
  have hlen : l.length = p - 1 := by simp [l]
  rw [hlen] at e
  have hd : p ∣ prodL l * (a ^ (p - 1) - 1) := by
    have hp : 1 ≤ a ^ (p - 1) := Nat.pos_of_ne_zero fun h0 => by
      have h2 := Nat.pow_eq_zero.mp h0
      exact ha (h2.1 ▸ Nat.dvd_zero p)
    have h3 : prodL l * 1 % p = prodL l * a ^ (p - 1) % p := by
      rw [Nat.mul_one, e, Nat.mul_comm]
    rw [Nat.mul_sub]
    exact Nat.dvd_of_mod_eq_zero (Nat.sub_mod_eq_zero_of_mod_eq h3.symm)
  rcases h.mul hd with h2 | h2
  · exact absurd h2 hc
  · have hp : 1 ≤ a ^ (p - 1) := Nat.pos_of_ne_zero fun h0 => by
      have h2 := Nat.pow_eq_zero.mp h0
      exact ha (h2.1 ▸ Nat.dvd_zero p)
    obtain ⟨c, hc2⟩ := h2
    rw [show a ^ (p - 1) = 1 + p * c by omega, Nat.add_mul_mod_self_left]
    exact Nat.mod_eq_of_lt h1
theorem pow_mod_one {p b k : Nat} (h1 : 1 < p) (h : b % p = 1) : b ^ k % p = 1 := by
  rw [Nat.pow_mod, h, Nat.one_pow]
  exact Nat.mod_eq_of_lt h1
/-- an order's prime divides p - 1 -/
theorem ord_dvd {p q b : Nat} (hp : NPrm p) (hq : NPrm q) (hb : b ^ q % p = 1) (hb1 : ¬ b % p = 1) : q ∣ p - 1 := by
  have hp1 := hp.1
  have hq1 := hq.1
  by_cases hd : q ∣ p - 1
  · exact hd
  exfalso
  have hpb : ¬ p ∣ b := fun ⟨c, hc⟩ => by
    rw [hc, Nat.mul_pow, show q = (q - 1) + 1 by omega, Nat.pow_succ p, Nat.mul_assoc, Nat.mul_comm, Nat.mul_assoc, Nat.mul_mod_right] at hb
    cases hb
  have h1 := flt hq hd
  have h2 := flt hp hpb
  have h3 : b ^ ((p - 1) ^ (q - 1)) % p = 1 := by
    rw [show q - 1 = (q - 2) + 1 by omega, Nat.pow_succ, Nat.mul_comm, Nat.pow_mul]
    exact pow_mod_one hp1 h2
  have h4 : (p - 1) ^ (q - 1) = q * ((p - 1) ^ (q - 1) / q) + 1 := by
    have := Nat.div_add_mod ((p - 1) ^ (q - 1)) q
    omega
  rw [h4, Nat.pow_succ, Nat.pow_mul, Nat.mul_mod, pow_mod_one hp1 hb, Nat.one_mul, Nat.mod_mod] at h3
  exact hb1 h3
/-- a least divisor -/
theorem least {n : Nat} (h : 1 < n) : ∃ p, NPrm p ∧ p ∣ n := by
  induction n using Nat.strongRecOn with
  | ind n ih =>
    by_cases hp : NPrm n
    · exact ⟨n, hp, Nat.dvd_refl n⟩
    · have h2 : ∃ d e : Nat, d * e = n ∧ d ≠ 1 ∧ e ≠ 1 := by
        apply Classical.byContradiction
        intro hc
        refine hp ⟨h, fun d e he => ?_⟩
        by_cases hd : d = 1
        · exact .inl hd
        by_cases h3 : e = 1
        · exact .inr h3
        exact absurd ⟨d, e, he, hd, h3⟩ hc
      obtain ⟨d, e, he, hd, h3⟩ := h2
      have hd0 : d ≠ 0 := by
        rintro rfl
        omega
      have he0 : e ≠ 0 := by
        rintro rfl
        omega
      have hlt : d < n := by
        have : d * 1 < d * e := Nat.mul_lt_mul_of_pos_left (by omega) (by omega)
        omega
      obtain ⟨p, hp1, hp2⟩ := ih d hlt (by omega)
      exact ⟨p, hp1, Nat.dvd_trans hp2 ⟨e, he.symm⟩⟩
/-- all primes that divide n are large: n is a prime -/
theorem of_least {n B : Nat} (h1 : 1 < n) (hB : n < B * B) (h : ∀ p, NPrm p → p ∣ n → B ≤ p) : NPrm n := by
  refine ⟨h1, fun d e he => ?_⟩
  by_cases hd : d = 1
  · exact .inl hd
  by_cases h3 : e = 1
  · exact .inr h3
  exfalso
  have hd0 : d ≠ 0 := by
    rintro rfl
    omega
  have he0 : e ≠ 0 := by
    rintro rfl
    omega
  obtain ⟨p, p1, p2⟩ := least (n := d) (by omega)
  obtain ⟨r, r1, r2⟩ := least (n := e) (by omega)
  have a1 := h p p1 (Nat.dvd_trans p2 ⟨e, he.symm⟩)
  have a2 := h r r1 (Nat.dvd_trans r2 ⟨d, by rw [Nat.mul_comm]; exact he.symm⟩)
  have b1 := Nat.le_of_dvd (by omega) p2
  have b2 := Nat.le_of_dvd (by omega) r2
  have : B * B ≤ d * e := Nat.mul_le_mul (by omega) (by omega)
  omega
/-- Pocklington's step: each prime of n is 1 modulo q -/
theorem pock_dvd {n q a k : Nat} (h1 : 1 < n) (hq : NPrm q) (hk : q * k = n - 1) (ha : a ^ (n - 1) % n = 1) (hg : Nat.gcd (a ^ k % n + (n - 1)) n = 1) {p : Nat} (hp : NPrm p) (hd : p ∣ n) : q ∣ p - 1 := by
  have hp1 := hp.1
  refine ord_dvd (b := a ^ k) hp hq ?_ fun hb => ?_
  · rw [← Nat.pow_mul, Nat.mul_comm k q, hk]
    obtain ⟨c, hc⟩ := hd
    have := Nat.mod_mul_right_mod (a ^ (n - 1)) p c
    rw [← hc, ha] at this
    rw [← this]
    exact Nat.mod_eq_of_lt hp1
  · obtain ⟨c, hc⟩ := hd
    have h3 := Nat.mod_mul_right_mod (a ^ k) p c
    rw [← hc, hb] at h3
    have h4 : p ∣ a ^ k % n + (n - 1) := by
      have h5 := Nat.div_add_mod (a ^ k % n) p
      rw [h3] at h5
      refine ⟨a ^ k % n / p + c, ?_⟩
      rw [Nat.mul_add, ← hc]
      omega
    have h6 := Nat.dvd_gcd h4 (Nat.dvd_of_mod_eq_zero (by rw [hc, Nat.mul_mod_right]) : p ∣ n)
    rw [hg] at h6
    have := Nat.le_of_dvd (by decide) h6
    omega
end Mine
end
section
namespace Mine
def powm (n : Nat) : Nat → Nat → Nat → Nat
  | 0, _, _ => 1 % n
  | f + 1, a, e => bif e % 2 == 0 then powm n f (a * a % n) (e / 2) else a * powm n f (a * a % n) (e / 2) % n
theorem powm_eq {n : Nat} : ∀ (f a e : Nat), e < 2 ^ f → powm n f a e = a ^ e % n
  | 0, a, e, h => by
    have : e = 0 := by simpa using h
    subst this
    rfl
  | f + 1, a, e, h => by
    have ih := powm_eq (n := n) f (a * a % n) (e / 2) (by rw [Nat.pow_succ] at h; omega)
    have h2 : (a * a % n) ^ (e / 2) % n = (a * a) ^ (e / 2) % n := by rw [← Nat.pow_mod]
    have ih' : powm n f (a * a % n) (e / 2) = a ^ (2 * (e / 2)) % n := ih.trans (by rw [h2, Nat.pow_mul, Nat.pow_two])
    unfold powm
    rw [ih']
    have h3 := Nat.div_add_mod e 2
    rcases Nat.mod_two_eq_zero_or_one e with h0 | h0
    · rw [h0]
      simp only [beq_self_eq_true, cond_true]
      rw [show 2 * (e / 2) = e by omega]
    · rw [h0]
      simp only [show ((1 : Nat) == 0) = false from rfl, cond_false]
      have h4 : a ^ e = a * a ^ (2 * (e / 2)) := by
        rw [← Nat.pow_succ', show (2 * (e / 2)).succ = e by omega]
      rw [h4, Nat.mul_mod_mod]
def pchk (f n a k : Nat) : Bool := powm n f a (n - 1) == 1 && Nat.gcd (powm n f a k + (n - 1)) n == 1
theorem pchk_spec {f n q a k : Nat} (h1 : 1 < n) (hq : NPrm q) (hk : q * k = n - 1) (hf : n < 2 ^ f) (h : pchk f n a k = true) {p : Nat} (hp : NPrm p) (hd : p ∣ n) : q ∣ p - 1 := by
  unfold pchk at h
  rw [Bool.and_eq_true, beq_iff_eq, beq_iff_eq] at h
  have hkn : k ≤ n - 1 := by
    have := hq.1
    have : 1 * k ≤ q * k := Nat.mul_le_mul_right k (by omega)
    omega
  rw [powm_eq f a (n - 1) (by omega), powm_eq f a k (by omega)] at h
  exact pock_dvd h1 hq hk h.1 h.2 hp hd
theorem pock1 {f n q a k : Nat} (h1 : 1 < n) (hq : NPrm q) (hk : q * k = n - 1) (hf : n < 2 ^ f) (h : pchk f n a k = true) (hB : n < (q + 1) * (q + 1)) : NPrm n :=
  of_least h1 hB fun p hp hd => by
    have hp1 := hp.1
    have := Nat.le_of_dvd (by omega) (pchk_spec h1 hq hk hf h hp hd)
    omega
theorem NPrm.ne_cop {p q : Nat} (hp : NPrm p) (hq : NPrm q) (h : p ≠ q) : Nat.Coprime p q := hp.cop fun hd => by
  rcases hq.dvd hd with h1 | h1
  · have := hp.1
    omega
  · exact h h1
theorem pock2 {f n q r a b k l : Nat} (h1 : 1 < n) (hq : NPrm q) (hr : NPrm r) (hqr : q ≠ r) (hk : q * k = n - 1) (hl : r * l = n - 1) (hf : n < 2 ^ f) (h : pchk f n a k = true) (h' : pchk f n b l = true) (hB : n < (q * r + 1) * (q * r + 1)) : NPrm n :=
  of_least h1 hB fun p hp hd => by
    have h2 := (hq.ne_cop hr hqr).mul_dvd_of_dvd_of_dvd (pchk_spec h1 hq hk hf h hp hd) (pchk_spec h1 hr hl hf h' hp hd)
    have hp1 := hp.1
    have := Nat.le_of_dvd (by omega) h2
    omega
theorem pock3 {f n q r t a b c k l m : Nat} (h1 : 1 < n) (hq : NPrm q) (hr : NPrm r) (ht : NPrm t) (hqr : q ≠ r) (hqt : q ≠ t) (hrt : r ≠ t) (hk : q * k = n - 1) (hl : r * l = n - 1) (hm : t * m = n - 1) (hf : n < 2 ^ f)
    (h : pchk f n a k = true) (h' : pchk f n b l = true) (h'' : pchk f n c m = true) (hB : n < (q * r * t + 1) * (q * r * t + 1)) : NPrm n :=
  of_least h1 hB fun p hp hd => by
    have h2 := (hq.ne_cop hr hqr).mul_dvd_of_dvd_of_dvd (pchk_spec h1 hq hk hf h hp hd) (pchk_spec h1 hr hl hf h' hp hd)
    have h3 := (Nat.Coprime.mul_left (hq.ne_cop ht hqt) (hr.ne_cop ht hrt)).mul_dvd_of_dvd_of_dvd h2 (pchk_spec h1 ht hm hf h'' hp hd)
    have hp1 := hp.1
    have := Nat.le_of_dvd (by omega) h3
    omega
def trial (n : Nat) : Nat → Bool
  | 0 => true
  | d + 1 => (d == 0 || n % (d + 1) != 0) && trial n d
theorem trial_spec {n : Nat} : ∀ (B : Nat), trial n B = true → ∀ d, 1 < d → d ≤ B → ¬ d ∣ n
  | 0, _, d, h1, h2, _ => by omega
  | B + 1, h, d, h1, h2, hd => by
    unfold trial at h
    rw [Bool.and_eq_true, Bool.or_eq_true, beq_iff_eq, bne_iff_ne] at h
    rcases Nat.lt_or_ge B d with h3 | h3
    · have : d = B + 1 := by omega
      subst this
      rcases h.1 with h4 | h4
      · omega
      · exact h4 (Nat.mod_eq_zero_of_dvd hd)
    · exact trial_spec B h.2 d h1 h3 hd
theorem of_trial {n B : Nat} (h1 : 1 < n) (hB : n < (B + 1) * (B + 1)) (h : trial n B = true) : NPrm n :=
  of_least h1 hB fun p hp hd => by
    rcases Nat.lt_or_ge B p with h2 | h2
    · omega
    · exact absurd hd (trial_spec B h p hp.1 h2)
theorem g1 : NPrm 421987 := of_trial (B := 700) (by decide) (by decide) (by decide +kernel)
theorem g2 : NPrm 755057 := of_trial (B := 900) (by decide) (by decide) (by decide +kernel)
theorem g3 : NPrm 1853641 := of_trial (B := 1400) (by decide) (by decide) (by decide +kernel)
theorem g4 : NPrm 4562087 := of_trial (B := 2200) (by decide) (by decide) (by decide +kernel)
theorem g5 : NPrm 13327 := of_trial (B := 120) (by decide) (by decide) (by decide +kernel)
theorem g6 : NPrm 173171039 := pock1 (f := 40) (a := 2) (k := 12994) (by decide) g5 (by decide) (by decide +kernel) (by decide +kernel) (by decide +kernel)
theorem g7 : NPrm 13090036741 := pock1 (f := 40) (a := 2) (k := 31020) (by decide) g1 (by decide) (by decide +kernel) (by decide +kernel) (by decide +kernel)
theorem g8 : NPrm 3819663927398918131021 := pock2 (f := 80) (a := 2) (b := 2) (k := 291799328220) (l := 5058775598926860) (by decide +kernel) g7 g2 (by decide +kernel) (by decide +kernel) (by decide +kernel) (by decide +kernel) (by decide +kernel) (by decide +kernel) (by decide +kernel)
theorem g9 : NPrm 1125266252156850182658904441386709967 := pock1 (f := 130) (a := 2) (k := 294598235223046) (by decide +kernel) g8 (by decide +kernel) (by decide +kernel) (by decide +kernel) (by decide +kernel)
theorem g10 : NPrm 15778400344354997994418419698270088123916926905054652752758194827714659 := pock1 (f := 240) (a := 2) (k := 14021926201120671579994175730661374) (by decide +kernel) g9 (by decide +kernel) (by decide +kernel) (by decide +kernel) (by decide +kernel)
theorem gP1 : NPrm 4002409555221667393417789825735904156556882819939007885332058136124031650490837864442687629129015664037894272559787 := pock1 (f := 390) (a := 2) (k := 253663835868735594330404923636534084567099854) (by decide +kernel) g10 (by decide +kernel) (by decide +kernel) (by decide +kernel) (by decide +kernel)
theorem g11 : NPrm 13427688667394608761327070753331941386769 := pock3 (f := 140) (a := 2) (b := 2) (c := 2) (k := 7243953207441251440449941899932048) (l := 2943321481461140210900640595703664) (m := 77540036399473290457806115913712) (by decide +kernel) g3 g4 g6 (by decide) (by decide) (by decide) (by decide +kernel) (by decide +kernel) (by decide +kernel) (by decide +kernel) (by decide +kernel) (by decide +kernel) (by decide +kernel) (by decide +kernel)
theorem gP2 : NPrm 21888242871839275222246405745257275088696311157297823662689037894645226208583 := pock1 (f := 260) (a := 2) (k := 1630082690626329392154177744477557478) (by decide +kernel) g11 (by decide +kernel) (by decide +kernel) (by decide +kernel) (by decide +kernel)
end Mine
end
section
namespace Mine
open Lean.Grind
section
variable {R : Type} [CommRing R]
theorem sub0 {a b : R} (h : a - b = 0) : a = b := by grind
theorem i_dbl_on (x y c m : R) : (m * (x - (m * m - x - x)) - y) * (m * (x - (m * m - x - x)) - y) - ((m * m - x - x) * (m * m - x - x) * (m * m - x - x) + c) = (y * y - (x * x * x + c)) - (x - (m * m - x - x)) * (m * (2 * y) - 3 * x * x) := by grind
theorem r_dbl_on {x y c m x3 y3 : R} (h : y * y = x * x * x + c) (hm : m * (2 * y) = 3 * x * x) (hx : x3 = m * m - x - x) (hy : y3 = m * (x - x3) - y) : y3 * y3 = x3 * x3 * x3 + c := by
  subst hx hy
  refine sub0 ((i_dbl_on x y c m).trans ?_)
  rw [h, hm]
  clear h hm
  grind
theorem i_add1 (x1 x2 y1 m : R) : (x2 * x2 + x2 * x1 + x1 * x1 - m * m * (x2 - x1) - 2 * m * y1) * (x2 - x1) = (x2 * x2 * x2 - x1 * x1 * x1) - (m * (x2 - x1)) * (m * (x2 - x1)) - 2 * y1 * (m * (x2 - x1)) := by grind
theorem i_add2 (x1 x2 y1 y2 : R) : (x2 * x2 * x2 - x1 * x1 * x1) - (y2 - y1) * (y2 - y1) - 2 * y1 * (y2 - y1) = (x2 * x2 * x2 - y2 * y2) - (x1 * x1 * x1 - y1 * y1) := by grind
theorem i_add3 (x1 x2 y1 c m : R) : (m * (x1 - (m * m - x1 - x2)) - y1) * (m * (x1 - (m * m - x1 - x2)) - y1) - ((m * m - x1 - x2) * (m * m - x1 - x2) * (m * m - x1 - x2) + c) = (y1 * y1 - (x1 * x1 * x1 + c)) - ((m * m - x1 - x2) - x1) * (x2 * x2 + x2 * x1 + x1 * x1 - m * m * (x2 - x1) - 2 * m * y1) := by grind
theorem r_add_on {x1 y1 x2 y2 c m x3 y3 i : R} (h1 : y1 * y1 = x1 * x1 * x1 + c) (h2 : y2 * y2 = x2 * x2 * x2 + c) (hm : m * (x2 - x1) = y2 - y1) (hi : (x2 - x1) * i = 1) (hx : x3 = m * m - x1 - x2) (hy : y3 = m * (x1 - x3) - y1) : y3 * y3 = x3 * x3 * x3 + c := by
  have g0 : (x2 * x2 + x2 * x1 + x1 * x1 - m * m * (x2 - x1) - 2 * m * y1) * (x2 - x1) = 0 := by
    rw [i_add1, hm, i_add2, h1, h2]
    clear h1 h2 hm hi hx hy
    grind
  have g1 : x2 * x2 + x2 * x1 + x1 * x1 - m * m * (x2 - x1) - 2 * m * y1 = 0 := by
    generalize x2 * x2 + x2 * x1 + x1 * x1 - m * m * (x2 - x1) - 2 * m * y1 = g at g0
    generalize x2 - x1 = d at g0 hi
    clear h1 h2 hm hx hy
    grind
  subst hx hy
  refine sub0 ((i_add3 x1 x2 y1 c m).trans ?_)
  rw [g1, h1]
  clear g0 g1 h1 h2 hm hi
  grind
theorem can {a b d i : R} (h : d * a = d * b) (hi : d * i = 1) : a = b := by
  have e : i * (d * a) = i * (d * b) := by rw [h]
  have e1 : i * (d * a) = (d * i) * a := by clear h hi e; grind
  have e2 : i * (d * b) = (d * i) * b := by clear h hi e e1; grind
  rw [e1, e2, hi] at e
  clear h hi e1 e2
  grind
theorem i_dblX (p q z m : R) : (m * m - p - p) * (q * z * z * 8 * (q * z * z * (q * z * z))) - (p * z * 3 * (p * z) * (p * z * 3 * (p * z)) - p * z * (q * z) * (q * z * z) * 8) * 2 * (q * z * z) = (m * (2 * q) - 3 * p * p) * (2 * q * z * z * z * z * z * z * (m * (2 * q) + 3 * p * p)) := by grind
theorem i_dblY (p q z m : R) : (m * (p - (m * m - p - p)) - q) * (q * z * z * 8 * (q * z * z * (q * z * z))) - ((p * z * 3 * (p * z)) * (p * z * (q * z) * (q * z * z) * 4 - (p * z * 3 * (p * z) * (p * z * 3 * (p * z)) - p * z * (q * z) * (q * z * z) * 8)) - q * z * 8 * (q * z) * (q * z * z * (q * z * z)))
    = (m * (2 * q) - 3 * p * p) * (z * z * z * z * z * z * (12 * p * q * q - (m * (2 * q)) * (m * (2 * q)) - (m * (2 * q)) * (3 * p * p) - (3 * p * p) * (3 * p * p))) := by grind
theorem r_dblO {p q z m x y x3 y3 : R} (hx : x = p * z) (hy : y = q * z) (hm : m * (2 * q) = 3 * p * p) (hx3 : x3 = m * m - p - p) (hy3 : y3 = m * (p - x3) - q) :
    x3 * (y * z * 8 * (y * z * (y * z))) = (x * 3 * x * (x * 3 * x) - x * y * (y * z) * 8) * 2 * (y * z) ∧ y3 * (y * z * 8 * (y * z * (y * z))) = (x * 3 * x) * (x * y * (y * z) * 4 - (x * 3 * x * (x * 3 * x) - x * y * (y * z) * 8)) - y * 8 * y * (y * z * (y * z)) := by
  subst hx hy hx3 hy3
  constructor
  · refine sub0 ((i_dblX p q z m).trans ?_)
    rw [hm]
    clear hm
    grind
  · refine sub0 ((i_dblY p q z m).trans ?_)
    rw [hm]
    clear hm
    grind
theorem i_addX (p1 q1 z1 p2 z2 m : R) : (m * m - p1 - p2) * ((p2 * z2 * z1 - p1 * z1 * z2) * ((p2 * z2 * z1 - p1 * z1 * z2) * (p2 * z2 * z1 - p1 * z1 * z2)) * (z1 * z2)) = (p2 * z2 * z1 - p1 * z1 * z2) * (((((q1 + m * (p2 - p1)) * z2 * z1 - q1 * z1 * z2) * ((q1 + m * (p2 - p1)) * z2 * z1 - q1 * z1 * z2)) * (z1 * z2) - (p2 * z2 * z1 - p1 * z1 * z2) * ((p2 * z2 * z1 - p1 * z1 * z2) * (p2 * z2 * z1 - p1 * z1 * z2))) - (p2 * z2 * z1 - p1 * z1 * z2) * (p2 * z2 * z1 - p1 * z1 * z2) * (p1 * z1 * z2) * 2) := by grind
theorem i_addY (p1 q1 z1 p2 z2 m : R) : (m * (p1 - (m * m - p1 - p2)) - q1) * ((p2 * z2 * z1 - p1 * z1 * z2) * ((p2 * z2 * z1 - p1 * z1 * z2) * (p2 * z2 * z1 - p1 * z1 * z2)) * (z1 * z2)) = ((q1 + m * (p2 - p1)) * z2 * z1 - q1 * z1 * z2) * ((p2 * z2 * z1 - p1 * z1 * z2) * (p2 * z2 * z1 - p1 * z1 * z2) * (p1 * z1 * z2) - (((((q1 + m * (p2 - p1)) * z2 * z1 - q1 * z1 * z2) * ((q1 + m * (p2 - p1)) * z2 * z1 - q1 * z1 * z2)) * (z1 * z2) - (p2 * z2 * z1 - p1 * z1 * z2) * ((p2 * z2 * z1 - p1 * z1 * z2) * (p2 * z2 * z1 - p1 * z1 * z2))) - (p2 * z2 * z1 - p1 * z1 * z2) * (p2 * z2 * z1 - p1 * z1 * z2) * (p1 * z1 * z2) * 2)) - (p2 * z2 * z1 - p1 * z1 * z2) * ((p2 * z2 * z1 - p1 * z1 * z2) * (p2 * z2 * z1 - p1 * z1 * z2)) * (q1 * z1 * z2) := by grind
theorem r_addO {p1 q1 z1 p2 q2 z2 m x1 y1 x2 y2 x3 y3 : R} (hx1 : x1 = p1 * z1) (hy1 : y1 = q1 * z1) (hx2 : x2 = p2 * z2) (hy2 : y2 = q2 * z2) (hm : m * (p2 - p1) = q2 - q1) (hx3 : x3 = m * m - p1 - p2) (hy3 : y3 = m * (p1 - x3) - q1) :
    x3 * ((x2 * z1 - x1 * z2) * ((x2 * z1 - x1 * z2) * (x2 * z1 - x1 * z2)) * (z1 * z2)) = (x2 * z1 - x1 * z2) * ((((y2 * z1 - y1 * z2) * (y2 * z1 - y1 * z2)) * (z1 * z2) - (x2 * z1 - x1 * z2) * ((x2 * z1 - x1 * z2) * (x2 * z1 - x1 * z2))) - (x2 * z1 - x1 * z2) * (x2 * z1 - x1 * z2) * (x1 * z2) * 2) ∧
    y3 * ((x2 * z1 - x1 * z2) * ((x2 * z1 - x1 * z2) * (x2 * z1 - x1 * z2)) * (z1 * z2)) = (y2 * z1 - y1 * z2) * ((x2 * z1 - x1 * z2) * (x2 * z1 - x1 * z2) * (x1 * z2) - ((((y2 * z1 - y1 * z2) * (y2 * z1 - y1 * z2)) * (z1 * z2) - (x2 * z1 - x1 * z2) * ((x2 * z1 - x1 * z2) * (x2 * z1 - x1 * z2))) - (x2 * z1 - x1 * z2) * (x2 * z1 - x1 * z2) * (x1 * z2) * 2)) - (x2 * z1 - x1 * z2) * ((x2 * z1 - x1 * z2) * (x2 * z1 - x1 * z2)) * (y1 * z2) := by
  have hq : q2 = q1 + m * (p2 - p1) := by
    rw [hm]
    clear hx1 hy1 hx2 hy2 hm hx3 hy3
    grind
  subst hx1 hy1 hx2 hy2 hx3 hy3 hq
  exact ⟨i_addX p1 q1 z1 p2 z2 m, i_addY p1 q1 z1 p2 z2 m⟩
/-- three and one is two and two -/
theorem r_four {x y t x2 y2 u x3 y3 v x4 y4 s X4 Y4 i2 i3 : R} (ht : t * (2 * y) = 3 * x * x) (hx2 : x2 = t * t - x - x) (hy2 : y2 = t * (x - x2) - y)
    (hu : u * (x - x2) = y - y2) (hx3 : x3 = u * u - x2 - x) (hy3 : y3 = u * (x2 - x3) - y2)
    (hv : v * (x - x3) = y - y3) (hx4 : x4 = v * v - x3 - x) (hy4 : y4 = v * (x3 - x4) - y3)
    (hs : s * (2 * y2) = 3 * x2 * x2) (hX4 : X4 = s * s - x2 - x2) (hY4 : Y4 = s * (x2 - X4) - y2)
    (h2 : (2 * y2) * i2 = 1) (h3 : (x - x3) * i3 = 1) : x4 = X4 ∧ y4 = Y4 := by
  have a1 : y = y2 - u * (x2 - x) := by
    have : u * (x - x2) = - (u * (x2 - x)) := by clear ht hx2 hy2 hu hx3 hy3 hv hx4 hy4 hs hX4 hY4 h2 h3; grind
    rw [this] at hu
    clear ht hx2 hy2 hx3 hy3 hv hx4 hy4 hs hX4 hY4 h2 h3 this
    generalize u * (x2 - x) = k at *
    grind
  have a2 : 2 * y2 = (u - t) * (x2 - x) := by
    clear ht hx2 hu hx3 hy3 hv hx4 hy4 hs hX4 hY4 h2 h3
    subst a1
    grind
  have a3 : 2 * y = - ((u + t) * (x2 - x)) := by
    clear ht hx2 hu hx3 hy3 hv hx4 hy4 hs hX4 hY4 h2 h3 hy2
    subst a1
    have : 2 * (y2 - u * (x2 - x)) = 2 * y2 - 2 * (u * (x2 - x)) := by clear a2; grind
    rw [this, a2]
    clear a2 this
    grind
  have a4 : t * t = x2 + x + x := by
    clear ht hy2 hu hx3 hy3 hv hx4 hy4 hs hX4 hY4 h2 h3 a1 a2 a3
    grind
  have a5 : x3 - x = (u - t) * (u + t) := by
    have : (u - t) * (u + t) = u * u - t * t := by clear ht hx2 hy2 hu hx3 hy3 hv hx4 hy4 hs hX4 hY4 h2 h3 a1 a2 a3 a4; grind
    rw [this, a4, hx3]
    clear ht hx2 hy2 hu hx3 hy3 hv hx4 hy4 hs hX4 hY4 h2 h3 a1 a2 a3 a4 this
    grind
  have a6 : y - y3 = 2 * y - u * (x - x3) := by
    rw [hy3, a1]
    clear ht hx2 hy2 hu hx3 hy3 hv hx4 hy4 hs hX4 hY4 h2 h3 a1 a2 a3 a4 a5
    grind
  have b1 : (u - t) * v = (x2 - x) - u * (u - t) := by
    refine can (d := x - x3) (i := i3) ?_ h3
    have e1 : (x - x3) * ((u - t) * v) = (u - t) * (v * (x - x3)) := by clear ht hx2 hy2 hu hx3 hy3 hv hx4 hy4 hs hX4 hY4 h2 h3 a1 a2 a3 a4 a5 a6; grind
    rw [e1, hv, a6, a3]
    have e2 : (x - x3) = - (x3 - x) := by clear e1 ht hx2 hy2 hu hx3 hy3 hv hx4 hy4 hs hX4 hY4 h2 h3 a1 a2 a3 a4 a5 a6; grind
    rw [e2, a5]
    clear e1 e2 ht hx2 hy2 hu hx3 hy3 hv hx4 hy4 hs hX4 hY4 h2 h3 a1 a2 a3 a4 a5 a6
    grind
  have c1 : 3 * x2 * x2 = (x2 - x) * ((x2 - x) - t * (u - t)) := by
    have e1 : 3 * x2 * x2 = 3 * x * x + 6 * x * (x2 - x) + 3 * ((x2 - x) * (x2 - x)) := by clear b1 ht hx2 hy2 hu hx3 hy3 hv hx4 hy4 hs hX4 hY4 h2 h3 a1 a2 a3 a4 a5 a6; grind
    rw [e1, ← ht, a3]
    have e2 : t * -((u + t) * (x2 - x)) + 6 * x * (x2 - x) + 3 * ((x2 - x) * (x2 - x)) = (x2 - x) * (- (t * u) - (t * t) + 3 * x + 3 * x2) := by clear e1 b1 ht hx2 hy2 hu hx3 hy3 hv hx4 hy4 hs hX4 hY4 h2 h3 a1 a2 a3 a4 a5 a6; grind
    have e3 : (x2 - x) * ((x2 - x) - t * (u - t)) = (x2 - x) * (x2 - x - t * u + t * t) := by clear e1 e2 b1 ht hx2 hy2 hu hx3 hy3 hv hx4 hy4 hs hX4 hY4 h2 h3 a1 a2 a3 a4 a5 a6; grind
    rw [e2, e3, a4]
    clear e1 e2 e3 b1 ht hx2 hy2 hu hx3 hy3 hv hx4 hy4 hs hX4 hY4 h2 h3 a1 a2 a3 a4 a5 a6
    grind
  have b2 : (u - t) * s = (x2 - x) - t * (u - t) := by
    refine can (d := 2 * y2) (i := i2) ?_ h2
    have e1 : 2 * y2 * ((u - t) * s) = (u - t) * (s * (2 * y2)) := by clear c1 b1 ht hx2 hy2 hu hx3 hy3 hv hx4 hy4 hs hX4 hY4 h2 h3 a1 a2 a3 a4 a5 a6; grind
    rw [e1, hs, c1, a2]
    clear e1 c1 b1 ht hx2 hy2 hu hx3 hy3 hv hx4 hy4 hs hX4 hY4 h2 h3 a1 a2 a3 a4 a5 a6
    grind
  have hv' : v = s - (u - t) := by
    refine can (d := u - t) (i := (x2 - x) * i2) ?_ ?_
    · rw [b1]
      have e1 : (u - t) * (s - (u - t)) = (u - t) * s - (u - t) * (u - t) := by clear c1 b1 b2 ht hx2 hy2 hu hx3 hy3 hv hx4 hy4 hs hX4 hY4 h2 h3 a1 a2 a3 a4 a5 a6; grind
      rw [e1, b2]
      clear e1 c1 b1 b2 ht hx2 hy2 hu hx3 hy3 hv hx4 hy4 hs hX4 hY4 h2 h3 a1 a2 a3 a4 a5 a6
      grind
    · rw [a2] at h2
      clear c1 b1 b2 ht hx2 hy2 hu hx3 hy3 hv hx4 hy4 hs hX4 hY4 h3 a1 a2 a3 a4 a5 a6
      have e1 : (u - t) * ((x2 - x) * i2) = (u - t) * (x2 - x) * i2 := by clear h2; grind
      rw [e1, h2]
  have hX : x4 = X4 := by
    rw [hx4, hX4, hv', hx3]
    have e1 : (s - (u - t)) * (s - (u - t)) - (u * u - x2 - x) - x = s * s - 2 * ((u - t) * s) + (t * t) - 2 * (u * t) + x2 := by clear c1 b1 b2 hv' ht hx2 hy2 hu hx3 hy3 hv hx4 hy4 hs hX4 hY4 h2 h3 a1 a2 a3 a4 a5 a6; grind
    rw [e1, b2]
    have e2 : s * s - 2 * ((x2 - x) - t * (u - t)) + (t * t) - 2 * (u * t) + x2 = s * s - x2 + 2 * x - t * t := by clear e1 c1 b1 b2 hv' ht hx2 hy2 hu hx3 hy3 hv hx4 hy4 hs hX4 hY4 h2 h3 a1 a2 a3 a4 a5 a6; grind
    rw [e2, a4]
    clear e1 e2 c1 b1 b2 hv' ht hx2 hy2 hu hx3 hy3 hv hx4 hy4 hs hX4 hY4 h2 h3 a1 a2 a3 a4 a5 a6
    grind
  refine ⟨hX, ?_⟩
  have d1 : y4 = v * (x - x4) - y := by
    have e1 : y4 = v * (x - x4) - v * (x - x3) - y3 := by
      rw [hy4]
      clear hX c1 b1 b2 hv' ht hx2 hy2 hu hx3 hy3 hv hx4 hy4 hs hX4 hY4 h2 h3 a1 a2 a3 a4 a5 a6
      grind
    rw [e1, hv]
    clear e1 hX c1 b1 b2 hv' ht hx2 hy2 hu hx3 hy3 hv hx4 hy4 hs hX4 hY4 h2 h3 a1 a2 a3 a4 a5 a6
    grind
  rw [d1, hY4, hX, hv', a1]
  refine sub0 ?_
  have e1 : (s - (u - t)) * (x - X4) - (y2 - u * (x2 - x)) - (s * (x2 - X4) - y2) = (u - t) * X4 - s * (x2 - x) - (u - t) * x + u * (x2 - x) := by clear d1 hX c1 b1 b2 hv' ht hx2 hy2 hu hx3 hy3 hv hx4 hy4 hs hX4 hY4 h2 h3 a1 a2 a3 a4 a5 a6; grind
  rw [e1, hX4]
  have e2 : (u - t) * (s * s - x2 - x2) - s * (x2 - x) - (u - t) * x + u * (x2 - x) = ((u - t) * s) * s - s * (x2 - x) - (u - t) * (2 * x2 + x) + u * (x2 - x) := by clear e1 d1 hX c1 b1 b2 hv' ht hx2 hy2 hu hx3 hy3 hv hx4 hy4 hs hX4 hY4 h2 h3 a1 a2 a3 a4 a5 a6; grind
  rw [e2, b2]
  have e3 : (x2 - x - t * (u - t)) * s - s * (x2 - x) - (u - t) * (2 * x2 + x) + u * (x2 - x) = - (t * ((u - t) * s)) - (u - t) * (2 * x2 + x) + u * (x2 - x) := by clear e1 e2 d1 hX c1 b1 b2 hv' ht hx2 hy2 hu hx3 hy3 hv hx4 hy4 hs hX4 hY4 h2 h3 a1 a2 a3 a4 a5 a6; grind
  rw [e3, b2]
  have e4 : - (t * (x2 - x - t * (u - t))) - (u - t) * (2 * x2 + x) + u * (x2 - x) = (u - t) * (t * t) - t * (x2 - x) - (u - t) * (2 * x2 + x) + u * (x2 - x) := by clear e1 e2 e3 d1 hX c1 b1 b2 hv' ht hx2 hy2 hu hx3 hy3 hv hx4 hy4 hs hX4 hY4 h2 h3 a1 a2 a3 a4 a5 a6; grind
  rw [e4, a4]
  clear e1 e2 e3 e4 d1 hX c1 b1 b2 hv' ht hx2 hy2 hu hx3 hy3 hv hx4 hy4 hs hX4 hY4 h2 h3 a1 a2 a3 a4 a5 a6
  grind
end
end Mine
end
section
open PySem PySem.W PyProof.Rows PySem.Calls PySem.Spec
namespace Mine
abbrev fqDict (w : World) (P n : Int) (t1 t2 t3 t4 : Tok) : Obj :=
  dictOf [⟨PyData.keyHash w.params (Str.ofString "field_modulus"), .str (Str.ofString "field_modulus") t1, .int P t2⟩, ⟨PyData.keyHash w.params (Str.ofString "n"), .str (Str.ofString "n") t3, .int n t4⟩] 2
/-- a ledger within another -/
def Sub (l l' : List (Addr × Obj)) : Prop := ∀ p ∈ l, p ∈ l'
theorem Sub.refl {l : List (Addr × Obj)} : Sub l l := fun _ h => h
theorem Sub.trans {l l' l'' : List (Addr × Obj)} (a : Sub l l') (b : Sub l' l'') : Sub l l'' := fun p h => b p (a p h)
theorem Sub.one {l : List (Addr × Obj)} {q : Addr × Obj} : Sub l (q :: l) := fun p h => .tail _ h
theorem Sub.app {l t : List (Addr × Obj)} : Sub l (t ++ l) := fun p h => List.mem_append.mpr (.inr h)
theorem Sub.from {l l' l'' : List (Addr × Obj)} (b : Sub l' l'') (a : Sub l l') : Sub l l'' := a.trans b
theorem Sub.tail {l l' : List (Addr × Obj)} {q : Addr × Obj} (a : Sub l l') : Sub l (q :: l') := fun p h => .tail _ (a p h)
theorem Sub.drop {h₀ h : Heap} {L : Addr} {l l' : List (Addr × Obj)} (a : Sub l l') (N : News h₀ L h l') : News h₀ L h l := fun p hp => N p (a p hp)
/-- an object of the field's class C over P that holds n, borne by the ledger -/
inductive FqIn (w : World) (C : Addr) (P : Int) (news : List (Addr × Obj)) : Value → Int → Prop
  | mk {x dx : Addr} {n : Int} {t1 t2 t3 t4 : Tok} : (x, instObj C dx) ∈ news → (dx, fqDict w P n t1 t2 t3 t4) ∈ news → 0 ≤ n → n < P → FqIn w C P news (.ref x) n
theorem FqIn.mono {w : World} {C : Addr} {P : Int} {news news' : List (Addr × Obj)} {v : Value} {n : Int} (h : FqIn w C P news v n) (hs : ∀ p ∈ news, p ∈ news') : FqIn w C P news' v n := by
  cases h with
  | mk a b c d => exact .mk (hs _ a) (hs _ b) c d
theorem FqIn.up {w : World} {C : Addr} {P : Int} {l l' : List (Addr × Obj)} {v : Value} {n : Int} (hs : Sub l l') (h : FqIn w C P l v n) : FqIn w C P l' v n := h.mono hs
theorem FqIn.tail {w : World} {C : Addr} {P : Int} {q : Addr × Obj} {news : List (Addr × Obj)} {v : Value} {n : Int} (h : FqIn w C P news v n) : FqIn w C P (q :: news) v n := h.mono fun _ h => .tail _ h
theorem FqIn.ref {w : World} {C : Addr} {P : Int} {news : List (Addr × Obj)} {v : Value} {n : Int} (h : FqIn w C P news v n) : ∃ x, v = .ref x := by
  cases h with
  | mk a b c d => exact ⟨_, rfl⟩
theorem FqIn.lo {w : World} {C : Addr} {P : Int} {news : List (Addr × Obj)} {v : Value} {n : Int} (h : FqIn w C P news v n) : 0 ≤ n := by
  cases h with
  | mk a b c d => exact c
theorem FqIn.hi {w : World} {C : Addr} {P : Int} {news : List (Addr × Obj)} {v : Value} {n : Int} (h : FqIn w C P news v n) : n < P := by
  cases h with
  | mk a b c d => exact d
def BIG : Int := 2 ^ 400
theorem bitsB {a P : Int} (hB : P < BIG) (ha : 0 ≤ a) (ha' : a < P) : Builtin.Int.intBits a ≤ 400 := by
  refine intBits_le ?_
  have h2 : a < 2 ^ 400 := Int.lt_trans ha' hB
  have h3 : ((a.natAbs : Nat) : Int) < ((2 ^ 400 : Nat) : Int) := by
    rw [Int.natAbs_of_nonneg ha]
    exact h2
  exact Int.ofNat_lt.mp h3
theorem mulOkB {a b P : Int} (hB : P < BIG) (ha : 0 ≤ a) (ha' : a < P) (hb : 0 ≤ b) (hb' : b < P) : IntMulOk a b :=
  IntMulOk.of_bits (Nat.le_trans (bitsB hB ha ha') (by decide)) (Nat.le_trans (bitsB hB hb hb') (by decide))
theorem ltBig {k : Int} (h : k < 1000) : k < BIG := Int.lt_trans h (by unfold BIG; decide)
theorem mulOkK {a k P : Int} (hB : P < BIG) (ha : 0 ≤ a) (ha' : a < P) (hb : 0 ≤ k) (hb' : k < BIG) : IntMulOk a k :=
  IntMulOk.of_bits (Nat.le_trans (bitsB hB ha ha') (by decide)) (Nat.le_trans (intBits_le (k := 400) (by
    have h2 : k < 2 ^ 400 := hb'
    have h3 : ((k.natAbs : Nat) : Int) < ((2 ^ 400 : Nat) : Int) := by
      rw [Int.natAbs_of_nonneg hb]
      exact h2
    exact Int.ofNat_lt.mp h3)) (by decide))
abbrev RetFq (w : World) (C : Addr) (P : Int) (h₀ : Heap) (L : Addr) (m : Str → Option Value) (news : List (Addr × Obj)) (s : Shared) (Q : Value → Shared → Prop) (n : Int) : Prop :=
  ∀ (x : Addr) l h' tk', Fr h₀ L h' m → News h₀ L h' l → Sub news l → FqIn w C P l (.ref x) n → Q (.ref x) { s with heap := h', toks := tk' }
abbrev RetV (h₀ : Heap) (L : Addr) (m : Str → Option Value) (news : List (Addr × Obj)) (s : Shared) (Q : Value → Shared → Prop) (v : Tok → Value) : Prop :=
  ∀ h' tk' t, Fr h₀ L h' m → News h₀ L h' news → Q (v t) { s with heap := h', toks := tk' }
theorem mulOkA {a b P : Int} (hB : P < BIG) (ha : -P ≤ a) (ha' : a ≤ P) (hb : -P ≤ b) (hb' : b ≤ P) : IntMulOk a b := by
  have h : ∀ x : Int, -P ≤ x → x ≤ P → Builtin.Int.intBits x ≤ 400 := fun x h0 h1 => by
    refine intBits_le ?_
    have h2 : P < 2 ^ 400 := hB
    have h3 : ((x.natAbs : Nat) : Int) < ((2 ^ 400 : Nat) : Int) := by
      refine Int.lt_of_le_of_lt ?_ h2
      omega
    exact Int.ofNat_lt.mp h3
  exact IntMulOk.of_bits (Nat.le_trans (h a ha ha') (by decide)) (Nat.le_trans (h b hb hb') (by decide))
theorem noPylB {a b P : Int} (hB : P < BIG) (hb : -P ≤ b) (hb' : b ≤ P) : Builtin.divisionGoesByPylong a b = false := by
  refine PyProof.noPylong_of_log2 ?_
  by_cases h0 : b.natAbs = 0
  · rw [h0]
    decide +kernel
  · have h2 : P < 2 ^ 400 := hB
    have h3 : ((b.natAbs : Nat) : Int) < ((2 ^ 400 : Nat) : Int) := by
      refine Int.lt_of_le_of_lt ?_ h2
      omega
    have h4 : b.natAbs.log2 < 400 := (Nat.log2_lt h0).mpr (Int.ofNat_lt.mp h3)
    omega
theorem room0 {x d R : Nat} (h : x + d < R) : x < R := Nat.lt_of_le_of_lt (Nat.le_add_right x d) h
theorem room1 {x k d R : Nat} (h : x + d < R) (e : Nat.ble k d = true) : x + k < R := Nat.lt_of_le_of_lt (Nat.add_le_add_left (Nat.le_of_ble_eq_true e) x) h
theorem room2 {x a k d R : Nat} (h : x + d < R) (e : Nat.ble (a + k) d = true) : x + a + k < R := Nat.add_assoc x a k ▸ room1 h e
theorem room3 {x a b k d R : Nat} (h : x + d < R) (e : Nat.ble (a + b + k) d = true) : x + a + b + k < R := by
  have h2 := room1 h e
  omega
theorem noE {α : Type} {M : Model} {A : Around} {tree : Sem α} {Q : α → Shared → Prop} {E : Value → Shared → Prop} {s : Shared} (h : wpAny M A tree Q (fun _ _ => False) s) : wpAny M A tree Q E s := wpAny_mono h (fun _ _ z => z) (fun _ _ z => z.elim)
/-- what a frame's names hold -/
def Sees (m : Str → Option Value) : List (Str × Value) → Prop
  | [] => True
  | (x, v) :: r => m x = some v ∧ Sees m r
theorem Sees.eq {m : Str → Option Value} : ∀ {ps : List (Str × Value)}, Sees m ps → m = fun y => (ps.lookup y).or (m y)
  | [], _ => rfl
  | (x, v) :: r, ⟨a, b⟩ => by
    funext y
    rw [List.lookup_cons]
    cases h : y == x with
    | true => rw [eq_of_beq h, a]; rfl
    | false => exact congrFun (Sees.eq b) y
theorem frSeen {h₀ h : Heap} {L : Addr} {m : Str → Option Value} {ps : List (Str × Value)} (F : Fr h₀ L h m) (S : Sees m ps) : Fr h₀ L h (fun y => (ps.lookup y).or (m y)) := S.eq ▸ F
def Stop (p : Prop) : Prop := p
theorem Stop.mk {p : Prop} (h : Stop p) : p := h
theorem fm (a : Int) {P : Int} (h : 1 < P) : a.fmod P = a % P := Int.fmod_eq_emod_of_nonneg a (by omega)
theorem mm (a P : Int) : a % P % P = a % P := Int.emod_emod_of_dvd _ (Int.dvd_refl P)
theorem fmm (a : Int) {P : Int} (h : 1 < P) : a.fmod P % P = a % P := by rw [fm a h, mm]
end Mine
end
section
open PySem PySem.W PyProof.Rows PySem.Calls PySem.Spec
namespace Mine
theorem nDrop {h₀ h : Heap} {L : Addr} {l l' : List (Addr × Obj)} (N : News h₀ L h l') (a : Sub l l') : News h₀ L h l := a.drop N
theorem Sub.mem {l l' : List (Addr × Obj)} {q : Addr × Obj} (hs : Sub l l') (h : q ∈ l) : q ∈ l' := hs q h
abbrev tupObj (vs : List Value) (e : Nat) : Obj := { cls := .type "tuple", data := .seq vs.toArray e }
theorem tupItem {prog : Program} {w : World} {A : Around} {E Q : Value → Shared → Prop} {s : Shared} {h₀ : Heap} {L t : Addr} {l : List (Addr × Obj)} {vs : List Value} {e : Nat} {value slice : PySem.Expr} {k : Int} {u : Tok} {j : Nat} {x : Value} (N : News h₀ L s.heap l) (hm : (t, tupObj vs e) ∈ l)
    (hlo : -(2 ^ 63) ≤ k) (hhi : k < 2 ^ 63) (hj : seqIndex? k vs.length = some j) (hx : vs[j]? = some x) (h : Q x s)
    (hs : subscripted slice false (.ref t) (.int k u) = operate [.ref t, .int k u] (getItem (.ref t) (.int k u)) := by with_unfolding_all rfl) :
    wpAny (model prog w) A (subscriptTail value slice (.ref t) (.int k u)) Q E s := item_tupleT (News.isTup N hm) hlo hhi hj hx h hs
/-- a projective point -/
inductive P3 (w : World) (P : Int) (news : List (Addr × Obj)) : Value → Int × Int × Int → Prop
  | mk {t ax ay az : Addr} {x y z : Int} {e : Nat} : (t, tupObj [.ref ax, .ref ay, .ref az] e) ∈ news → FqIn w 431 P news (.ref ax) x → FqIn w 431 P news (.ref ay) y → FqIn w 431 P news (.ref az) z → P3 w P news (.ref t) (x, y, z)
theorem P3.mono {w : World} {P : Int} {l l' : List (Addr × Obj)} {v : Value} {q : Int × Int × Int} (hs : Sub l l') (h : P3 w P l v q) : P3 w P l' v q := by
  cases h with
  | mk a b c d => exact .mk (hs _ a) (b.mono hs) (c.mono hs) (d.mono hs)
theorem P3.cast {w : World} {P : Int} {l : List (Addr × Obj)} {v : Value} {q q' : Int × Int × Int} (h : P3 w P l v q) (e : q = q') : P3 w P l v q' := e ▸ h
/-- a plain point -/
inductive P2 (w : World) (P : Int) (news : List (Addr × Obj)) : Value → Option (Int × Int) → Prop
  | none : P2 w P news .none none
  | mk {t ax ay : Addr} {x y : Int} {e : Nat} : (t, tupObj [.ref ax, .ref ay] e) ∈ news → FqIn w 269 P news (.ref ax) x → FqIn w 269 P news (.ref ay) y → P2 w P news (.ref t) (some (x, y))
theorem P2.mono {w : World} {P : Int} {l l' : List (Addr × Obj)} {v : Value} {q : Option (Int × Int)} (hs : Sub l l') (h : P2 w P l v q) : P2 w P l' v q := by
  cases h with
  | none => exact .none
  | mk a b c => exact .mk (hs _ a) (b.mono hs) (c.mono hs)
theorem P2.cast {w : World} {P : Int} {l : List (Addr × Obj)} {v : Value} {q q' : Option (Int × Int)} (h : P2 w P l v q) (e : q = q') : P2 w P l v q' := e ▸ h
abbrev RetP3 (w : World) (P : Int) (h₀ : Heap) (L : Addr) (m : Str → Option Value) (news : List (Addr × Obj)) (s : Shared) (Q : Value → Shared → Prop) (q : Int × Int × Int) : Prop :=
  ∀ (x : Addr) l h' tk', Fr h₀ L h' m → News h₀ L h' l → Sub news l → P3 w P l (.ref x) q → Q (.ref x) { s with heap := h', toks := tk' }
abbrev RetP2 (w : World) (P : Int) (h₀ : Heap) (L : Addr) (m : Str → Option Value) (news : List (Addr × Obj)) (s : Shared) (Q : Value → Shared → Prop) (q : Option (Int × Int)) : Prop :=
  ∀ (v : Value) l h' tk', Fr h₀ L h' m → News h₀ L h' l → Sub news l → P2 w P l v q → Q v { s with heap := h', toks := tk' }
/-- the optimized curve's reckoning, as the code has it -/
def onO (P cb : Int) : Int × Int × Int → Bool
  | (x, y, z) => if z = 0 then true else decide ((y * y % P * z % P - x * x % P * x % P) % P = cb * (z * z % P * z % P) % P)
theorem onO_1 {P cb x y z : Int} (h : z = 0) : onO P cb (x, y, z) = true := by
  simp only [onO]
  rw [if_pos h]
theorem onO_2 {P cb x y z : Int} (h : ¬ z = 0) : onO P cb (x, y, z) = decide ((y * y % P * z % P - x * x % P * x % P) % P = cb * (z * z % P * z % P) % P) := by
  simp only [onO]
  rw [if_neg h]
def oW (P x : Int) : Int := x * 3 % P * x % P
def oS (P y z : Int) : Int := y * z % P
def oB (P x y z : Int) : Int := x * y % P * oS P y z % P
def oH (P x y z : Int) : Int := (oW P x * oW P x % P - oB P x y z * 8 % P) % P
def dblO (P : Int) : Int × Int × Int → Int × Int × Int
  | (x, y, z) => (oH P x y z * 2 % P * oS P y z % P,
    (oW P x * ((oB P x y z * 4 % P - oH P x y z) % P) % P - y * 8 % P * y % P * (oS P y z * oS P y z % P) % P) % P,
    oS P y z * 8 % P * (oS P y z * oS P y z % P) % P)
def genO (P x1 y1 z1 x2 y2 z2 : Int) : Int × Int × Int :=
  let U1 := y2 * z1 % P
  let U2 := y1 * z2 % P
  let V1 := x2 * z1 % P
  let V2 := x1 * z2 % P
  let U := (U1 - U2) % P
  let V := (V1 - V2) % P
  let VS := V * V % P
  let VSV := VS * V2 % P
  let VC := V * VS % P
  let W := z1 * z2 % P
  let A := ((U * U % P * W % P - VC) % P - VSV * 2 % P) % P
  (V * A % P, (U * ((VSV - A) % P) % P - VC * U2 % P) % P, VC * W % P)
def addO (P : Int) : Int × Int × Int → Int × Int × Int → Int × Int × Int
  | (x1, y1, z1), (x2, y2, z2) =>
    if z1 = 0 ∨ z2 = 0 then (if z2 = 0 then (x1, y1, z1) else (x2, y2, z2))
    else if x2 * z1 % P = x1 * z2 % P ∧ y2 * z1 % P = y1 * z2 % P then dblO P (x1, y1, z1)
    else if x2 * z1 % P = x1 * z2 % P then (1, 1, 0)
    else genO P x1 y1 z1 x2 y2 z2
section
variable {P x1 y1 z1 x2 y2 z2 : Int}
theorem addO_1 (h1 : z1 = 0) (h2 : z2 = 0) : (x1, y1, z1) = addO P (x1, y1, z1) (x2, y2, z2) := by
  simp only [addO]
  rw [if_pos (.inl h1), if_pos h2]
theorem addO_2 (h1 : z1 = 0) (h2 : ¬ z2 = 0) : (x2, y2, z2) = addO P (x1, y1, z1) (x2, y2, z2) := by
  simp only [addO]
  rw [if_pos (.inl h1), if_neg h2]
theorem addO_3 (h1 : ¬ z1 = 0) (h2 : z2 = 0) : (x1, y1, z1) = addO P (x1, y1, z1) (x2, y2, z2) := by
  simp only [addO]
  rw [if_pos (.inr h2), if_pos h2]
theorem addO_4 (h1 : ¬ z1 = 0) (h2 : ¬ z2 = 0) (h3 : x2 * z1 % P = x1 * z2 % P) (h4 : y2 * z1 % P = y1 * z2 % P) : dblO P (x1, y1, z1) = addO P (x1, y1, z1) (x2, y2, z2) := by
  simp only [addO]
  rw [if_neg (fun h => h.elim h1 h2), if_pos ⟨h3, h4⟩]
theorem addO_5 (h1 : ¬ z1 = 0) (h2 : ¬ z2 = 0) (h3 : x2 * z1 % P = x1 * z2 % P) (h4 : ¬ y2 * z1 % P = y1 * z2 % P) : (1, 1, 0) = addO P (x1, y1, z1) (x2, y2, z2) := by
  simp only [addO]
  rw [if_neg (fun h => h.elim h1 h2), if_neg (fun h => h4 h.2), if_pos h3]
theorem addO_6 (h1 : ¬ z1 = 0) (h2 : ¬ z2 = 0) (h3 : ¬ x2 * z1 % P = x1 * z2 % P) : genO P x1 y1 z1 x2 y2 z2 = addO P (x1, y1, z1) (x2, y2, z2) := by
  simp only [addO]
  rw [if_neg (fun h => h.elim h1 h2), if_neg (fun h => h3 h.1), if_neg h3]
end
/-- a point's multiple, as the code has it, for times 0 to 5 -/
def mulO (P : Int) (q : Int × Int × Int) : Nat → Int × Int × Int
  | 0 => (1, 1, 0)
  | 1 => q
  | 2 => dblO P q
  | 3 => addO P (dblO P q) q
  | 4 => dblO P (dblO P q)
  | _ => addO P (dblO P (dblO P q)) q
/-- the plain curve's reckoning, as the code has it -/
def Bez (P d : Int) : Prop := ∃ x y : Int, x * d + y * P = 1
def pM (P x i : Int) : Int := x * x % P * 3 % P * i % P
def pY (P m nx x y : Int) : Int := ((-m % P * nx % P + m * x % P) % P - y) % P
def onP (P cb : Int) : Option (Int × Int) → Bool
  | none => true
  | some (x, y) => decide ((y * y % P - x * x % P * x % P) % P = cb)
def DblOk (P : Int) : Option (Int × Int) → Prop
  | none => True
  | some (_, y) => Bez P (y * 2 % P)
def DblP (P : Int) : Option (Int × Int) → Option (Int × Int) → Prop
  | none, r => r = none
  | some (x, y), r => ∃ i, y * 2 % P * i % P = 1 ∧ 0 ≤ i ∧ i < P ∧ r = some ((pM P x i * pM P x i % P - x * 2 % P) % P, pY P (pM P x i) ((pM P x i * pM P x i % P - x * 2 % P) % P) x y)
def aM (P y1 y2 i : Int) : Int := (y2 - y1) % P * i % P
def aX (P m x1 x2 : Int) : Int := ((m * m % P - x1) % P - x2) % P
def AddOk (P : Int) : Option (Int × Int) → Option (Int × Int) → Prop
  | some (x1, y1), some (x2, y2) => (x2 = x1 → y2 = y1 → Bez P (y1 * 2 % P)) ∧ (¬ x2 = x1 → Bez P ((x2 - x1) % P))
  | _, _ => True
def AddP (P : Int) : Option (Int × Int) → Option (Int × Int) → Option (Int × Int) → Prop
  | none, b, r => r = b
  | some a, none, r => r = some a
  | some (x1, y1), some (x2, y2), r => (x2 = x1 ∧ y2 = y1 ∧ DblP P (some (x1, y1)) r) ∨ (x2 = x1 ∧ ¬ y2 = y1 ∧ r = none) ∨
      (¬ x2 = x1 ∧ ∃ i, (x2 - x1) % P * i % P = 1 ∧ 0 ≤ i ∧ i < P ∧ r = some (aX P (aM P y1 y2 i) x1 x2, pY P (aM P y1 y2 i) (aX P (aM P y1 y2 i) x1 x2) x1 y1))
end Mine
end
section
open PySem PySem.W PyProof.Rows PySem.Calls PySem.Spec
namespace Mine
/-- not an iterator -/
def good (o : Obj) : Bool := match o.cls with
  | .ref _ => true
  | .type n => n == "dict" || n == "tuple" || n == "list"
  | _ => false
/-- a ledger without the loop's iterator -/
def Cln (l l' : List (Addr × Obj)) : Prop := ∀ p ∈ l, good p.2 = true → p ∈ l'
def Turn (h₀ : Heap) (L : Addr) (s : Shared) (l l1 : List (Addr × Obj)) (Jn : (Str → Option Value) → List (Addr × Obj) → Prop) (Q : Flow → Shared → Prop) (f : Flow) (s₂ : Shared) : Prop :=
  match f with
  | .ret v => Q (.ret v) s₂
  | .brk => Q .next s₂
  | _ => ∃ h' tk' m' l', s₂ = { s with heap := h', toks := tk' } ∧ Fr h₀ L h' m' ∧ News h₀ L h' l' ∧ Sub l1 l' ∧ ∀ l2, Sub l l2 → Cln l' l2 → Jn m' l2
section
variable {prog : Program} {w : World} {A : Around} {E : Value → Shared → Prop} {s : Shared} {h₀ : Heap} {env : Env} {x : Str} {body : List Stmt} {Q : Flow → Shared → Prop}
theorem loop_any {I : Addr} {fp wr : List Addr} {n : Nat} {P : Nat → Value → Prop} {St : Nat → Heap → Prop} {m₀ : Str → Option Value} {l₀ : List (Addr × Obj)} (J : Nat → (Str → Option Value) → List (Addr × Obj) → Prop)
    (W : Walks prog w A I fp wr n P St) (hLf : env.locals ∉ fp) (hwr : ∀ b ∈ wr, h₀.get? b = none) (hnw : ∀ p ∈ l₀, p.1 ∉ wr) (hst : St 0 s.heap) (F : Fr h₀ env.locals s.heap m₀) (N : News h₀ env.locals s.heap l₀)
    (hit : ∀ i h b, St i h → b ∈ wr → ∃ o, h.get? b = some o ∧ good o = false) (hj : J 0 m₀ l₀)
    (turn : ∀ i v m₁ l l1 h tk, i < n → P i v → J i m₁ l → Sub l l1 → Fr h₀ env.locals h (fun y => if y = x then some v else m₁ y) → News h₀ env.locals h l1 →
      wpAny (model prog w) A (execs body env) (Turn h₀ env.locals { s with heap := h, toks := tk } l l1 (J (i + 1)) Q) E { s with heap := h, toks := tk })
    (done : ∀ m₁ l h tk, J n m₁ l → Fr h₀ env.locals h m₁ → News h₀ env.locals h l → Q .next { s with heap := h, toks := tk }) :
    LoopAtV prog w A h₀ env x body Q E (.ref I) s := by
  refine ⟨I, fp, wr, n, P, St, m₀, l₀, J, rfl, W, hLf, hwr, hnw, hst, F, N, hj, ?_, ?_⟩
  · rintro i v m₁ l s₁ own ⟨hh', tk', rfl⟩ hin hP hJ hoff hown hown2 hfp hSt F₁ N₁
    refine wpAny_mono (turn i v m₁ l (own ++ l) hh' tk' hin hP hJ (fun p h => List.mem_append.mpr (.inr h)) F₁ N₁) (fun f s₂ p => ?_) fun _ _ e => e
    have fin : (∃ h' tk'' m' l', s₂ = { { s with heap := hh', toks := tk' } with heap := h', toks := tk'' } ∧ Fr h₀ env.locals h' m' ∧ News h₀ env.locals h' l' ∧ Sub (own ++ l) l' ∧ ∀ l2, Sub l l2 → Cln l' l2 → J (i + 1) m' l2) →
        LoopStepU h₀ env.locals wr own (J (i + 1)) { s with heap := hh', toks := tk' } .next s₂ := by
      rintro ⟨h', tk'', m', l', rfl, F', N', S', hJ'⟩
      have hN2 : News h₀ env.locals h' (own ++ l'.filter fun p => decide (p.1 ∉ wr)) := fun p hp => by
        rcases List.mem_append.mp hp with hp | hp
        · exact N' p (S' p (List.mem_append.mpr (.inl hp)))
        · exact N' p (List.mem_filter.mp hp).1
      refine LoopStepU.intro (news₂ := l'.filter fun p => decide (p.1 ∉ wr)) F' hN2 (fun p hp => of_decide_eq_true (List.mem_filter.mp hp).2) ?_
      refine hJ' _ (fun p hp => List.mem_filter.mpr ⟨S' p (List.mem_append.mpr (.inr hp)), decide_eq_true (hoff p hp)⟩) fun p hp hg => List.mem_filter.mpr ⟨hp, decide_eq_true fun hb => ?_⟩
      obtain ⟨o, ho, hgo⟩ := hit _ _ _ hSt hb
      have hin2 := hfp p.1 (W.sub _ hb) (hwr _ hb) o ho
      have e1 := (N' _ (S' _ (List.mem_append.mpr (.inl hin2)))).1
      have e2 := (N' _ hp).1
      rw [e2] at e1
      cases e1
      rw [hgo] at hg
      cases hg
    cases f with
    | next => exact fin p
    | cont => exact fin p
    | brk => exact p
    | ret v => exact p
  · intro h' tk m' l' F' N' hoff' hJ
    exact done m' l' h' tk hJ F' N'
theorem good_range {i : Nat} {h : Heap} {b I : Addr} {a c k : Int} (st : IsRangeIter h I a k c) (hb : b ∈ [I]) : ∃ o, h.get? b = some o ∧ good o = false := by
  rw [List.mem_singleton.mp hb]
  exact ⟨_, st, rfl⟩
theorem good_list {i : Nat} {h : Heap} {b I ax : Addr} (st : h.IsListIter I ax i) (hb : b ∈ [I]) : ∃ o, h.get? b = some o ∧ good o = false := by
  rw [List.mem_singleton.mp hb]
  obtain ⟨o, ho, hc, _⟩ := st
  refine ⟨o, ho, ?_⟩
  unfold good
  rw [hc]
  rfl
/-- a loop over a range by ones, by what holds at each turn -/
theorem iter_rangeJ {r : Addr} {b₀ : Int} {t₀ u₀ v₀ : Tok} {n : Nat} {m₀ : Str → Option Value} {l₀ : List (Addr × Obj)} (J : Nat → (Str → Option Value) → List (Addr × Obj) → Prop)
    (hh : A.handled = none) (hr : IsRange s.heap r 0 b₀ 1 t₀ u₀ v₀) (hsmall : Builtin.Range.small 0 b₀ 1 = true) (hn : Builtin.Range.rangeSize 0 b₀ 1 = (n : Int)) (F : Fr h₀ env.locals s.heap m₀) (N : News h₀ env.locals s.heap l₀) (hj : J 0 m₀ l₀)
    (turn : ∀ i t m₁ l l1 h tk, i < n → J i m₁ l → Sub l l1 → Fr h₀ env.locals h (fun y => if y = x then some (.int i t) else m₁ y) → News h₀ env.locals h l1 →
      wpAny (model prog w) A (execs body env) (Turn h₀ env.locals { s with heap := h, toks := tk } l l1 (J (i + 1)) Q) E { s with heap := h, toks := tk })
    (done : ∀ m₁ l h tk, J n m₁ l → Fr h₀ env.locals h m₁ → News h₀ env.locals h l → Q .next { s with heap := h, toks := tk }) :
    wpAny (model prog w) A (pyIter (.ref r)) (fun it s₂ => LoopAtV prog w A h₀ env x body Q E it s₂) E s := by
  refine wpAny_pyIter_range hr hsmall ?_
  have W : Walks prog w A s.heap.objs.size [s.heap.objs.size] [s.heap.objs.size] n (fun i v => ∃ t, v = .int ((0 : Int) + i * 1) t)
      (fun i h => IsRangeIter h s.heap.objs.size ((0 : Int) + (i : Nat) * 1) ((n : Int) - (i : Nat)) 1) := Walks.range hh _ 0 1 n
  refine loop_any J W ?_ ?_ ?_ (by show IsRangeIter _ _ _ _ _; rw [hn]; simpa using Heap.get?_push_size _ rfl) (F.push _) (fun p hp => ⟨Heap.get?_push_of_some _ (N p hp).1, (N p hp).2⟩) (fun i h b st hb => good_range (i := i) st hb) hj ?_ ?_
  · intro hm
    rw [List.mem_singleton] at hm
    exact absurd F.ns.lt (hm ▸ Nat.lt_irrefl _)
  · intro b hb
    rw [List.mem_singleton.mp hb]
    exact next_is_new F
  · intro p hp hI
    exact absurd (Heap.lt_size (N p hp).1) ((List.mem_singleton.mp hI) ▸ Nat.lt_irrefl _)
  · rintro i v m₁ l l1 h tk hi ⟨t, rfl⟩ hJ S F' N'
    rw [show (0 : Int) + (i : Int) * 1 = i by omega] at F'
    exact turn i t m₁ l l1 h tk hi hJ S F' N'
  · exact done
/-- a loop over a list, by what holds at each turn -/
theorem iter_listJ {ax : Addr} {vs : List Value} {m₀ : Str → Option Value} {l₀ : List (Addr × Obj)} (J : Nat → (Str → Option Value) → List (Addr × Obj) → Prop)
    (hh : A.handled = none) (hl : s.heap.IsList ax vs.toArray) (hax : ax ≠ env.locals) (F : Fr h₀ env.locals s.heap m₀) (N : News h₀ env.locals s.heap l₀) (hj : J 0 m₀ l₀)
    (turn : ∀ i v m₁ l l1 h tk, vs[i]? = some v → J i m₁ l → Sub l l1 → Fr h₀ env.locals h (fun y => if y = x then some v else m₁ y) → News h₀ env.locals h l1 →
      wpAny (model prog w) A (execs body env) (Turn h₀ env.locals { s with heap := h, toks := tk } l l1 (J (i + 1)) Q) E { s with heap := h, toks := tk })
    (done : ∀ m₁ l h tk, J vs.length m₁ l → Fr h₀ env.locals h m₁ → News h₀ env.locals h l → Q .next { s with heap := h, toks := tk }) :
    wpAny (model prog w) A (pyIter (.ref ax)) (fun it s₂ => LoopAtV prog w A h₀ env x body Q E it s₂) E s := by
  have hlt : ax < s.heap.objs.size := let ⟨o, ho, _⟩ := hl; Heap.lt_size ho
  have hne : ax ≠ s.heap.objs.size := Nat.ne_of_lt hlt
  refine wpAny_pyIter_list hl ?_
  have W := Walks.list (prog := prog) (w := w) hh s.heap.objs.size ax hne vs.toArray
  refine loop_any J W ?_ ?_ ?_ ⟨⟨_, Heap.get?_push_size _ rfl, rfl, rfl⟩, hl.at fun o e => Heap.get?_push_of_some _ e⟩ (F.push _) (fun p hp => ⟨Heap.get?_push_of_some _ (N p hp).1, (N p hp).2⟩) (fun i h b st hb => good_list st.1 hb) hj ?_ ?_
  · intro hm
    rcases List.mem_cons.mp hm with e | hm
    · exact absurd F.ns.lt (e ▸ Nat.lt_irrefl _)
    · exact hax (List.mem_singleton.mp hm).symm
  · intro b hb
    rw [List.mem_singleton.mp hb]
    exact next_is_new F
  · intro p hp hI
    exact absurd (Heap.lt_size (N p hp).1) ((List.mem_singleton.mp hI) ▸ Nat.lt_irrefl _)
  · intro i v m₁ l l1 h tk hi hP hJ S F' N'
    exact turn i v m₁ l l1 h tk (by simpa using hP) hJ S F' N'
  · intro m₁ l h tk hJ F' N'
    rw [List.size_toArray] at hJ
    exact done m₁ l h tk hJ F' N'
variable {L : Addr}
theorem iter_rangeL {r : Addr} {b₀ : Int} {t₀ u₀ v₀ : Tok} {n : Nat} {m₀ : Str → Option Value} {l₀ : List (Addr × Obj)} (J : Nat → (Str → Option Value) → List (Addr × Obj) → Prop)
    (hL : env.locals = L) (hh : A.handled = none) (hr : IsRange s.heap r 0 b₀ 1 t₀ u₀ v₀) (hsmall : Builtin.Range.small 0 b₀ 1 = true) (hn : Builtin.Range.rangeSize 0 b₀ 1 = (n : Int)) (F : Fr h₀ L s.heap m₀) (N : News h₀ L s.heap l₀) (hj : J 0 m₀ l₀)
    (turn : ∀ i t m₁ l l1 h tk, i < n → J i m₁ l → Sub l l1 → Fr h₀ L h (fun y => if y = x then some (.int i t) else m₁ y) → News h₀ L h l1 →
      wpAny (model prog w) A (execs body env) (Turn h₀ L { s with heap := h, toks := tk } l l1 (J (i + 1)) Q) E { s with heap := h, toks := tk })
    (done : ∀ m₁ l h tk, J n m₁ l → Fr h₀ L h m₁ → News h₀ L h l → Q .next { s with heap := h, toks := tk }) :
    wpAny (model prog w) A (pyIter (.ref r)) (fun it s₂ => LoopAtV prog w A h₀ env x body Q E it s₂) E s := by
  subst hL
  exact iter_rangeJ J hh hr hsmall hn F N hj turn done
theorem iter_listL {ax : Addr} {vs : List Value} {m₀ : Str → Option Value} {l₀ : List (Addr × Obj)} (J : Nat → (Str → Option Value) → List (Addr × Obj) → Prop)
    (hL : env.locals = L) (hh : A.handled = none) (hl : s.heap.IsList ax vs.toArray) (hax : ax ≠ L) (F : Fr h₀ L s.heap m₀) (N : News h₀ L s.heap l₀) (hj : J 0 m₀ l₀)
    (turn : ∀ i v m₁ l l1 h tk, vs[i]? = some v → J i m₁ l → Sub l l1 → Fr h₀ L h (fun y => if y = x then some v else m₁ y) → News h₀ L h l1 →
      wpAny (model prog w) A (execs body env) (Turn h₀ L { s with heap := h, toks := tk } l l1 (J (i + 1)) Q) E { s with heap := h, toks := tk })
    (done : ∀ m₁ l h tk, J vs.length m₁ l → Fr h₀ L h m₁ → News h₀ L h l → Q .next { s with heap := h, toks := tk }) :
    wpAny (model prog w) A (pyIter (.ref ax)) (fun it s₂ => LoopAtV prog w A h₀ env x body Q E it s₂) E s := by
  subst hL
  exact iter_listJ J hh hl hax F N hj turn done
theorem turn_end {l l1 l' : List (Addr × Obj)} {Jn : (Str → Option Value) → List (Addr × Obj) → Prop} {h' : Heap} {tk' : Nat} {m' : Str → Option Value} (F : Fr h₀ L h' m') (N : News h₀ L h' l') (S : Sub l1 l') (hJ : ∀ l2, Sub l l2 → Cln l' l2 → Jn m' l2) :
    Turn h₀ L s l l1 Jn Q .next { s with heap := h', toks := tk' } := ⟨h', tk', m', l', rfl, F, N, S, hJ⟩
theorem turn_ret {l l1 : List (Addr × Obj)} {Jn : (Str → Option Value) → List (Addr × Obj) → Prop} {v : Value} {s₂ : Shared} (h : Q (.ret v) s₂) : Turn h₀ L s l l1 Jn Q (.ret v) s₂ := h
theorem FqIn.cln {w : World} {C : Addr} {P : Int} {l l' : List (Addr × Obj)} {v : Value} {n : Int} (hs : Cln l l') (h : FqIn w C P l v n) : FqIn w C P l' v n := by
  cases h with
  | mk a b c d => exact .mk (hs _ a rfl) (hs _ b rfl) c d
theorem P3.cln {w : World} {P : Int} {l l' : List (Addr × Obj)} {v : Value} {q : Int × Int × Int} (hs : Cln l l') (h : P3 w P l v q) : P3 w P l' v q := by
  cases h with
  | mk a b c d => exact .mk (hs _ a rfl) (b.cln hs) (c.cln hs) (d.cln hs)
theorem P2.cln {w : World} {P : Int} {l l' : List (Addr × Obj)} {v : Value} {q : Option (Int × Int)} (hs : Cln l l') (h : P2 w P l v q) : P2 w P l' v q := by
  cases h with
  | none => exact .none
  | mk a b c => exact .mk (hs _ a rfl) (b.cln hs) (c.cln hs)
theorem range_size {k : Int} (h0 : 0 ≤ k) : Builtin.Range.rangeSize 0 k 1 = (k.toNat : Int) := by
  unfold Builtin.Range.rangeSize
  simp
  omega
theorem range_small {k : Int} (h0 : 0 ≤ k) (h1 : k ≤ 1000) : Builtin.Range.small 0 k 1 = true := by
  have f : ∀ x : Int, 0 ≤ x → x ≤ 1000 → Builtin.Range.rangeFitsLong x = true := fun x a b => by
    unfold Builtin.Range.rangeFitsLong
    simp
    omega
  unfold Builtin.Range.small
  rw [range_size h0, f 0 (by omega) (by omega), f k h0 h1, f 1 (by omega) (by omega), f _ (by omega) (by omega), if_pos (by decide), f (k + (1 - 1)) (by omega) (by omega)]
  simp
def JC (c : Addr) (rest : List (Addr × Obj)) (I : Nat → Int → Prop) (n : Nat) (_ : Str → Option Value) (l : List (Addr × Obj)) : Prop := ∃ f t oc, l = (c, oc) :: rest ∧ oc.data = .cell (some (.int f t)) ∧ I n f
theorem While_cell {test : PySem.Expr} {pos : Pos} {m : Str → Option Value} {c : Addr} {o₀ : Obj} {rest : List (Addr × Obj)} {f₀ : Int} {t₀ : Tok} {n₀ : Nat} (I : Nat → Int → Prop)
    (F : Fr h₀ L s.heap m) (N : News h₀ L s.heap ((c, o₀) :: rest)) (hd : o₀.data = .cell (some (.int f₀ t₀))) (h0 : I n₀ f₀)
    (turn : ∀ n f t oc m₁ h tk, I n f → oc.data = .cell (some (.int f t)) → Fr h₀ L h m₁ → News h₀ L h ((c, oc) :: rest) →
      wpAny (model prog w) A (isTrue test env (eval test env)) (fun b s₂ => if b = true then wpAny (model prog w) A (execs body env) (WhileStep2 h₀ L s (JC c rest I) Q n) E s₂ else Q .next s₂) E { s with heap := h, toks := tk })
    (hE : PassesOwn (model prog w) A env E := by passes_own) :
    wpAny (model prog w) A (exec (.While test body [] pos) env) Q E s := by
  refine While_inv2 (n₀ := n₀) (JC c rest I) F N ⟨f₀, t₀, o₀, rfl, hd, h0⟩ ?_ hE
  rintro n m₁ l h tk F₁ N₁ ⟨f, t, oc, rfl, hd, hI⟩
  exact turn n f t oc m₁ h tk hI hd F₁ N₁
end
end Mine
end
section
open PySem PySem.W PyProof.Rows PySem.Calls PySem.Spec
namespace Mine
section
variable {prog : Program} {w : World} {A : Around} {E : Value → Shared → Prop} {s : Shared} {h₀ : Heap} {env : Env} {x : Str} {body : List Stmt} {Q : Flow → Shared → Prop}
theorem good_tup {i : Nat} {h : Heap} {b I ax : Addr} (st : h.IsTupleIter I ax i) (hb : b ∈ [I]) : ∃ o, h.get? b = some o ∧ good o = false := by
  rw [List.mem_singleton.mp hb]
  obtain ⟨o, ho, hc, _⟩ := st
  refine ⟨o, ho, ?_⟩
  unfold good
  rw [hc]
  rfl
theorem iter_tupJ {ax : Addr} {vs : List Value} {m₀ : Str → Option Value} {l₀ : List (Addr × Obj)} (J : Nat → (Str → Option Value) → List (Addr × Obj) → Prop)
    (hh : A.handled = none) (hl : s.heap.IsTuple ax vs.toArray) (hax : ax ≠ env.locals) (F : Fr h₀ env.locals s.heap m₀) (N : News h₀ env.locals s.heap l₀) (hj : J 0 m₀ l₀)
    (turn : ∀ i v m₁ l l1 h tk, vs[i]? = some v → J i m₁ l → Sub l l1 → Fr h₀ env.locals h (fun y => if y = x then some v else m₁ y) → News h₀ env.locals h l1 →
      wpAny (model prog w) A (execs body env) (Turn h₀ env.locals { s with heap := h, toks := tk } l l1 (J (i + 1)) Q) E { s with heap := h, toks := tk })
    (done : ∀ m₁ l h tk, J vs.length m₁ l → Fr h₀ env.locals h m₁ → News h₀ env.locals h l → Q .next { s with heap := h, toks := tk }) :
    wpAny (model prog w) A (pyIter (.ref ax)) (fun it s₂ => LoopAtV prog w A h₀ env x body Q E it s₂) E s := by
  have hlt : ax < s.heap.objs.size := let ⟨o, ho, _⟩ := hl; Heap.lt_size ho
  have hne : ax ≠ s.heap.objs.size := Nat.ne_of_lt hlt
  refine wpAny_pyIter_tuple hl ?_
  have W := Walks.tuple (prog := prog) (w := w) hh s.heap.objs.size ax hne vs.toArray
  refine loop_any J W ?_ ?_ ?_ ⟨⟨_, Heap.get?_push_size _ rfl, rfl, rfl⟩, hl.at fun o e => Heap.get?_push_of_some _ e⟩ (F.push _) (fun p hp => ⟨Heap.get?_push_of_some _ (N p hp).1, (N p hp).2⟩) (fun i h b st hb => good_tup st.1 hb) hj ?_ ?_
  · intro hm
    rcases List.mem_cons.mp hm with e | hm
    · exact absurd F.ns.lt (e ▸ Nat.lt_irrefl _)
    · exact hax (List.mem_singleton.mp hm).symm
  · intro b hb
    rw [List.mem_singleton.mp hb]
    exact next_is_new F
  · intro p hp hI
    exact absurd (Heap.lt_size (N p hp).1) ((List.mem_singleton.mp hI) ▸ Nat.lt_irrefl _)
  · intro i v m₁ l l1 h tk hi hP hJ S F' N'
    exact turn i v m₁ l l1 h tk (by simpa using hP) hJ S F' N'
  · intro m₁ l h tk hJ F' N'
    rw [List.size_toArray] at hJ
    exact done m₁ l h tk hJ F' N'
variable {L : Addr}
theorem iter_tupL {ax : Addr} {vs : List Value} {m₀ : Str → Option Value} {l₀ : List (Addr × Obj)} (J : Nat → (Str → Option Value) → List (Addr × Obj) → Prop)
    (hL : env.locals = L) (hh : A.handled = none) (hl : s.heap.IsTuple ax vs.toArray) (hax : ax ≠ L) (F : Fr h₀ L s.heap m₀) (N : News h₀ L s.heap l₀) (hj : J 0 m₀ l₀)
    (turn : ∀ i v m₁ l l1 h tk, vs[i]? = some v → J i m₁ l → Sub l l1 → Fr h₀ L h (fun y => if y = x then some v else m₁ y) → News h₀ L h l1 →
      wpAny (model prog w) A (execs body env) (Turn h₀ L { s with heap := h, toks := tk } l l1 (J (i + 1)) Q) E { s with heap := h, toks := tk })
    (done : ∀ m₁ l h tk, J vs.length m₁ l → Fr h₀ L h m₁ → News h₀ L h l → Q .next { s with heap := h, toks := tk }) :
    wpAny (model prog w) A (pyIter (.ref ax)) (fun it s₂ => LoopAtV prog w A h₀ env x body Q E it s₂) E s := by
  subst hL
  exact iter_tupJ J hh hl hax F N hj turn done
end
end Mine
end
section
open PySem PySem.W PyProof.Rows PySem.Calls PySem.Spec
namespace Mine
theorem tup2_eq {prog : Program} {w : World} {A : Around} {E : Value → Shared → Prop} {s : Shared} {P : PySem.Fin → Shared → Prop} {a b : Addr} {x1 y1 x2 y2 : Value} {e1 e2 : Nat}
    (ha : s.heap.get? a = some (tupObj [x1, y1] e1)) (hb : s.heap.get? b = some (tupObj [x2, y2] e2))
    (h : wpAny (model prog w) A (eqBool x1 x2) (fun c s1 => if c = true then wpAny (model prog w) A (eqBool y1 y2) (fun d s2 => P (.done (.ret (.bool d))) s2) E s1 else P (.done (.ret (.bool false))) s1) E s) :
    wpAny (model prog w) A (Builtin.«tuple.__eq__» ⟨[.ref a, .ref b], []⟩) P E s := by
  show wpAny _ _ (isInstance (.ref b) (.type "tuple") >>= _) _ _ s
  refine wpAny_bind (wpAny_isInstance ⟨_, hb, rfl⟩ isSubtype_tuple_tuple ?_)
  simp only [Bool.not_true, Bool.false_eq_true, if_false]
  refine wpAny_bind (wpAny_tupleItemsOf ha rfl ?_)
  refine wpAny_bind (wpAny_tupleItemsOf hb rfl ?_)
  show wpAny _ _ ((forIn [(x1, x2), (y1, y2)] _ _) >>= _) _ _ s
  simp only [List.forIn_cons, List.forIn_nil, bind_assoc]
  refine wpAny_bind (wpAny_mono h (fun c s1 hc => ?_) fun _ _ z => z)
  cases c with
  | false =>
    simp only [Bool.false_eq_true, if_false] at hc
    exact wpAny_pure hc
  | true =>
    simp only [if_true] at hc
    simp only [Bool.not_true, Bool.false_eq_true, if_false, pure_bind]
    refine wpAny_bind (wpAny_bind (wpAny_mono hc (fun d s2 hd => ?_) fun _ _ z => z))
    cases d with
    | false => exact wpAny_pure (wpAny_pure hd)
    | true => exact wpAny_pure (wpAny_pure hd)
/-- == of two tuples of two, by the items -/
theorem tup2_cmp {prog : Program} {w : World} {A : Around} {E Q : Value → Shared → Prop} {s : Shared} {a b : Addr} {x1 y1 x2 y2 : Value} {e1 e2 : Nat} (hu : A.units < cLine)
    (ha : s.heap.get? a = some (tupObj [x1, y1] e1)) (hb : s.heap.get? b = some (tupObj [x2, y2] e2))
    (h : wpAny (model prog w) A.in1 (eqBool x1 x2) (fun c s1 => if c = true then wpAny (model prog w) A.in1 (eqBool y1 y2) (fun d s2 => Q (.bool d) s2) E s1 else Q (.bool false) s1) E s) :
    wpAny (model prog w) A (compareOp .Eq (.ref a) (.ref b)) Q E s := by
  show wpAny _ _ (richCompare .Eq (.ref a) (.ref b)) _ _ _
  refine wpAny_richCompare_same_room (op := .Eq) ⟨_, ha, rfl⟩ ⟨_, hb, rfl⟩ PySem.F.slot_tuple_eq
      (wpAny_call_entry PySem.F.slot_tuple_eq ⟨_, ha, rfl⟩ PySem.F.entry_tuple_eq (tup2_eq ha hb ?_) (PySem.F.args_tuple_eq_2 _ _)) hu
  refine wpAny_mono h (fun c s1 hc => ?_) fun _ _ z => z
  cases c with
  | false =>
    simp only [Bool.false_eq_true, if_false] at hc ⊢
    exact ⟨_, rfl, (fun e => nomatch e), hc⟩
  | true =>
    simp only [if_true] at hc ⊢
    exact wpAny_mono hc (fun d s2 hd => ⟨_, rfl, (fun e => nomatch e), hd⟩) fun _ _ z => z
/-- two items of a comparison -/
theorem eqBool_ref {prog : Program} {w : World} {A : Around} {E : Value → Shared → Prop} {Q : Bool → Shared → Prop} {s : Shared} {x y : Addr}
    (h1 : x = y → Q true s) (h2 : wpAny (model prog w) A (compareOp .Eq (.ref x) (.ref y)) (fun v s' => ∃ b, v = .bool b ∧ Q b s') E s) : wpAny (model prog w) A (eqBool (.ref x) (.ref y)) Q E s := by
  unfold eqBool
  try with_reducible refine wpAny_holding ?_
  show wpAny _ _ (if (Value.ref x == Value.ref y) = true then _ else _) Q E s
  by_cases hab : (Value.ref x == Value.ref y) = true
  · rw [if_pos hab]
    have e : x = y := by have := eq_of_beq hab; injection this
    exact wpAny_bind (wpAny_rule (wpAny_pure (h1 e)))
  · rw [if_neg hab]
    refine wpAny_bind (wpAny_mono h2 (fun v s' hv => ?_) fun _ _ z => z)
    obtain ⟨b, rfl, hq⟩ := hv
    exact wpAny_truthy_bool hq
theorem FqIn.same {w : World} {C : Addr} {P : Int} {l : List (Addr × Obj)} {h₀ h : Heap} {L x : Addr} {n m : Int} (N : News h₀ L h l) (h1 : FqIn w C P l (.ref x) n) (h2 : FqIn w C P l (.ref x) m) : n = m := by
  cases h1 with
  | mk a b c d =>
  cases h2 with
  | mk a' b' c' d' =>
    have e1 := (N _ a).1.symm.trans (N _ a').1
    simp only [instObj, Option.some.injEq, Obj.mk.injEq] at e1
    obtain ⟨_, e1, _⟩ := e1
    subst e1
    have e2 := (N _ b).1.symm.trans (N _ b').1
    simp at e2
    exact e2.2.2.1
end Mine
end
section
open PySem PySem.W PyProof.Rows PySem.Calls PySem.Spec
open PyProof.Rows.LCg PyProof.Rows.LCt
namespace Mine
section
variable {prog : Program} {w : World} {A : Around} {E : Value → Shared → Prop} {s : Shared} {h₀ : Heap} {L : Addr} {m : Str → Option Value} {env : Env}
theorem range_walksC {I : Addr} (hh : A.handled = none) (a c : Int) (n : Nat) : Walks prog w A I [I] [I] n (fun i v => i < n ∧ ∃ t, v = .int (a + (i : Int) * c) t) (fun i h => IsRangeIter h I (a + (i : Nat) * c) ((n : Int) - (i : Nat)) c) :=
  (Walks.range hh I a c n).bound
theorem range_stC {I : Addr} {a c : Int} {n : Nat} : ∀ i (h h' : Heap) (o : Obj) (nw : List (Addr × Obj)), IsRangeIter h I (a + (i : Nat) * c) ((n : Int) - (i : Nat)) c → h.get? I = some o → h'.get? I = some o → (∀ b o, h₀.get? b = some o → h'.get? b = some o) → News h₀ L h' nw → True → IsRangeIter h' I (a + (i : Nat) * c) ((n : Int) - (i : Nat)) c :=
  fun i h h' o nw st e e' _ _ _ => by
    have st' : h.get? I = some _ := st
    show h'.get? I = some _
    rw [e', ← e]
    exact st'
def CompSrc2 (prog : Program) (w : World) (A : Around) (h₀ : Heap) (L : Addr) (m : Str → Option Value) (env : Env) (ct elt : PySem.Expr) (x : Str) (scope : Scope) (cl : List (Str × Addr)) (Q : Value → Shared → Prop) (xv : Value) (s₁ : Shared) : Prop :=
  ∃ r a b c t u v n news, xv = .ref r ∧ A.handled = none ∧ Fr h₀ L s₁.heap m ∧ News h₀ L s₁.heap news ∧ IsRange s₁.heap r a b c t u v ∧ Builtin.Range.small a b c = true ∧ Builtin.Range.rangeSize a b c = ((n : Nat) : Int) ∧ n ≤ sizeLine ∧
    ∀ s₂ : Shared, (∃ h, s₂ = { s₁ with heap := h }) → CompRestT prog w A h₀ L m env ct elt x scope cl s₂ (fun _ => True) (fun i v => i < n ∧ ∃ t, v = .int (a + (i : Int) * c) t) (FinE h₀ L m s₂ Q) n 0 [] news
theorem ListComp_2 {ct elt iter : PySem.Expr} {x : Str} {px : Pos} {scope : Scope} {cl : List (Str × Addr)} {pos : Pos} {Q : Value → Shared → Prop} (F₀ : Fr h₀ L s.heap m)
    (hclos : closureFor scope env = pure cl) (hcell : ∀ y ∈ scope.names, y.2 ≠ .cell) (hkind : scope.kind = .function)
    (hnames : ∀ y ∈ scope.names, y.2 = .local → scope.names.lookup y.1 = some .local) (hx : scope.names.lookup x = some .local)
    (h : wpAny (model prog w) A (eval iter env) (CompSrc2 prog w A h₀ L m env ct elt x scope cl Q) E s)
    (hs : ∀ x, foldedSetIterable iter env x = pure x := by intro _; rfl) :
    wpAny (model prog w) A (eval (.ListComp elt [⟨.Name x px, iter, [ct], 0⟩] scope pos) env) Q E s := by
  rw [eval_ListComp]
  refine wpAny_comprehension_free (use := none) rfl hs hclos hkind hnames (wpAny_mono h (fun xv s₁ h₁ => ?_) fun _ _ e => e)
  obtain ⟨r, a, b, c, t, u, v, n, news, rfl, hh, F, N, hr, hsm, hn, hsz, R⟩ := h₁
  refine wpAny_pyIter_range hr hsm ?_
  refine block_T (range_walksC hh a c n) hsz (fun i h st => ⟨_, st⟩) range_stC hcell hkind hx (by show IsRangeIter _ _ _ _ _; rw [hn]; simpa using Heap.get?_push_size _ rfl) (fun b hb => ?_)
    (F.keeps fun _ _ e => Heap.get?_push_of_some _ e) (N.grown fun _ _ e => Heap.get?_push_of_some _ e) (Nat.ne_of_lt F.ns.lt) (next_is_new F) (fun p hp => Nat.ne_of_lt (Heap.lt_size (N p hp).1)) trivial (R _ ⟨_, rfl⟩) ?_
  · rw [List.mem_singleton.mp hb]
    show s₁.heap.objs.size < (s₁.heap.push _).objs.size
    rw [Heap.size_push]
    exact Nat.lt_succ_self _
  · intro D C h tk m' ys news' F' N' o1 hn hC₀ hD₀ hCL hDL hCD offC fin
    refine ⟨m', hn, fun h'' hs'' => fin D h'' tk (F'.change hs'' hCL hC₀) (fun p hp => ?_) o1⟩
    refine ⟨hs''.extBut _ _ ?_ (N' p hp).1, (N' p hp).2⟩
    rcases List.mem_cons.mp hp with rfl | hp
    · exact Ne.symm hCD
    · exact offC p hp
theorem compEnd_mono {I C D : Addr} {oI oC oD : Obj} {S : List (Addr × Obj) → Prop} {r r' : Value → List (Addr × Obj) → Prop} {y : Value} {s₁ s₂ : Shared} (h : CompEnd h₀ L m s₁ I oI C oC D oD S r y s₂) (k : ∀ y l, r y l → r' y l) : CompEnd h₀ L m s₁ I oI C oC D oD S r' y s₂ :=
  let ⟨h', tk, news', e, F, N, o, hS, hr⟩ := h
  ⟨h', tk, news', e, F, N, o, hS, k _ _ hr⟩
theorem comp_indT {ct elt : PySem.Expr} {x : Str} {scope : Scope} {cl : List (Str × Addr)} {S : List (Addr × Obj) → Prop} {P : Nat → Value → Prop} {Fin : List Value → List (Addr × Obj) → Prop} {n : Nat} {news : List (Addr × Obj)} (Inv : Nat → List Value → Prop)
    (step : ∀ i ys v I oI C oC D m₂ h tk (E' : Value → Shared → Prop), i < n → Inv i ys → P i v → NsObj oC m₂ → m₂ x = some v → Fr h₀ L h m → News h₀ L h ((I, oI) :: (C, oC) :: (D, lst ys) :: news) → Off3 I C D news → ((@Ne Nat I C) ∧ (@Ne Nat I D) ∧ (@Ne Nat C D)) →
      wpAny (model prog w) A (isTrue ct (compEnvC scope cl C env) (eval ct (compEnvC scope cl C env))) (fun ok s' => if ok = true then
        wpAny (model prog w) A (eval elt (compEnvC scope cl C env)) (CompEnd h₀ L m { s with heap := h, toks := tk } I oI C oC D (lst ys) S (fun y news' => news' = news ∧ Inv (i + 1) (ys ++ [y]))) E' s'
        else CompEnd h₀ L m { s with heap := h, toks := tk } I oI C oC D (lst ys) S (fun _ news' => news' = news ∧ Inv (i + 1) ys) Value.none s') E' { s with heap := h, toks := tk })
    (fin : ∀ ys, Inv n ys → Fin ys news) : ∀ k i ys, k + i = n → Inv i ys → CompRestT prog w A h₀ L m env ct elt x scope cl s S P Fin k i ys news
  | 0, i, ys, hk, hI => fin ys (by rw [Nat.zero_add] at hk; exact hk ▸ hI)
  | k + 1, i, ys, hk, hI => by
    intro v I oI C oC D m₂ h tk E' hP hC hx F N off ne
    refine wpAny_mono (step i ys v I oI C oC D m₂ h tk E' (by omega) hI hP hC hx F N off ne) (fun ok s' hok => ?_) fun _ _ e => e
    cases ok with
    | true =>
      simp only [if_true] at hok ⊢
      refine wpAny_mono hok (fun y s2 hy => compEnd_mono hy fun y l hl => ?_) fun _ _ e => e
      obtain ⟨rfl, hI'⟩ := hl
      exact comp_indT Inv step fin k (i + 1) _ (by omega) hI'
    | false =>
      simp only [Bool.false_eq_true, if_false] at hok ⊢
      refine compEnd_mono hok fun y l hl => ?_
      obtain ⟨rfl, hI'⟩ := hl
      exact comp_indT Inv step fin k (i + 1) _ (by omega) hI'
theorem comp_indU {elt : PySem.Expr} {x : Str} {scope : Scope} {cl : List (Str × Addr)} {S : List (Addr × Obj) → Prop} {P : Nat → Value → Prop} {Fin : List Value → List (Addr × Obj) → Prop} {n : Nat} {news : List (Addr × Obj)} (Inv : Nat → List Value → Prop)
    (step : ∀ i ys v I oI C oC D m₂ h tk (E' : Value → Shared → Prop), i < n → Inv i ys → P i v → NsObj oC m₂ → m₂ x = some v → Fr h₀ L h m → News h₀ L h ((I, oI) :: (C, oC) :: (D, lst ys) :: news) → Off3 I C D news → ((@Ne Nat I C) ∧ (@Ne Nat I D) ∧ (@Ne Nat C D)) →
      wpAny (model prog w) A (eval elt (compEnvC scope cl C env)) (CompEnd h₀ L m { s with heap := h, toks := tk } I oI C oC D (lst ys) S (fun y news' => news' = news ∧ Inv (i + 1) (ys ++ [y]))) E' { s with heap := h, toks := tk })
    (fin : ∀ ys, Inv n ys → Fin ys news) : ∀ k i ys, k + i = n → Inv i ys → CompRest prog w A h₀ L m env elt x scope cl s S P Fin k i ys news
  | 0, i, ys, hk, hI => fin ys (by rw [Nat.zero_add] at hk; exact hk ▸ hI)
  | k + 1, i, ys, hk, hI => by
    intro v I oI C oC D m₂ h tk E' hP hC hx F N off ne
    refine wpAny_mono (step i ys v I oI C oC D m₂ h tk E' (by omega) hI hP hC hx F N off ne) (fun y s2 hy => compEnd_mono hy fun y l hl => ?_) fun _ _ e => e
    obtain ⟨rfl, hI'⟩ := hl
    exact comp_indU Inv step fin k (i + 1) _ (by omega) hI'
end
end Mine
end
section
open PySem PySem.W PyProof.Rows PySem.Calls PySem.Spec
namespace Mine
section
variable {w : World} {p : Program} {loose : List Str} {mean : ExcName → Option Value} {mg mb : Str → Option Value} {dp un : Nat} {gd : Option (List Code)} {cn : Str} {cs : Scope} {a : Addr} {ccd : Value} {cl : List (Str × Addr)} {outer : List Env} {A₀ : Around} {base h₀ : Heap} {L : Addr} {m : Str → Option Value} {news : List (Addr × Obj)} {s : Shared} {Q E : Value → Shared → Prop}
local macro_rules | `(tactic| k_enter) => `(tactic| (ktr_enter; refine noE ?_))
local macro_rules | `(tactic| walk_at "exec While Compare cons nil") => `(tactic| (refine Stop.mk ?_))
local macro_rules | `(tactic| mul_fits) => `(tactic| exact mulOkA (by assumption) (by assumption) (by assumption) (by assumption) (by assumption))
local macro_rules | `(tactic| walk_at "binaryOp FloorDiv int int") => `(tactic| refine floordiv_int (by assumption) ?_ (Or.inl (noPylB (by assumption) (by assumption) (by assumption))))
set_option maxHeartbeats 4000000 in
theorem pinv {v P : Int} {t1 t2 : Tok} (B : Below A₀ base outer h₀) (F : Fr h₀ L s.heap m) (X : (hd.heap_1 w.params).In h₀) (N : News h₀ L s.heap news) (T : Top p loose mean mg mb h₀) (hk : cs.kind = .function) (hdp : dp + 3 < recursionLimit) (hun : un + 24 < cLine) (hP : 1 < P) (hB : P < BIG) (hg : ∃ x y : Int, x * v + y * P = 1)
    (hret : ∀ i : Int, 0 ≤ i → i < P → (v * i) % P = 1 → RetV h₀ L m news s Q (fun t => .int i t)) : wpAny (model PySem.Challenge.rw_kh0015_01.row.prog w) (ktrTop dp un gd cn cs L a ccd cl outer) (call (.ref 126) [.int v t1, .int P t2]) Q E s := by
  have hv0 : v % P ≠ 0 := by
    intro h0
    obtain ⟨x, y, h⟩ := hg
    have e := Int.emod_add_mul_ediv v P
    rw [h0] at e
    have : P * (x * (v / P) + y) = 1 := by rw [← h, ← e]; grind
    have := Int.eq_one_of_dvd_one (by omega) ⟨_, this.symm⟩
    omega
  refine wpAny_call ?_
  (k_dflt ktr_enter; refine noE ?_)
  k_steps
  · rename v.fmod P = 0 => hz
    rw [fm _ hP] at hz
    exact absurd hz hv0
  · unfold Stop
    rename Fr _ _ _ _ => FW
    rename News _ _ _ _ => NW
    refine While_inv2 (n₀ := (v % P % P).toNat) (fun n m₁ news₁ => ∃ lm hm low high t1 t2 t3 t4 t5, Sees m₁ [(Str.ofString "lm", .int lm t1), (Str.ofString "hm", .int hm t2), (Str.ofString "low", .int low t3), (Str.ofString "high", .int high t4), (Str.ofString "n", .int P t5)] ∧ InvJ (v % P) P lm hm low high ∧ n = low.toNat ∧ ∀ p ∈ news, p ∈ news₁) FW NW ?_ ?_
    · exact ⟨_, _, _, _, _, _, _, _, _, ⟨rfl, rfl, rfl, rfl, rfl, trivial⟩, by rw [fm _ hP, fm _ hP]; exact InvJ.start hP hv0 hg, by rw [fm _ hP, fm _ hP], fun _ h => .tail _ (.tail _ h)⟩
    · clear FW NW
      rintro n m₁ news₁ h₁ tk₁ F₁ N₁ ⟨lm, hm, low, high, u1, u2, u3, u4, u5, hs, J, hn, hsub⟩
      have F₂ := frSeen F₁ hs
      clear F₁
      have b1 := J.bounds.1
      have b2 := J.bounds.2.1
      have b3 := J.l1
      have b4 := J.hp
      have b5 := J.lh
      have b6 : -P ≤ high.fdiv low ∧ high.fdiv low ≤ P := by
        rw [Int.fdiv_eq_ediv_of_nonneg high (by omega)]
        have r0 : 0 ≤ high / low := Int.ediv_nonneg (by omega) (by omega)
        have r1 : high / low ≤ high := Int.ediv_le_self _ (by omega)
        omega
      have b7 := b6.1
      have b8 := b6.2
      have b9 : -P ≤ low := by omega
      have b10 : low ≤ P := by omega
      have b11 : low ≠ 0 := by omega
      k_steps
      · rename 1 < low => hl
        have J' := J.step hl
        refine ⟨_, _, _, _, _, rfl, by k_asm, by k_asm, ?_, ⟨_, _, _, _, _, _, _, _, _, ⟨rfl, rfl, rfl, rfl, rfl, trivial⟩, J'.1, rfl, fun p h => .tail _ (.tail _ (hsub p h))⟩⟩
        have := J'.2.1
        have := J'.1.l1
        omega
      · rename ¬ 1 < low => hl
        rw [fm lm hP]
        exact hret _ (Int.emod_nonneg _ (by omega)) (Int.emod_lt_of_pos _ (by omega)) (J.done hP hl) _ _ _ (by k_asm) (cb_drop (by k_asm) hsub)
end
end Mine
end
section
open PySem PySem.W PyProof.Rows PySem.Calls PySem.Spec
namespace Mine
/-- a power's remainder, never reckoned -/
def pw (P b e : Int) : Int := ((b % P).toNat ^ e.toNat % P.toNat : Nat)
theorem powL {prog : Program} {w : World} {A : Around} {E : Value → Shared → Prop} {s : Shared} {b e P : Int} {t1 t2 t3 : Tok} {Q : Value → Shared → Prop}
    (he : 0 ≤ e) (hP : 1 < P) (h : ∀ r tk t, r = pw P b e → 0 ≤ r → r < P → Q (.int r t) { s with toks := tk }) :
    wpAny (model prog w) A (call (.builtin "pow") [.int b t1, .int e t2, .int P t3]) Q E s := by
  refine powMod3 he hP fun tk t => ?_
  have e1 : ((Builtin.powMod (b % P).toNat e.natAbs P.natAbs : Nat) : Int) = pw P b e := by
    rw [powMod_eq]
    unfold pw
    rw [show e.natAbs = e.toNat by omega, show P.natAbs = P.toNat by omega]
  rw [e1]
  refine h _ tk t rfl ?_ ?_
  · unfold pw
    exact Int.natCast_nonneg _
  · unfold pw
    have : (b % P).toNat ^ e.toNat % P.toNat < P.toNat := Nat.mod_lt _ (by omega)
    omega
def OnL (P c : Int) : Option (Int × Int) → Prop
  | none => True
  | some (x, y) => (y * y) % P = (x * x * x + c) % P
theorem oppo_on {P c x y : Int} (hP : 1 < P) (h : (y * y) % P = (x * x * x + c) % P) : ((P - y).fmod P * (P - y).fmod P) % P = (x * x * x + c) % P := by
  rw [fm _ hP, ← h, ← Int.mul_emod]
  have e : (P - y) * (P - y) = y * y + P * (P - 2 * y) := by grind
  rw [e, Int.add_mul_emod_self_left]
theorem powI3 {prog : Program} {w : World} {A : Around} {E Q : Value → Shared → Prop} {s : Shared} {a P : Int} {t u : Tok} (hB : P < BIG) (h0 : 0 ≤ a) (h1 : a < P) (h : Q (.int (a * a * a) s.toks) { s with toks := s.toks + 1 }) :
    wpAny (model prog w) A (binaryOp .Pow (.int a t) (.int 3 u)) Q E s := by
  refine pow_int (by decide) ?_ ?_
  · have := bitsB hB h0 h1
    omega
  · rw [show a ^ (3 : Int).toNat = a * a * a from int_pow_three a]
    exact h
theorem neSucc {d : Nat} {l : List (Addr × Obj)} (h : AllLt d l) : ∀ p ∈ l, p.1 ≠ d + 1 := fun p hp => Nat.ne_of_lt (Nat.lt_succ_of_lt (ktn_ltOf h p hp))
theorem neSucc' {d : Nat} {l : List (Addr × Obj)} (h : ∀ p ∈ l, p.1 < d) : ∀ p ∈ l, p.1 ≠ d + 1 := fun p hp => Nat.ne_of_lt (Nat.lt_succ_of_lt (h p hp))
/-- the j-th odd from 3 on divides f -/
def Dvs (f : Int) (j : Nat) : Prop := 3 + (j : Int) * 2 < f ∧ f % (3 + (j : Int) * 2) = 0
/-- a prime of the law's choice -/
def Prm (P : Int) : Prop := ∀ d e : Nat, (d : Int) * e = P → d = 1 ∨ e = 1
def PrimeOk (P : Int) : Prop := 6 < P ∧ P < BIG ∧ Prm P
theorem PrimeOk.six {P : Int} (h : PrimeOk P) : 6 < P := h.1
theorem PrimeOk.big {P : Int} (h : PrimeOk P) : P < BIG := h.2.1
theorem PrimeOk.one {P : Int} (h : PrimeOk P) : 1 < P := Int.lt_trans (by decide) h.1
theorem shlo {z P : Int} (h : 1 < P) : 0 < 1 + z.fmod (P - 1) := by
  have := fmod_lo z (show 0 < P - 1 by omega)
  omega
theorem shle {z P : Int} (h : 1 < P) : 0 ≤ 1 + z.fmod (P - 1) := Int.le_of_lt (shlo h)
theorem shhi {z P : Int} (h : 1 < P) : 1 + z.fmod (P - 1) < P := by
  have := fmod_hi z (show 0 < P - 1 by omega)
  omega
theorem great_ok {n : Nat} (h6 : 6 < n) (hB : n < 2 ^ 400) (h : NPrm n) : PrimeOk n := ⟨by omega, by
    have h2 : ((n : Nat) : Int) < ((2 ^ 400 : Nat) : Int) := Int.ofNat_lt.mpr hB
    exact h2, fun d e hd => h.2 d e (Int.ofNat_inj.mp (by rw [Int.natCast_mul]; exact hd))⟩
theorem great1 : PrimeOk 4002409555221667393417789825735904156556882819939007885332058136124031650490837864442687629129015664037894272559787 := great_ok (by decide) (by decide +kernel) gP1
theorem great2 : PrimeOk 21888242871839275222246405745257275088696311157297823662689037894645226208583 := great_ok (by decide) (by decide +kernel) gP2
theorem lowB {f : Int} (h : f ≤ 2000) : f < BIG := Int.lt_of_le_of_lt h (by unfold BIG; decide)
theorem small_aux {f : Int} (h4 : f % 4 = 3) (hd : ∀ j : Nat, j < 15 → ¬ Dvs f j) (d e : Nat) (h : (d : Int) * e = f) (hl : d ≤ 32) : d = 1 ∨ e = 1 := by
  have hod : d % 2 = 1 := by
    rcases Nat.mod_two_eq_zero_or_one d with h0 | h0
    · exfalso
      obtain ⟨c, rfl⟩ : ∃ c, d = 2 * c := ⟨d / 2, by omega⟩
      have : f % 2 = 0 := by
        rw [← h, Int.natCast_mul, Int.mul_assoc]
        exact Int.mul_emod_right _ _
      omega
    · exact h0
  rcases Nat.lt_or_ge d 3 with h3 | h3
  · exact .inl (by omega)
  by_cases he : e = 1
  · exact .inr he
  exfalso
  refine hd ((d - 3) / 2) (by omega) ⟨?_, ?_⟩
  · rw [show (3 : Int) + (((d - 3) / 2 : Nat) : Int) * 2 = d by omega, ← h]
    rcases Nat.eq_zero_or_pos e with e0 | e0
    · subst e0
      omega
    · have h2 : d * 2 ≤ d * e := Nat.mul_le_mul_left d (by omega)
      have h3 : ((d * 2 : Nat) : Int) ≤ ((d * e : Nat) : Int) := Int.ofNat_le.mpr h2
      rw [Int.natCast_mul, Int.natCast_mul] at h3
      omega
  · rw [show (3 : Int) + (((d - 3) / 2 : Nat) : Int) * 2 = d by omega, ← h]
    exact Int.mul_emod_right _ _
theorem small_prm {f : Int} (h4 : f % 4 = 3) (hu : f ≤ 1019) (hd : ∀ j : Nat, j < 15 → ¬ Dvs f j) : Prm f := by
  intro d e h
  rcases Nat.lt_or_ge 32 d with hl | hl
  · rcases Nat.lt_or_ge 32 e with hm | hm
    · exfalso
      have h2 : 33 * 33 ≤ d * e := Nat.mul_le_mul hl hm
      have h3 : ((33 * 33 : Nat) : Int) ≤ ((d * e : Nat) : Int) := Int.ofNat_le.mpr h2
      rw [Int.natCast_mul d e, h] at h3
      omega
    · exact (small_aux h4 hd e d (by rw [Int.mul_comm]; exact h) hm).symm
  · exact small_aux h4 hd d e h hl
theorem dvs_1019 {f : Int} (hu : f ≤ 1019) (h : ∃ j : Nat, j < 15 ∧ Dvs f j) (h4 : f % 4 = 3) : f + 4 ≤ 1019 := by
  obtain ⟨j, hj, h1, h2⟩ := h
  have hne : f ≠ 1019 := by
    rintro rfl
    revert h2
    clear h1
    revert j
    decide
  omega
/-- sizes -/
def Sz (x : Int) (k : Nat) : Prop := x.natAbs < 2 ^ k
theorem Sz.var {x P : Int} (hB : P < BIG) (h0 : 0 ≤ x) (h1 : x < P) : Sz x 400 := by
  have h2 : x < 2 ^ 400 := Int.lt_trans h1 hB
  have h3 : ((x.natAbs : Nat) : Int) < ((2 ^ 400 : Nat) : Int) := by
    rw [Int.natAbs_of_nonneg h0]
    exact h2
  exact Int.ofNat_lt.mp h3
theorem Sz.fmod {x P : Int} (hB : P < BIG) (hP : 1 < P) : Sz (x.fmod P) 400 := Sz.var hB (fmod_lo x (by omega)) (fmod_hi x (by omega))
theorem Sz.mono {x : Int} {k l : Nat} (h : Sz x k) (e : k ≤ l) : Sz x l := Nat.lt_of_lt_of_le h (Nat.pow_le_pow_right (by decide) e)
theorem Sz.lit {x : Int} (h : x.natAbs < 1024) : Sz x 10 := h
theorem Sz.neg {x : Int} {k : Nat} (h : Sz x k) : Sz (-x) k := by
  unfold Sz at *
  rw [Int.natAbs_neg]
  exact h
theorem Sz.add {x y : Int} {k : Nat} (h : Sz x k) (h' : Sz y k) : Sz (x + y) (k + 1) := by
  unfold Sz at *
  rw [Nat.pow_succ]
  have := Int.natAbs_add_le x y
  omega
theorem Sz.sub {x y : Int} {k : Nat} (h : Sz x k) (h' : Sz y k) : Sz (x - y) (k + 1) := by
  unfold Sz at *
  rw [Nat.pow_succ]
  have := Int.natAbs_sub_le x y
  omega
theorem Sz.mul {x y : Int} {k l : Nat} (h : Sz x k) (h' : Sz y l) : Sz (x * y) (k + l) := by
  unfold Sz at *
  rw [Int.natAbs_mul, Nat.pow_add]
  exact Nat.mul_lt_mul'' h h'
theorem Sz.ok {x y : Int} {k l : Nat} (h : Sz x k) (h' : Sz y l) (hk : k ≤ 100000) (hl : l ≤ 100000) : IntMulOk x y :=
  IntMulOk.of_bits (Nat.le_trans (intBits_le h) (Nat.le_trans hk (by decide))) (Nat.le_trans (intBits_le h') (Nat.le_trans hl (by decide)))
theorem Sz.three {x P : Int} (hB : P < BIG) (h0 : 0 ≤ x) (h1 : x < P) : Sz (3 * x) 410 := (Sz.lit (x := 3) (by decide)).mul (Sz.var hB h0 h1)
theorem Sz.two {x P : Int} (hB : P < BIG) (h0 : 0 ≤ x) (h1 : x < P) : Sz (2 * x) 410 := (Sz.lit (x := 2) (by decide)).mul (Sz.var hB h0 h1)
/-- a point of the law's own -/
inductive L2 (P : Int) (news : List (Addr × Obj)) : Value → Option (Int × Int) → Prop
  | none : L2 P news .none none
  | mk {t : Addr} {x y : Int} {u1 u2 : Tok} {e : Nat} : (t, tupObj [.int x u1, .int y u2] e) ∈ news → 0 ≤ x → x < P → 0 ≤ y → y < P → L2 P news (.ref t) (some (x, y))
theorem L2.mono {P : Int} {l l' : List (Addr × Obj)} {v : Value} {q : Option (Int × Int)} (hs : Sub l l') (h : L2 P l v q) : L2 P l' v q := by
  cases h with
  | none => exact .none
  | mk a b c d e => exact .mk (hs _ a) b c d e
theorem L2.cast {P : Int} {l : List (Addr × Obj)} {v : Value} {q q' : Option (Int × Int)} (h : L2 P l v q) (e : q = q') : L2 P l v q' := e ▸ h
theorem L2.cln {P : Int} {l l' : List (Addr × Obj)} {v : Value} {q : Option (Int × Int)} (hs : Cln l l') (h : L2 P l v q) : L2 P l' v q := by
  cases h with
  | none => exact .none
  | mk a b c d e => exact .mk (hs _ a rfl) b c d e
abbrev RetL2 (P : Int) (h₀ : Heap) (L : Addr) (m : Str → Option Value) (news : List (Addr × Obj)) (s : Shared) (Q : Value → Shared → Prop) (q : Option (Int × Int)) : Prop :=
  ∀ (v : Value) l h' tk', Fr h₀ L h' m → News h₀ L h' l → Sub news l → L2 P l v q → Q v { s with heap := h', toks := tk' }
def opL (P : Int) : Option (Int × Int) → Option (Int × Int)
  | none => none
  | some (x, y) => some (x, (P - y) % P)
def slL (P run climb : Int) : Int := climb * pw P (run % P) (P - 2) % P
def outL (P sl x1 y1 x2 : Int) : Int × Int := ((sl * sl - x1 - x2) % P, (sl * (x1 - (sl * sl - x1 - x2) % P) - y1) % P)
def sumL (P : Int) : Option (Int × Int) → Option (Int × Int) → Option (Int × Int)
  | none, b => b
  | some a, none => some a
  | some (x1, y1), some (x2, y2) => if x1 = x2 then (if (y1 + y2) % P = 0 then none else some (outL P (slL P (2 * y1) (3 * x1 * x1)) x1 y1 x2))
      else some (outL P (slL P (x2 - x1) (y2 - y1)) x1 y1 x2)
section
variable {P x1 y1 x2 y2 : Int}
theorem sumL_1 (h : x1 = x2) (h2 : (y1 + y2) % P = 0) : none = sumL P (some (x1, y1)) (some (x2, y2)) := by
  simp only [sumL]
  rw [if_pos h, if_pos h2]
theorem sumL_2 (h : x1 = x2) (h2 : ¬ (y1 + y2) % P = 0) : some (outL P (slL P (2 * y1) (3 * x1 * x1)) x1 y1 x2) = sumL P (some (x1, y1)) (some (x2, y2)) := by
  simp only [sumL]
  rw [if_pos h, if_neg h2]
theorem sumL_3 (h : ¬ x1 = x2) : some (outL P (slL P (x2 - x1) (y2 - y1)) x1 y1 x2) = sumL P (some (x1, y1)) (some (x2, y2)) := by
  simp only [sumL]
  rw [if_neg h]
theorem outL_lo {sl : Int} (hP : 1 < P) : 0 ≤ (outL P sl x1 y1 x2).1 ∧ (outL P sl x1 y1 x2).1 < P ∧ 0 ≤ (outL P sl x1 y1 x2).2 ∧ (outL P sl x1 y1 x2).2 < P :=
  ⟨Int.emod_nonneg _ (by omega), Int.emod_lt_of_pos _ (by omega), Int.emod_nonneg _ (by omega), Int.emod_lt_of_pos _ (by omega)⟩
end
/-- a row: the law's point, the plain one, the projective one -/
abbrev Row := Option (Int × Int) × Option (Int × Int) × (Int × Int × Int)
inductive R3 (w : World) (P : Int) (news : List (Addr × Obj)) : Value → Row → Prop
  | mk {t : Addr} {va vb : Value} {f : Addr} {a b : Option (Int × Int)} {c : Int × Int × Int} {e : Nat} : (t, tupObj [va, vb, .ref f] e) ∈ news → L2 P news va a → P2 w P news vb b → P3 w P news (.ref f) c → R3 w P news (.ref t) (a, b, c)
theorem R3.mono {w : World} {P : Int} {l l' : List (Addr × Obj)} {v : Value} {q : Row} (hs : Sub l l') (h : R3 w P l v q) : R3 w P l' v q := by
  cases h with
  | mk a b c d => exact .mk (hs _ a) (b.mono hs) (c.mono hs) (d.mono hs)
theorem R3.cast {w : World} {P : Int} {l : List (Addr × Obj)} {v : Value} {q q' : Row} (h : R3 w P l v q) (e : q = q') : R3 w P l v q' := e ▸ h
abbrev RetRow (w : World) (P : Int) (h₀ : Heap) (L : Addr) (m : Str → Option Value) (news : List (Addr × Obj)) (s : Shared) (Q : Value → Shared → Prop) (q : Row) : Prop :=
  ∀ (x : Addr) l h' tk', Fr h₀ L h' m → News h₀ L h' l → Sub news l → R3 w P l (.ref x) q → Q (.ref x) { s with heap := h', toks := tk' }
def Cons (P : Int) : Row → Prop
  | (none, b, (_, _, z)) => b = none ∧ z = 0
  | (some (px, py), b, (x, y, z)) => b = some (px, py) ∧ ¬ z = 0 ∧ (px * z - x) % P = 0 ∧ (py * z - y) % P = 0
def rowL (P : Int) (q : Option (Int × Int)) (c : Int) : Row :=
  match q with
  | none => (none, none, (c % P, c % P, 0 % P))
  | some (x, y) => if y = 0 then (none, none, (c % P, c % P, 0 % P)) else (some (x, y), some (x % P, y % P), (x * c % P, y * c % P, c % P))
def sevL (P : Int) (q : Option (Int × Int)) : Nat → Option (Int × Int)
  | 0 => none
  | k + 1 => sumL P (sevL P q k) q
end Mine
end
section
open PySem PySem.W PyProof.Rows PySem.Calls PySem.Spec
namespace Mine
section
variable {n : Nat} [NeZero n]
theorem ph_nat (x : Nat) : ph n (x : Int) = ph n (x : Int) := rfl
theorem ph_inj {x y : Int} (h0 : 0 ≤ x) (h1 : x < n) (h2 : 0 ≤ y) (h3 : y < n) (h : ph n x = ph n y) : x = y := by
  rw [ph_eq, Int.emod_eq_of_lt h0 h1, Int.emod_eq_of_lt h2 h3] at h
  exact h
theorem ph_nz {x : Int} (h0 : 0 ≤ x) (h1 : x < n) (h : x ≠ 0) : ph n x ≠ 0 := by
  intro e
  rw [ph_zero, Int.emod_eq_of_lt h0 h1] at e
  exact h e
theorem ph_val {x : Int} (h0 : 0 ≤ x) (h1 : x < n) : x = 0 ↔ ph n x = 0 := by
  constructor
  · rintro rfl
    exact ph_0
  · intro h
    exact Classical.byContradiction fun e => ph_nz h0 h1 e h
theorem dom {x y : Int} (hp : NPrm n) (h : ph n x * ph n y = 0) : ph n x = 0 ∨ ph n y = 0 := by
  rw [← ph_mul, ph_zero] at h
  have hd : (n : Int) ∣ x * y := Int.dvd_of_emod_eq_zero h
  rw [Int.ofNat_dvd_left, Int.natAbs_mul] at hd
  rcases hp.mul hd with h1 | h1
  · left
    exact ph_zero.mpr (Int.emod_eq_zero_of_dvd (Int.ofNat_dvd_left.mpr h1))
  · right
    exact ph_zero.mpr (Int.emod_eq_zero_of_dvd (Int.ofNat_dvd_left.mpr h1))
theorem pw_inv {x : Int} (hp : NPrm n) (h : ph n x ≠ 0) : ph n x * ph n (pw n (x % n) (n - 2)) = 1 := by
  have hp1 := hp.1
  rw [← ph_mul, ← ph_1, ph_eq]
  obtain ⟨X, hX⟩ : ∃ X : Nat, x % n = X := ⟨(x % n).toNat, by have := Int.emod_nonneg x (show (n : Int) ≠ 0 by omega); omega⟩
  have hX0 : ¬ n ∣ X := fun hd => by
    refine h (ph_zero.mpr ?_)
    rw [hX]
    have h2 : x % n < n := Int.emod_lt_of_pos _ (by omega)
    rcases Nat.eq_zero_or_pos X with h0 | h0
    · rw [h0]
      rfl
    · have := Nat.le_of_dvd h0 hd
      omega
  have hf := flt hp hX0
  unfold pw
  rw [Int.mul_emod, hX]
  have e1 : ((n : Int) - 2).toNat = n - 2 := by omega
  have e2 : ((X : Int) % (n : Int)).toNat = X % n := by
    rw [← Int.natCast_emod, Int.toNat_natCast]
  rw [e1, e2, Int.toNat_natCast, ← Int.natCast_emod, ← Int.natCast_mul, ← Int.natCast_emod, Nat.mod_mod, Nat.pow_mod, Nat.mod_mod, ← Nat.pow_mod, Nat.mul_mod_mod, ← Nat.pow_succ', show (n - 2).succ = n - 1 by omega, hf]
  rw [Int.emod_eq_of_lt (by decide) (by omega)]
  rfl
theorem bez {x : Int} (hp : NPrm n) (h : ph n x ≠ 0) : Bez n x := by
  have h1 := pw_inv hp h
  generalize pw n (x % n) (n - 2) = i at h1
  rw [← ph_mul, ← ph_1, ph_eq] at h1
  have hp1 := hp.1
  rw [Int.emod_eq_of_lt (show (0 : Int) ≤ 1 by decide) (by omega)] at h1
  refine ⟨i, - (x * i / n), ?_⟩
  have := Int.mul_ediv_add_emod (x * i) n
  rw [h1] at this
  rw [Int.mul_comm i x, Int.neg_mul, Int.mul_comm _ (n : Int)]
  omega
theorem ne0_inv {x : Int} (hp : NPrm n) (h : ph n x ≠ 0) : ∃ i : Fin n, ph n x * i = 1 := ⟨_, pw_inv hp h⟩
def InR (n : Nat) (x : Int) : Prop := 0 ≤ x ∧ x < n
theorem InR.mod (x : Int) : InR n (x % n) := ⟨Int.emod_nonneg _ (by have := NeZero.ne n; omega), Int.emod_lt_of_pos _ (by have := NeZero.ne n; omega)⟩
/-- the third point upon a line of slope m -/
def Lin (n : Nat) [NeZero n] (x1 y1 x2 : Int) (m : Fin n) (r : Int × Int) : Prop :=
  InR n r.1 ∧ InR n r.2 ∧ ph n r.1 = m * m - ph n x1 - ph n x2 ∧ ph n r.2 = m * (ph n x1 - ph n r.1) - ph n y1
theorem Lin.one {x1 y1 x2 : Int} {m m' : Fin n} {r r' : Int × Int} (h : Lin n x1 y1 x2 m r) (h' : Lin n x1 y1 x2 m' r') (e : m = m') : r = r' := by
  subst e
  obtain ⟨a, b, c, d⟩ := h
  obtain ⟨a', b', c', d'⟩ := h'
  have e1 : r.1 = r'.1 := ph_inj a.1 a.2 a'.1 a'.2 (c.trans c'.symm)
  have e2 : r.2 = r'.2 := ph_inj b.1 b.2 b'.1 b'.2 (by rw [d, d', e1])
  exact Prod.ext e1 e2
theorem outL_lin {sl x1 y1 x2 : Int} : Lin n x1 y1 x2 (ph n sl) (outL n sl x1 y1 x2) := by
  refine ⟨InR.mod _, InR.mod _, ?_, ?_⟩ <;> simp only [outL, ph_mod, ph_sub, ph_mul]
theorem slL_eq {run climb : Int} (hp : NPrm n) (h : ph n run ≠ 0) : ph n (slL n run climb) * ph n run = ph n climb := by
  unfold slL
  have h1 := pw_inv hp h
  rw [ph_mod, ph_mul]
  generalize ph n (pw n (run % n) (n - 2)) = i at *
  generalize ph n run = a at *
  generalize ph n climb = b at *
  have : b * i * a = b * (a * i) := by clear h1 h; grind
  rw [this, h1]
  clear h1 h this
  grind
theorem dblP_lin {x y : Int} {r : Option (Int × Int)} (hp : NPrm n) (h : DblP n (some (x, y)) r) : ∃ q m, r = some q ∧ Lin n x y x m q ∧ m * (2 * ph n y) = 3 * ph n x * ph n x := by
  obtain ⟨i, hi, h0, h1, rfl⟩ := h
  have e := congrArg (ph n) hi
  rw [ph_mod, ph_mul, ph_mod, ph_mul, ph_2, ph_1] at e
  refine ⟨_, ph n (pM n x i), rfl, ⟨InR.mod _, InR.mod _, ?_, ?_⟩, ?_⟩
  · simp only [ph_mod, ph_sub, ph_mul, ph_2]
    generalize ph n x = a
    generalize ph n (pM n x i) = b
    clear e
    grind
  · simp only [pY, ph_mod, ph_sub, ph_mul, ph_2, ph_add, ph_neg]
    generalize ph n x = a
    generalize ph n (pM n x i) = b
    clear e
    grind
  · simp only [pM, ph_mod, ph_mul, ph_3]
    generalize ph n x = a at *
    generalize ph n y = b at *
    generalize ph n i = c at *
    have : a * a * 3 * c * (2 * b) = a * a * 3 * (b * 2 * c) := by clear e; grind
    rw [this, e]
    clear e this
    grind
theorem addP_lin {x1 y1 x2 y2 i : Int} (hp : NPrm n) (e : (x2 - x1) % n * i % n = 1) : Lin n x1 y1 x2 (ph n (aM n y1 y2 i)) (aX n (aM n y1 y2 i) x1 x2, pY n (aM n y1 y2 i) (aX n (aM n y1 y2 i) x1 x2) x1 y1) ∧ ph n (aM n y1 y2 i) * (ph n x2 - ph n x1) = ph n y2 - ph n y1 := by
  have e := congrArg (ph n) e
  rw [ph_mod, ph_mul, ph_mod, ph_sub, ph_1] at e
  refine ⟨⟨InR.mod _, InR.mod _, ?_, ?_⟩, ?_⟩
  · simp only [aX, ph_mod, ph_sub, ph_mul]
  · simp only [pY, aX, ph_mod, ph_sub, ph_mul, ph_2, ph_add, ph_neg]
    generalize ph n x1 = a
    generalize ph n x2 = a2
    generalize ph n (aM n y1 y2 i) = b
    clear e
    grind
  · simp only [aM, ph_mod, ph_mul, ph_sub]
    generalize ph n x1 = a at *
    generalize ph n x2 = a2 at *
    generalize ph n y1 = b at *
    generalize ph n y2 = b2 at *
    generalize ph n i = c at *
    have : (b2 - b) * c * (a2 - a) = (b2 - b) * ((a2 - a) * c) := by clear e; grind
    rw [this, e]
    clear e this
    grind
theorem slope_one {a d m m' i : Fin n} (h : m * d = a) (h' : m' * d = a) (hi : d * i = 1) : m = m' := by
  refine can (d := d) (i := i) ?_ hi
  have e1 : d * m = m * d := by clear h h' hi; grind
  have e2 : d * m' = m' * d := by clear h h' hi e1; grind
  rw [e1, e2, h, h']
def InQ (n : Nat) : Option (Int × Int) → Prop
  | none => True
  | some (x, y) => InR n x ∧ InR n y
def Nz : Option (Int × Int) → Prop
  | none => True
  | some (_, y) => y ≠ 0
def RowOk (n : Nat) (c : Int) : Row → Prop
  | (q, b, (x, y, z)) => Cons n (q, b, (x, y, z)) ∧ OnL n c q ∧ InQ n q ∧ InR n z
theorem on_ph {c x y : Int} : OnL n c (some (x, y)) ↔ ph n y * ph n y = ph n x * ph n x * ph n x + ph n c := by
  show (y * y) % (n : Int) = (x * x * x + c) % (n : Int) ↔ _
  rw [← ph_eq, ph_mul, ph_add, ph_mul, ph_mul]
theorem ph_small {k : Int} (h0 : 0 < k) (h1 : k < n) : ph n k ≠ 0 := ph_nz (by omega) h1 (by omega)
theorem ph_eight (hp : NPrm n) (h6 : 6 < n) : ph n 8 ≠ 0 := by
  rw [show (8 : Int) = 2 * (2 * 2) from rfl, ph_mul, ph_mul]
  intro e
  have h2 : ph n 2 ≠ 0 := ph_small (by decide) (by omega)
  have e' : ph n 2 * ph n (2 * 2) = 0 := by
    rw [ph_mul]
    exact e
  rcases dom hp e' with e | e
  · exact h2 e
  · rw [ph_mul] at e
    rcases dom hp e with e | e <;> exact h2 e
theorem two_inv {y : Int} (hp : NPrm n) (h6 : 6 < n) (hy : InR n y) (h : y ≠ 0) : ∃ i : Fin n, 2 * ph n y * i = 1 := by
  have h2 : ph n (2 * y) ≠ 0 := by
    rw [ph_mul]
    intro e
    rcases dom hp e with e | e
    · exact ph_small (by decide) (by omega) e
    · exact ph_nz hy.1 hy.2 h e
  obtain ⟨i, hi⟩ := ne0_inv hp h2
  rw [ph_mul, ph_2] at hi
  exact ⟨i, hi⟩
theorem two_ne {y : Int} (hp : NPrm n) (h6 : 6 < n) (hy : InR n y) (h : y ≠ 0) : ph n (2 * y) ≠ 0 := by
  rw [ph_mul]
  intro e
  rcases dom hp e with e | e
  · exact ph_small (by decide) (by omega) e
  · exact ph_nz hy.1 hy.2 h e
theorem sum_dbl {x y : Int} (hp : NPrm n) (h6 : 6 < n) (hy : InR n y) (h : y ≠ 0) :
    ∃ q m, sumL n (some (x, y)) (some (x, y)) = some q ∧ Lin n x y x m q ∧ m * (2 * ph n y) = 3 * ph n x * ph n x := by
  have h2 := two_ne hp h6 hy h
  refine ⟨_, ph n (slL n (2 * y) (3 * x * x)), ?_, outL_lin, ?_⟩
  · refine (sumL_2 rfl ?_).symm
    intro e
    refine h2 (ph_zero.mpr ?_)
    rw [← e]
    congr 1
    omega
  · have h3 := slL_eq (climb := 3 * x * x) hp h2
    simp only [ph_mul, ph_2, ph_3] at h3
    exact h3
theorem sum_add {x1 y1 x2 y2 : Int} (hp : NPrm n) (h1 : InR n x1) (h2 : InR n x2) (h : ¬ x1 = x2) :
    ph n (x2 - x1) ≠ 0 ∧ ∃ q m, sumL n (some (x1, y1)) (some (x2, y2)) = some q ∧ Lin n x1 y1 x2 m q ∧ m * (ph n x2 - ph n x1) = ph n y2 - ph n y1 := by
  have hne : ph n (x2 - x1) ≠ 0 := by
    rw [ph_sub]
    intro e
    refine h (ph_inj h1.1 h1.2 h2.1 h2.2 ?_)
    exact (sub0 e).symm
  refine ⟨hne, _, ph n (slL n (x2 - x1) (y2 - y1)), (sumL_3 h).symm, outL_lin, ?_⟩
  have h3 := slL_eq (climb := y2 - y1) hp hne
  rw [ph_sub, ph_sub] at h3
  exact h3
theorem cons_ph {px py x y z : Int} {b : Option (Int × Int)} : Cons n (some (px, py), b, (x, y, z)) ↔ b = some (px, py) ∧ z ≠ 0 ∧ ph n x = ph n px * ph n z ∧ ph n y = ph n py * ph n z := by
  show (b = some (px, py) ∧ ¬ z = 0 ∧ (px * z - x) % (n : Int) = 0 ∧ (py * z - y) % (n : Int) = 0) ↔ _
  rw [← ph_zero, ← ph_zero, ph_sub, ph_sub, ph_mul, ph_mul]
  constructor
  · rintro ⟨h1, h2, h3, h4⟩
    exact ⟨h1, h2, (sub0 h3).symm, (sub0 h4).symm⟩
  · rintro ⟨h1, h2, h3, h4⟩
    refine ⟨h1, h2, ?_, ?_⟩
    · rw [h3]
      clear h3 h4
      grind
    · rw [h4]
      clear h3 h4
      grind
theorem bez_mod {x : Int} (hp : NPrm n) (h : ph n x ≠ 0) : Bez n (x % n) := bez hp (by rw [ph_mod]; exact h)
theorem row_dbl {c : Int} {q b : Option (Int × Int)} {f : Int × Int × Int} (hp : NPrm n) (h6 : 6 < n) (h : RowOk n c (q, b, f)) (hz : Nz q) :
    DblOk n b ∧ ∀ r, DblP n b r → RowOk n c (sumL n q q, r, dblO n f) := by
  obtain ⟨x, y, z⟩ := f
  obtain ⟨hc, ho, hi, hzr⟩ := h
  cases q with
  | none =>
    obtain ⟨rfl, rfl⟩ := hc
    refine ⟨trivial, fun r hr => ?_⟩
    have hr : r = none := hr
    subst hr
    refine ⟨⟨rfl, ?_⟩, trivial, trivial, InR.mod _⟩
    simp only [oS, Int.mul_zero, Int.zero_mul, Int.zero_emod]
  | some a =>
    obtain ⟨px, py⟩ := a
    obtain ⟨rfl, hz0, hx, hy⟩ := cons_ph.mp hc
    have h2 := two_ne hp h6 hi.2 hz
    refine ⟨?_, fun r hr => ?_⟩
    · show Bez n (py * 2 % n)
      rw [Int.mul_comm]
      exact bez_mod hp h2
    · obtain ⟨q1, m1, rfl, l1, e1⟩ := dblP_lin hp hr
      obtain ⟨q2, m2, e2, l2, e3⟩ := sum_dbl (x := px) hp h6 hi.2 hz
      obtain ⟨i, hi2⟩ := two_inv hp h6 hi.2 hz
      have hm := slope_one e1 e3 hi2
      have hq := l1.one l2 hm
      subst hq
      rw [e2]
      refine ⟨cons_ph.mpr ⟨rfl, ?_, ?_⟩, ?_, ⟨l1.1, l1.2.1⟩, InR.mod _⟩
      · have hS : ph n (oS n y z) ≠ 0 := by
          unfold oS
          rw [ph_mod, ph_mul, hy]
          intro e
          have e' : ph n (py * z) * ph n z = 0 := by
            rw [ph_mul]
            exact e
          rcases dom hp e' with e | e
          · rw [ph_mul] at e
            rcases dom hp e with e | e
            · exact ph_nz hi.2.1 hi.2.2 hz e
            · exact ph_nz hzr.1 hzr.2 hz0 e
          · exact ph_nz hzr.1 hzr.2 hz0 e
        intro e0
        have e := (ph_val (InR.mod _).1 (InR.mod _).2).mp e0
        rw [ph_mod, ph_mul, ph_mod, ph_mod] at e
        rcases dom hp e with e | e
        · rw [ph_mul] at e
          rcases dom hp e with e | e
          · exact hS e
          · exact ph_eight hp h6 e
        · rw [ph_mul] at e
          rcases dom hp e with e | e <;> exact hS e
      · have hr2 := r_dblO (x := ph n x) (y := ph n y) (z := ph n z) hx hy e1 l1.2.2.1 l1.2.2.2
        simp only [oH, oB, oS, oW, ph_mod, ph_mul, ph_sub, ph_2, ph_3, ph_4, ph_8]
        exact ⟨hr2.1.symm, hr2.2.symm⟩
      · exact on_ph.mpr (r_dbl_on (on_ph.mp ho) e1 l1.2.2.1 l1.2.2.2)
theorem same_iff {p1 p2 z1 z2 a1 a2 : Int} (hp : NPrm n) (h1 : InR n p1) (h2 : InR n p2) (hz1 : ph n z1 ≠ 0) (hz2 : ph n z2 ≠ 0) (e1 : ph n a1 = ph n p1 * ph n z1) (e2 : ph n a2 = ph n p2 * ph n z2) :
    a2 * z1 % (n : Int) = a1 * z2 % (n : Int) ↔ p1 = p2 := by
  rw [← ph_eq, ph_mul, ph_mul, e1, e2]
  constructor
  · intro e
    have e3 : ph n (p1 - p2) * ph n (z1 * z2) = 0 := by
      rw [ph_sub, ph_mul]
      clear e1 e2 hz1 hz2
      grind
    rcases dom hp e3 with e4 | e4
    · rw [ph_sub] at e4
      exact ph_inj h1.1 h1.2 h2.1 h2.2 (sub0 e4)
    · rw [ph_mul] at e4
      rcases dom hp e4 with e4 | e4
      · exact absurd e4 hz1
      · exact absurd e4 hz2
  · rintro rfl
    clear e1 e2 hz1 hz2
    grind
theorem row_add {c : Int} {q1 b1 q2 b2 : Option (Int × Int)} {f1 f2 : Int × Int × Int} (hp : NPrm n) (h6 : 6 < n) (H1 : RowOk n c (q1, b1, f1)) (H2 : RowOk n c (q2, b2, f2)) (hz : Nz q1) :
    AddOk n b1 b2 ∧ ∀ r, AddP n b1 b2 r → RowOk n c (sumL n q1 q2, r, addO n f1 f2) := by
  have D1 := row_dbl hp h6 H1 hz
  have H1' := H1
  have H2' := H2
  obtain ⟨x1, y1, z1⟩ := f1
  obtain ⟨x2, y2, z2⟩ := f2
  obtain ⟨hc1, ho1, hi1, hr1⟩ := H1
  obtain ⟨hc2, ho2, hi2, hr2⟩ := H2
  cases q1 with
  | none =>
    obtain ⟨rfl, rfl⟩ := hc1
    refine ⟨by cases b2 <;> trivial, fun r hr => ?_⟩
    have hr : r = b2 := hr
    subst hr
    by_cases hz2 : z2 = 0
    · rw [← addO_1 rfl hz2]
      cases q2 with
      | none =>
        obtain ⟨rfl, rfl⟩ := hc2
        exact H1'
      | some a => exact absurd hz2 (cons_ph.mp hc2).2.1
    · rw [← addO_2 rfl hz2]
      exact H2'
  | some a1 =>
    obtain ⟨p1, s1⟩ := a1
    obtain ⟨rfl, hz1, hx1, hy1⟩ := cons_ph.mp hc1
    cases q2 with
    | none =>
      obtain ⟨rfl, rfl⟩ := hc2
      refine ⟨trivial, fun r hr => ?_⟩
      have hr : r = some (p1, s1) := hr
      subst hr
      rw [← addO_3 hz1 rfl]
      exact H1'
    | some a2 =>
      obtain ⟨p2, s2⟩ := a2
      obtain ⟨rfl, hz2, hx2, hy2⟩ := cons_ph.mp hc2
      have hz1' := ph_nz hr1.1 hr1.2 hz1
      have hz2' := ph_nz hr2.1 hr2.2 hz2
      have sx := same_iff hp hi1.1 hi2.1 hz1' hz2' hx1 hx2
      have sy := same_iff hp hi1.2 hi2.2 hz1' hz2' hy1 hy2
      by_cases hpx : p1 = p2
      · subst hpx
        by_cases hpy : s1 = s2
        · subst hpy
          refine ⟨⟨fun _ _ => D1.1, fun h => absurd rfl h⟩, fun r hr => ?_⟩
          rw [← addO_4 hz1 hz2 (sx.mpr rfl) (sy.mpr rfl)]
          rcases hr with ⟨_, _, hr⟩ | ⟨_, h, _⟩ | ⟨h, _⟩
          · exact D1.2 r hr
          · exact absurd rfl h
          · exact absurd rfl h
        · refine ⟨⟨fun _ h => absurd h.symm hpy, fun h => absurd rfl h⟩, fun r hr => ?_⟩
          rw [← addO_5 hz1 hz2 (sx.mpr rfl) (fun h => hpy (sy.mp h))]
          have hs : (s1 + s2) % (n : Int) = 0 := by
            rw [← ph_zero]
            have e1 := on_ph.mp ho1
            have e2 := on_ph.mp ho2
            have e3 : ph n (s1 - s2) * ph n (s1 + s2) = 0 := by
              rw [ph_sub, ph_add]
              have e4 : (ph n s1 - ph n s2) * (ph n s1 + ph n s2) = ph n s1 * ph n s1 - ph n s2 * ph n s2 := by
                clear e1 e2 hx1 hy1 hx2 hy2
                grind
              rw [e4, e1, e2]
              clear e1 e2 e4 hx1 hy1 hx2 hy2
              grind
            rcases dom hp e3 with e4 | e4
            · rw [ph_sub] at e4
              exact absurd (ph_inj hi1.2.1 hi1.2.2 hi2.2.1 hi2.2.2 (sub0 e4)) hpy
            · exact e4
          rw [← sumL_1 rfl hs]
          rcases hr with ⟨_, h, _⟩ | ⟨_, _, hr⟩ | ⟨h, _⟩
          · exact absurd h.symm hpy
          · subst hr
            exact ⟨⟨rfl, rfl⟩, trivial, trivial, ⟨by decide, by show (0 : Int) < n; omega⟩⟩
          · exact absurd rfl h
      · obtain ⟨hne, q, m, e2, l2, e3⟩ := sum_add (y1 := s1) (y2 := s2) hp hi1.1 hi2.1 hpx
        refine ⟨⟨fun h => absurd h.symm hpx, fun _ => bez_mod hp hne⟩, fun r hr => ?_⟩
        rw [← addO_6 hz1 hz2 (fun h => hpx (sx.mp h)), e2]
        rcases hr with ⟨h, _⟩ | ⟨h, _⟩ | ⟨_, i, hi, _, _, rfl⟩
        · exact absurd h.symm hpx
        · exact absurd h.symm hpx
        · obtain ⟨l1, e1⟩ := addP_lin (y1 := s1) (y2 := s2) hp hi
          obtain ⟨j, hj⟩ := ne0_inv hp hne
          rw [ph_sub] at hj
          have hq := l1.one l2 (slope_one e1 e3 hj)
          subst hq
          refine ⟨cons_ph.mpr ⟨rfl, ?_, ?_⟩, ?_, ⟨l1.1, l1.2.1⟩, InR.mod _⟩
          · intro e0
            have e := (ph_val (InR.mod _).1 (InR.mod _).2).mp e0
            have hV : ph n (x2 * z1 - x1 * z2) ≠ 0 := by
              rw [ph_sub, ph_mul, ph_mul]
              intro e
              refine hpx (sx.mp ?_)
              rw [← ph_eq, ph_mul, ph_mul]
              exact sub0 e
            simp only [ph_mod, ph_mul, ph_sub] at e
            have e' : ph n ((x2 * z1 - x1 * z2) * ((x2 * z1 - x1 * z2) * (x2 * z1 - x1 * z2))) * ph n (z1 * z2) = 0 := by
              simp only [ph_mul, ph_sub]
              exact e
            rcases dom hp e' with e | e
            · rw [ph_mul] at e
              rcases dom hp e with e | e
              · exact hV e
              · rw [ph_mul] at e
                rcases dom hp e with e | e <;> exact hV e
            · rw [ph_mul] at e
              rcases dom hp e with e | e
              · exact hz1' e
              · exact hz2' e
          · have hr2 := r_addO hx1 hy1 hx2 hy2 e1 l1.2.2.1 l1.2.2.2
            simp only [ph_mod, ph_mul, ph_sub, ph_2]
            exact ⟨hr2.1.symm, hr2.2.symm⟩
          · exact on_ph.mpr (r_add_on (on_ph.mp ho1) (on_ph.mp ho2) e1 hj l1.2.2.1 l1.2.2.2)
theorem neg_map {q : Option (Int × Int)} : opL n q = q.map fun a => (a.1, -a.2 % (n : Int)) := by
  cases q with
  | none => rfl
  | some a =>
    obtain ⟨x, y⟩ := a
    show some (x, (n - y) % (n : Int)) = some (x, -y % (n : Int))
    rw [Int.sub_eq_add_neg, Int.add_emod_left]
theorem row_neg {c : Int} {q b : Option (Int × Int)} {x y z : Int} (H : RowOk n c (q, b, (x, y, z))) :
    RowOk n c (opL n q, b.map fun a => (a.1, -a.2 % (n : Int)), (x, -y % (n : Int), z)) := by
  obtain ⟨hc, ho, hi, hr⟩ := H
  rw [neg_map]
  cases q with
  | none =>
    obtain ⟨rfl, rfl⟩ := hc
    exact ⟨⟨rfl, rfl⟩, trivial, trivial, hr⟩
  | some a =>
    obtain ⟨p, s⟩ := a
    obtain ⟨rfl, hz, hx, hy⟩ := cons_ph.mp hc
    refine ⟨cons_ph.mpr ⟨rfl, hz, hx, ?_⟩, on_ph.mpr ?_, ⟨hi.1, InR.mod _⟩, hr⟩
    · simp only [ph_mod, ph_neg]
      rw [hy]
      clear hx hy
      grind
    · have e := on_ph.mp ho
      simp only [ph_mod, ph_neg]
      rw [← e]
      clear e hx hy
      grind
theorem r_three {R : Type} [Lean.Grind.CommRing R] {x y t x2 y2 u : R} (hx2 : x2 = t * t - x - x) (hy2 : y2 = t * (x - x2) - y) (hu : u * (x - x2) = y - y2) (hx3 : x = u * u - x2 - x) : 2 * y2 * (2 * y) = 0 := by
  have a1 : y = y2 + u * (x - x2) := by
    rw [hu]
    clear hx2 hy2 hu hx3
    grind
  have a2 : 2 * y2 = (u - t) * (x2 - x) := by
    rw [a1] at hy2
    clear hx2 hu hx3 a1
    have : 2 * y2 = t * (x - x2) - u * (x - x2) := by
      generalize x - x2 = d at *
      grind
    rw [this]
    clear hy2 this
    grind
  have a3 : 2 * y = - ((u + t) * (x2 - x)) := by
    rw [a1]
    have : 2 * (y2 + u * (x - x2)) = 2 * y2 + 2 * (u * (x - x2)) := by clear hx2 hy2 hu hx3 a1 a2; grind
    rw [this, a2]
    clear hx2 hy2 hu hx3 a1 a2 this
    grind
  rw [a2, a3]
  have e : (u - t) * (x2 - x) * -((u + t) * (x2 - x)) = - ((u * u - t * t) * ((x2 - x) * (x2 - x))) := by clear hx2 hy2 hu hx3 a1 a2 a3; grind
  have e2 : u * u - t * t = 0 := by clear hy2 hu a1 a2 a3 e; grind
  rw [e, e2]
  clear hx2 hy2 hu hx3 a1 a2 a3 e e2
  grind
theorem four {c : Int} {q b : Option (Int × Int)} {f : Int × Int × Int} (hp : NPrm n) (h6 : 6 < n) (H : RowOk n c (q, b, f)) (hz : Nz q) (hz2 : Nz (sumL n q q)) :
    sumL n (sumL n (sumL n q q) q) q = sumL n (sumL n q q) (sumL n q q) := by
  obtain ⟨x0, y0, z0⟩ := f
  obtain ⟨_, _, hi, _⟩ := H
  cases q with
  | none => rfl
  | some a =>
    obtain ⟨x, y⟩ := a
    have hy0 : y ≠ 0 := hz
    obtain ⟨⟨x2, y2⟩, t, e2, l2, ht⟩ := sum_dbl (x := x) hp h6 hi.2 hy0
    rw [e2] at hz2 ⊢
    have hy2 : y2 ≠ 0 := hz2
    obtain ⟨⟨X4, Y4⟩, s, e4, l4, hs⟩ := sum_dbl (x := x2) hp h6 l2.2.1 hy2
    rw [e4]
    obtain ⟨i1, hi1⟩ := two_inv hp h6 hi.2 hy0
    obtain ⟨i2, hi2⟩ := two_inv hp h6 l2.2.1 hy2
    obtain ⟨lx2, ly2, ex2, ey2⟩ := l2
    obtain ⟨lx4, ly4, ex4, ey4⟩ := l4
    dsimp only at lx2 ly2 ex2 ey2 lx4 ly4 ex4 ey4
    by_cases hx : x2 = x
    · subst hx
      have hn : ph n y2 = - ph n y := by
        rw [ey2]
        clear ey4 ex4 ey2 ex2 hs ht hi1 hi2
        grind
      have hsum : (y2 + y) % (n : Int) = 0 := by
        rw [← ph_zero, ph_add, hn]
        clear ey4 ex4 ey2 ex2 hs ht hi1 hi2 hn
        grind
      rw [← sumL_1 rfl hsum]
      show some (x2, y) = some (X4, Y4)
      have hst : t = - s := by
        refine can (d := 2 * ph n y) (i := i1) ?_ hi1
        rw [hn] at hs
        have k1 : 2 * ph n y * t = t * (2 * ph n y) := by clear ey4 ex4 ey2 ex2 hs ht hi1 hi2 hn; grind
        have k2 : 2 * ph n y * -s = s * (2 * - ph n y) := by clear ey4 ex4 ey2 ex2 hs ht hi1 hi2 hn k1; grind
        rw [k1, k2, ht, hs]
      have hX : X4 = x2 := by
        refine ph_inj lx4.1 lx4.2 lx2.1 lx2.2 ?_
        have k1 : s * s = t * t := by
          rw [hst]
          clear ey4 ex4 ey2 ex2 hs ht hi1 hi2 hn hst
          grind
        rw [ex4, k1]
        exact ex2.symm
      have hY : Y4 = y := by
        refine ph_inj ly4.1 ly4.2 hi.2.1 hi.2.2 ?_
        rw [ey4, hX, hn]
        clear ey4 ex4 ey2 ex2 hs ht hi1 hi2 hn hst
        grind
      rw [hX, hY]
    · obtain ⟨hne, ⟨x3, y3⟩, u, e3, l3, hu⟩ := sum_add (y1 := y2) (y2 := y) hp lx2 hi.1 hx
      rw [e3]
      obtain ⟨lx3, ly3, ex3, ey3⟩ := l3
      dsimp only at lx3 ly3 ex3 ey3
      by_cases hx3 : x3 = x
      · exfalso
        subst hx3
        have k := r_three ex2 ey2 hu ex3
        have k' : ph n (2 * y2) * ph n (2 * y) = 0 := by
          simp only [ph_mul, ph_2]
          exact k
        rcases dom hp k' with k | k
        · exact two_ne hp h6 ly2 hy2 k
        · exact two_ne hp h6 hi.2 hy0 k
      · obtain ⟨hne3, ⟨x4, y4⟩, v, e5, l5, hv⟩ := sum_add (y1 := y3) (y2 := y) hp lx3 hi.1 hx3
        rw [e5]
        obtain ⟨lx5, ly5, ex5, ey5⟩ := l5
        dsimp only at lx5 ly5 ex5 ey5
        obtain ⟨i3, hi3⟩ := ne0_inv hp hne3
        rw [ph_sub] at hi3
        have k := r_four ht ex2 ey2 hu ex3 ey3 hv ex5 ey5 hs ex4 ey4 hi2 hi3
        rw [ph_inj lx5.1 lx5.2 lx4.1 lx4.2 k.1, ph_inj ly5.1 ly5.2 ly4.1 ly4.2 k.2]
theorem sev2 {q : Option (Int × Int)} : sevL n q 2 = sumL n q q := rfl
theorem sev4 {c : Int} {q b : Option (Int × Int)} {f : Int × Int × Int} (hp : NPrm n) (h6 : 6 < n) (H : RowOk n c (q, b, f)) (hz : Nz q) (hz2 : Nz (sevL n q 2)) : sevL n q 4 = sumL n (sevL n q 2) (sevL n q 2) := four hp h6 H hz hz2
theorem row_0 {c : Int} {q : Option (Int × Int)} (h6 : 6 < n) : RowOk n c (sevL n q 0, none, (1, 1, 0)) := ⟨⟨rfl, rfl⟩, trivial, trivial, ⟨by decide, by show (0 : Int) < n; omega⟩⟩
theorem row_1 {c : Int} {q b : Option (Int × Int)} {f : Int × Int × Int} (H : RowOk n c (q, b, f)) : RowOk n c (sevL n q 1, b, f) := H
theorem row_2 {c : Int} {q b : Option (Int × Int)} {f : Int × Int × Int} (hp : NPrm n) (h6 : 6 < n) (H : RowOk n c (q, b, f)) (hz : Nz q) {r : Option (Int × Int)} (hr : DblP n b r) : RowOk n c (sevL n q 2, r, dblO n f) := (row_dbl hp h6 H hz).2 r hr
theorem row_3 {c : Int} {q b : Option (Int × Int)} {f : Int × Int × Int} (hp : NPrm n) (h6 : 6 < n) (H : RowOk n c (q, b, f)) (hz : Nz q) (hz2 : Nz (sevL n q 2)) {r : Option (Int × Int)} (hr : DblP n b r) :
    AddOk n r b ∧ ∀ r2, AddP n r b r2 → RowOk n c (sevL n q 3, r2, addO n (dblO n f) f) := row_add hp h6 (row_2 hp h6 H hz hr) H hz2
theorem row_4 {c : Int} {q b : Option (Int × Int)} {f : Int × Int × Int} (hp : NPrm n) (h6 : 6 < n) (H : RowOk n c (q, b, f)) (hz : Nz q) (hz2 : Nz (sevL n q 2)) {r : Option (Int × Int)} (hr : DblP n b r) :
    DblOk n r ∧ ∀ r2, DblP n r r2 → RowOk n c (sevL n q 4, r2, dblO n (dblO n f)) := by
  rw [sev4 hp h6 H hz hz2]
  exact row_dbl hp h6 (row_2 hp h6 H hz hr) hz2
theorem row_5 {c : Int} {q b : Option (Int × Int)} {f : Int × Int × Int} (hp : NPrm n) (h6 : 6 < n) (H : RowOk n c (q, b, f)) (hz : Nz q) (hz2 : Nz (sevL n q 2)) (hz4 : Nz (sevL n q 4)) {r r2 : Option (Int × Int)} (hr : DblP n b r) (hr2 : DblP n r r2) :
    AddOk n r2 b ∧ ∀ r3, AddP n r2 b r3 → RowOk n c (sevL n q 5, r3, addO n (dblO n (dblO n f)) f) := row_add hp h6 ((row_4 hp h6 H hz hz2 hr).2 r2 hr2) H hz4
theorem mod_val {x y : Int} : x % (n : Int) = y % (n : Int) ↔ ph n x = ph n y := ph_eq.symm
theorem row_eq {c : Int} {q b : Option (Int × Int)} {f : Int × Int × Int} (H : RowOk n c (q, b, f)) : b = q := by
  obtain ⟨x, y, z⟩ := f
  obtain ⟨hc, _⟩ := H
  cases q with
  | none => exact hc.1
  | some a => exact hc.1
theorem onP_iff {x y c : Int} : onP n (c % n) (some (x, y)) = decide (ph n y * ph n y - ph n x * ph n x * ph n x - ph n c = 0) := by
  have e : (y * y % (n : Int) - x * x % (n : Int) * x % (n : Int)) % (n : Int) = c % (n : Int) ↔ ph n y * ph n y - ph n x * ph n x * ph n x - ph n c = 0 := by
    rw [← ph_eq]
    simp only [ph_mod, ph_sub, ph_mul]
    constructor
    · intro h
      rw [h]
      clear h
      grind
    · exact fun h => sub0 h
  simp only [onP]
  exact decide_eq_decide.mpr e
theorem row_onP {c : Int} {q b : Option (Int × Int)} {f : Int × Int × Int} (H : RowOk n c (q, b, f)) : onP n (c % n) b = true := by
  rw [row_eq H]
  obtain ⟨x, y, z⟩ := f
  obtain ⟨_, ho, _⟩ := H
  cases q with
  | none => rfl
  | some a =>
    obtain ⟨px, py⟩ := a
    rw [onP_iff, on_ph.mp ho]
    refine decide_eq_true ?_
    clear ho
    grind
theorem onO_iff {x y z c : Int} (hz : z ≠ 0) : onO n (c % n) (x, y, z) = decide (ph n y * ph n y * ph n z - ph n x * ph n x * ph n x - ph n c * (ph n z * ph n z * ph n z) = 0) := by
  rw [onO_2 hz]
  have e : (y * y % (n : Int) * z % (n : Int) - x * x % (n : Int) * x % (n : Int)) % (n : Int) = c % (n : Int) * (z * z % (n : Int) * z % (n : Int)) % (n : Int) ↔ ph n y * ph n y * ph n z - ph n x * ph n x * ph n x - ph n c * (ph n z * ph n z * ph n z) = 0 := by
    rw [← ph_eq]
    simp only [ph_mod, ph_sub, ph_mul]
    constructor
    · intro h
      rw [h]
      clear h
      grind
    · exact fun h => sub0 h
  exact decide_eq_decide.mpr e
theorem row_onO {c : Int} {q b : Option (Int × Int)} {f : Int × Int × Int} (H : RowOk n c (q, b, f)) : onO n (c % n) f = true := by
  obtain ⟨x, y, z⟩ := f
  obtain ⟨hc, ho, _⟩ := H
  cases q with
  | none =>
    obtain ⟨_, rfl⟩ := hc
    exact onO_1 rfl
  | some a =>
    obtain ⟨px, py⟩ := a
    obtain ⟨_, hz, hx, hy⟩ := cons_ph.mp hc
    rw [onO_iff hz, hx, hy]
    refine decide_eq_true ?_
    have e := on_ph.mp ho
    have k : ph n py * ph n z * (ph n py * ph n z) * ph n z = (ph n py * ph n py) * (ph n z * ph n z * ph n z) := by clear e ho hc hx hy; grind
    rw [k, e]
    clear e ho hc hx hy k
    grind
theorem row_movedP {c mv px py : Int} {b : Option (Int × Int)} {f : Int × Int × Int} (H : RowOk n c (some (px, py), b, f)) :
    onP n (c % n) (some (px, (py + mv) % n)) = decide ((2 * py + mv) * mv % (n : Int) = 0) := by
  obtain ⟨x, y, z⟩ := f
  obtain ⟨_, ho, _⟩ := H
  rw [onP_iff]
  refine decide_eq_decide.mpr ?_
  rw [← ph_zero]
  simp only [ph_mod, ph_add, ph_mul, ph_2]
  have k : (ph n py + ph n mv) * (ph n py + ph n mv) - ph n px * ph n px * ph n px - ph n c = (2 * ph n py + ph n mv) * ph n mv + (ph n py * ph n py - (ph n px * ph n px * ph n px + ph n c)) := by clear ho; grind
  have k2 : (2 * ph n py + ph n mv) * ph n mv + (ph n px * ph n px * ph n px + ph n c - (ph n px * ph n px * ph n px + ph n c)) = (2 * ph n py + ph n mv) * ph n mv := by clear ho k; grind
  rw [k, on_ph.mp ho, k2]
theorem row_movedO {c mv px py x y z : Int} {b : Option (Int × Int)} (hp : NPrm n) (H : RowOk n c (some (px, py), b, (x, y, z))) :
    onO n (c % n) (x, (y + z * mv % n) % n, z) = decide ((2 * py + mv) * mv % (n : Int) = 0) := by
  obtain ⟨hc, ho, _, hr⟩ := H
  obtain ⟨_, hz, hx, hy⟩ := cons_ph.mp hc
  have hz' := ph_nz hr.1 hr.2 hz
  rw [onO_iff hz]
  refine decide_eq_decide.mpr ?_
  rw [← ph_zero]
  simp only [ph_mod, ph_add, ph_mul, ph_2]
  rw [hx, hy]
  have k : (ph n py * ph n z + ph n z * ph n mv) * (ph n py * ph n z + ph n z * ph n mv) * ph n z - ph n px * ph n z * (ph n px * ph n z) * (ph n px * ph n z) - ph n c * (ph n z * ph n z * ph n z) = ((2 * ph n py + ph n mv) * ph n mv + (ph n py * ph n py - (ph n px * ph n px * ph n px + ph n c))) * (ph n z * ph n z * ph n z) := by clear ho hc hx hy; grind
  have k2 : (2 * ph n py + ph n mv) * ph n mv + (ph n px * ph n px * ph n px + ph n c - (ph n px * ph n px * ph n px + ph n c)) = (2 * ph n py + ph n mv) * ph n mv := by clear ho hc hx hy k; grind
  rw [k, on_ph.mp ho, k2]
  constructor
  · intro e
    have e' : ph n ((2 * py + mv) * mv) * ph n (z * z * z) = 0 := by
      simp only [ph_add, ph_mul, ph_2]
      exact e
    rcases dom hp e' with e1 | e1
    · simp only [ph_add, ph_mul, ph_2] at e1
      exact e1
    · rw [ph_mul] at e1
      rcases dom hp e1 with e1 | e1
      · rw [ph_mul] at e1
        rcases dom hp e1 with e1 | e1 <;> exact absurd e1 hz'
      · exact absurd e1 hz'
  · intro e
    rw [e]
    clear e ho hc hx hy k k2
    grind
theorem row_norm {c px py x y z i j : Int} {b : Option (Int × Int)} (H : RowOk n c (some (px, py), b, (x, y, z))) (hi : z * i % (n : Int) = 1) (hj : z * j % (n : Int) = 1) : x * i % (n : Int) = px ∧ y * j % (n : Int) = py := by
  obtain ⟨hc, _, hin, _⟩ := H
  obtain ⟨_, hz, hx, hy⟩ := cons_ph.mp hc
  have e1 := congrArg (ph n) hi
  have e2 := congrArg (ph n) hj
  rw [ph_mod, ph_mul, ph_1] at e1 e2
  constructor
  · refine ph_inj (InR.mod _).1 (InR.mod _).2 hin.1.1 hin.1.2 ?_
    rw [ph_mod, ph_mul, hx]
    have k : ph n px * ph n z * ph n i = ph n px * (ph n z * ph n i) := by clear hx hy e1 e2 hc; grind
    rw [k, e1]
    clear hx hy e1 e2 hc k
    grind
  · refine ph_inj (InR.mod _).1 (InR.mod _).2 hin.2.1 hin.2.2 ?_
    rw [ph_mod, ph_mul, hy]
    have k : ph n py * ph n z * ph n j = ph n py * (ph n z * ph n j) := by clear hx hy e1 e2 hc; grind
    rw [k, e2]
    clear hx hy e1 e2 hc k
    grind
theorem row_bez {c px py x y z : Int} {b : Option (Int × Int)} (hp : NPrm n) (H : RowOk n c (some (px, py), b, (x, y, z))) : Bez n z := by
  obtain ⟨hc, _, _, hr⟩ := H
  obtain ⟨_, hz, _⟩ := cons_ph.mp hc
  exact bez hp (ph_nz hr.1 hr.2 hz)
theorem rowL_ok {c s : Int} {q : Option (Int × Int)} (hp : NPrm n) (ho : OnL n c q) (hi : InQ n q) (hs : 0 < s) (hs1 : s < n) : RowOk n c (rowL n q s) ∧ Nz (rowL n q s).1 := by
  cases q with
  | none => exact ⟨⟨⟨rfl, Int.zero_emod _⟩, trivial, trivial, InR.mod _⟩, trivial⟩
  | some a =>
    obtain ⟨x, y⟩ := a
    by_cases hy : y = 0
    · simp only [rowL, if_pos hy]
      exact ⟨⟨⟨rfl, Int.zero_emod _⟩, trivial, trivial, InR.mod _⟩, trivial⟩
    · simp only [rowL, if_neg hy]
      refine ⟨⟨cons_ph.mpr ⟨?_, ?_, ?_, ?_⟩, ho, hi, InR.mod _⟩, hy⟩
      · rw [Int.emod_eq_of_lt hi.1.1 hi.1.2, Int.emod_eq_of_lt hi.2.1 hi.2.2]
      · rw [Int.emod_eq_of_lt (by omega) hs1]
        omega
      · simp only [ph_mod, ph_mul]
      · simp only [ph_mod, ph_mul]
end
end Mine
end
section
open PySem PySem.W PyProof.Rows PySem.Calls PySem.Spec
namespace Mine
def RowI (P c : Int) (r : Row) : Prop := ∃ n : Nat, P = n ∧ RowOk n c r
section
variable {P c : Int} {q b q1 b1 q2 b2 : Option (Int × Int)} {f f1 f2 : Int × Int × Int}
theorem PrimeOk.nat (h : PrimeOk P) {n : Nat} (e : P = n) : NeZero n ∧ NPrm n ∧ 6 < n := by
  subst e
  have h6 := h.1
  exact ⟨⟨by omega⟩, ⟨by omega, fun d e hd => h.2.2 d e (by rw [← hd, Int.natCast_mul])⟩, by omega⟩
theorem rowI_add (hP : PrimeOk P) (H1 : RowI P c (q1, b1, f1)) (H2 : RowI P c (q2, b2, f2)) (hz : Nz q1) : AddOk P b1 b2 ∧ ∀ r, AddP P b1 b2 r → RowI P c (sumL P q1 q2, r, addO P f1 f2) := by
  obtain ⟨n, e, H1⟩ := H1
  obtain ⟨n', e', H2⟩ := H2
  obtain ⟨i1, i2, i3⟩ := hP.nat e
  subst e
  have := Int.ofNat_inj.mp e'
  subst this
  have k := row_add i2 i3 H1 H2 hz
  exact ⟨k.1, fun r hr => ⟨n, rfl, k.2 r hr⟩⟩
theorem rowI_dbl (hP : PrimeOk P) (H : RowI P c (q, b, f)) (hz : Nz q) : DblOk P b ∧ ∀ r, DblP P b r → RowI P c (sumL P q q, r, dblO P f) := by
  obtain ⟨n, e, H⟩ := H
  obtain ⟨i1, i2, i3⟩ := hP.nat e
  subst e
  have k := row_dbl i2 i3 H hz
  exact ⟨k.1, fun r hr => ⟨n, rfl, k.2 r hr⟩⟩
theorem rowI_neg {x y z : Int} (hP : PrimeOk P) (H : RowI P c (q, b, (x, y, z))) : RowI P c (opL P q, b.map fun a => (a.1, -a.2 % P), (x, -y % P, z)) := by
  obtain ⟨n, e, H⟩ := H
  obtain ⟨i1, i2, i3⟩ := hP.nat e
  subst e
  exact ⟨n, rfl, row_neg H⟩
def MulP (P : Int) (b : Option (Int × Int)) : Nat → Option (Int × Int) → Prop
  | 0, r => r = none
  | 1, r => r = b
  | 2, r => DblP P b r
  | 3, r => ∃ r1, DblP P b r1 ∧ AddP P r1 b r
  | 4, r => ∃ r1, DblP P b r1 ∧ DblP P r1 r
  | 5, r => ∃ r1 r2, DblP P b r1 ∧ DblP P r1 r2 ∧ AddP P r2 b r
  | _, _ => False
theorem rowI_mul3 (hP : PrimeOk P) (H : RowI P c (q, b, f)) (hz : Nz q) (hz2 : Nz (sevL P q 2)) : ∀ r, DblP P b r → AddOk P r b := by
  obtain ⟨n, e, H⟩ := H
  obtain ⟨i1, i2, i3⟩ := hP.nat e
  subst e
  exact fun r hr => (row_3 i2 i3 H hz hz2 hr).1
theorem rowI_mul4 (hP : PrimeOk P) (H : RowI P c (q, b, f)) (hz : Nz q) (hz2 : Nz (sevL P q 2)) : ∀ r, DblP P b r → DblOk P r := by
  obtain ⟨n, e, H⟩ := H
  obtain ⟨i1, i2, i3⟩ := hP.nat e
  subst e
  exact fun r hr => (row_4 i2 i3 H hz hz2 hr).1
theorem rowI_mul5 (hP : PrimeOk P) (H : RowI P c (q, b, f)) (hz : Nz q) (hz2 : Nz (sevL P q 2)) (hz4 : Nz (sevL P q 4)) : ∀ r r2, DblP P b r → DblP P r r2 → AddOk P r2 b := by
  obtain ⟨n, e, H⟩ := H
  obtain ⟨i1, i2, i3⟩ := hP.nat e
  subst e
  exact fun r r2 hr hr2 => (row_5 i2 i3 H hz hz2 hz4 hr hr2).1
theorem rowI_mul (hP : PrimeOk P) (H : RowI P c (q, b, f)) (hz : Nz q) (hz2 : Nz (sevL P q 2)) (hz4 : Nz (sevL P q 4)) : ∀ (k : Nat) r, MulP P b k r → RowI P c (sevL P q k, r, mulO P f k) := by
  obtain ⟨n, e, H⟩ := H
  obtain ⟨i1, i2, i3⟩ := hP.nat e
  subst e
  intro k r hr
  refine ⟨n, rfl, ?_⟩
  match k, hr with
  | 0, hr =>
    have hr : r = none := hr
    subst hr
    exact row_0 i3
  | 1, hr =>
    have hr : r = b := hr
    subst hr
    exact row_1 H
  | 2, hr => exact row_2 i2 i3 H hz hr
  | 3, ⟨r1, h1, h2⟩ => exact (row_3 i2 i3 H hz hz2 h1).2 _ h2
  | 4, ⟨r1, h1, h2⟩ => exact (row_4 i2 i3 H hz hz2 h1).2 _ h2
  | 5, ⟨r1, r2, h1, h2, h3⟩ => exact (row_5 i2 i3 H hz hz2 hz4 h1 h2).2 _ h3
theorem rowI_row {s : Int} {q : Option (Int × Int)} (hP : PrimeOk P) (ho : OnL P c q) (hi : InQ P.toNat q) (hs : 0 < s) (hs1 : s < P) : RowI P c (rowL P q s) ∧ Nz (rowL P q s).1 := by
  obtain ⟨n, rfl⟩ : ∃ n : Nat, P = n := ⟨P.toNat, by have := hP.1; omega⟩
  obtain ⟨i1, i2, i3⟩ := hP.nat rfl
  have k := rowL_ok i2 ho hi hs hs1
  exact ⟨⟨n, rfl, k.1⟩, k.2⟩
theorem rowI_cons (H : RowI P c (q, b, f)) : Cons P (q, b, f) := by
  obtain ⟨n, rfl, H⟩ := H
  exact H.1
theorem rowI_onP (hP : PrimeOk P) (H : RowI P c (q, b, f)) : onP P (c % P) b = true := by
  obtain ⟨n, e, H⟩ := H
  obtain ⟨i1, i2, i3⟩ := hP.nat e
  subst e
  exact row_onP H
theorem rowI_onO (hP : PrimeOk P) (H : RowI P c (q, b, f)) : onO P (c % P) f = true := by
  obtain ⟨n, e, H⟩ := H
  obtain ⟨i1, i2, i3⟩ := hP.nat e
  subst e
  exact row_onO H
theorem rowI_eq (hP : PrimeOk P) (H : RowI P c (q, b, f)) : b = q := by
  obtain ⟨n, e, H⟩ := H
  obtain ⟨i1, i2, i3⟩ := hP.nat e
  subst e
  exact row_eq H
theorem rowI_movedP {mv px py : Int} (hP : PrimeOk P) (H : RowI P c (some (px, py), b, f)) : onP P (c % P) (some (px, (py + mv) % P)) = decide ((2 * py + mv) * mv % P = 0) := by
  obtain ⟨n, e, H⟩ := H
  obtain ⟨i1, i2, i3⟩ := hP.nat e
  subst e
  exact row_movedP H
theorem rowI_movedO {mv px py x y z : Int} (hP : PrimeOk P) (H : RowI P c (some (px, py), b, (x, y, z))) : onO P (c % P) (x, (y + z * mv % P) % P, z) = decide ((2 * py + mv) * mv % P = 0) := by
  obtain ⟨n, e, H⟩ := H
  obtain ⟨i1, i2, i3⟩ := hP.nat e
  subst e
  exact row_movedO i2 H
theorem rowI_norm {px py x y z i j : Int} (hP : PrimeOk P) (H : RowI P c (some (px, py), b, (x, y, z))) (hi : z * i % P = 1) (hj : z * j % P = 1) : x * i % P = px ∧ y * j % P = py := by
  obtain ⟨n, e, H⟩ := H
  obtain ⟨i1, i2, i3⟩ := hP.nat e
  subst e
  exact row_norm H hi hj
theorem rowI_bez {px py x y z : Int} (hP : PrimeOk P) (H : RowI P c (some (px, py), b, (x, y, z))) : Bez P z := by
  obtain ⟨n, e, H⟩ := H
  obtain ⟨i1, i2, i3⟩ := hP.nat e
  subst e
  exact row_bez i2 H
theorem L2.inq {news : List (Addr × Obj)} {v : Value} (h : L2 P news v q) : InQ P.toNat q := by
  cases h with
  | none => trivial
  | mk a b c d e => exact ⟨⟨b, by omega⟩, ⟨d, by omega⟩⟩
end
end Mine
end
section
open PySem PySem.W PyProof.Rows PySem.Calls PySem.Spec
namespace Mine
/-- the law's body and its scope -/
def lawFn : List Stmt × Scope := match PySem.Challenge.pw_kh0015_01.main.body.getLast? with
  | some (.FunctionDef _ _ body _ _ _ scope _ _ _) => (body, scope)
  | _ => ([], { kind := .function, names := [], isGenerator := false, isCoroutine := false })
/-- no list -/
def nolist (o : Obj) : Bool := match o.cls with
  | .ref _ => true
  | .type n => n == "dict" || n == "tuple"
  | _ => false
def Cl2 (l l' : List (Addr × Obj)) : Prop := ∀ p ∈ l, nolist p.2 = true → p ∈ l'
theorem nolist_good {o : Obj} (h : nolist o = true) : good o = true := by
  unfold nolist at h
  unfold good
  cases hc : o.cls with
  | ref a => rfl
  | type n =>
    rw [hc] at h
    simp only [Bool.or_eq_true] at h ⊢
    exact Or.inl h
  | _ =>
    rw [hc] at h
    cases h
theorem Cl2.ofSub {l l' : List (Addr × Obj)} (h : Sub l l') : Cl2 l l' := fun p hp _ => h p hp
theorem Cl2.ofCln {l l' : List (Addr × Obj)} (h : Cln l l') : Cl2 l l' := fun p hp hg => h p hp (nolist_good hg)
theorem Cl2.trans {l l' l'' : List (Addr × Obj)} (a : Cl2 l l') (b : Cl2 l' l'') : Cl2 l l'' := fun p h g => b p (a p h g) g
theorem FqIn.cl2 {w : World} {C : Addr} {P : Int} {l l' : List (Addr × Obj)} {v : Value} {n : Int} (hs : Cl2 l l') (h : FqIn w C P l v n) : FqIn w C P l' v n := by
  cases h with
  | mk a b c d => exact .mk (hs _ a rfl) (hs _ b rfl) c d
theorem P3.cl2 {w : World} {P : Int} {l l' : List (Addr × Obj)} {v : Value} {q : Int × Int × Int} (hs : Cl2 l l') (h : P3 w P l v q) : P3 w P l' v q := by
  cases h with
  | mk a b c d => exact .mk (hs _ a rfl) (b.cl2 hs) (c.cl2 hs) (d.cl2 hs)
theorem P2.cl2 {w : World} {P : Int} {l l' : List (Addr × Obj)} {v : Value} {q : Option (Int × Int)} (hs : Cl2 l l') (h : P2 w P l v q) : P2 w P l' v q := by
  cases h with
  | none => exact .none
  | mk a b c => exact .mk (hs _ a rfl) (b.cl2 hs) (c.cl2 hs)
theorem L2.cl2 {P : Int} {l l' : List (Addr × Obj)} {v : Value} {q : Option (Int × Int)} (hs : Cl2 l l') (h : L2 P l v q) : L2 P l' v q := by
  cases h with
  | none => exact .none
  | mk a b c d e => exact .mk (hs _ a rfl) b c d e
theorem R3.cl2 {w : World} {P : Int} {l l' : List (Addr × Obj)} {v : Value} {q : Row} (hs : Cl2 l l') (h : R3 w P l v q) : R3 w P l' v q := by
  cases h with
  | mk a b c d => exact .mk (hs _ a rfl) (b.cl2 hs) (c.cl2 hs) (d.cl2 hs)
/-- the ledger with R's object turned -/
def setL (R : Addr) (o : Obj) (l : List (Addr × Obj)) : List (Addr × Obj) := (R, o) :: l.filter fun p => decide (p.1 ≠ R)
theorem mem_setL {R : Addr} {o : Obj} {l : List (Addr × Obj)} {p : Addr × Obj} (h : p ∈ l) (hn : p.1 ≠ R) : p ∈ setL R o l := .tail _ (List.mem_filter.mpr ⟨h, decide_eq_true hn⟩)
theorem cl2_setL {h₀ h : Heap} {L R : Addr} {o : Obj} {l : List (Addr × Obj)} {vs : Array Value} {n : Nat} (N : News h₀ L h l) (hm : (R, listOf vs n) ∈ l) : Cl2 l (setL R o l) := fun p hp hg => mem_setL hp fun e => by
  have e1 := (N _ hp).1
  rw [e, (N _ hm).1] at e1
  rw [← Option.some.inj e1] at hg
  cases hg
section
variable {prog : Program} {w : World} {A : Around} {E : Value → Shared → Prop} {s : Shared} {h₀ : Heap} {env : Env} {x : Str} {body : List Stmt} {Q : Flow → Shared → Prop} {L : Addr} {m : Str → Option Value} {l : List (Addr × Obj)}
theorem append_L {R : Addr} {vs : List Value} {n : Nat} {x : Value} {Q : Value → Shared → Prop} (F : Fr h₀ L s.heap m) (N : News h₀ L s.heap l) (hm : (R, listOf vs.toArray n) ∈ l) (hsz : vs.length ≤ 100)
    (h : ∀ h' l', Fr h₀ L h' m → News h₀ L h' l' → (R, listOf (vs ++ [x]).toArray (n + 1)) ∈ l' → (∀ p ∈ l, (@Ne Nat p.1 R) → p ∈ l') → Cl2 l l' → Q .none { s with heap := h' }) : wpAny (model prog w) A (call (.builtin "list.append") [.ref R, x]) Q E s := by
  have z := N _ hm
  refine append_at (hsz := ?hz) z.1 fun h' hs ho' => h h' (setL R (listOf (vs ++ [x]).toArray (n + 1)) l) (F.change hs z.2.1 z.2.2) ?hn (.head _) (fun p hp hn => mem_setL hp hn) (cl2_setL N hm)
  case hz =>
    rw [List.size_toArray]
    exact Nat.le_trans hsz (by rw [sizeLine_eq]; decide)
  case hn =>
    intro p hp
    rcases List.mem_cons.mp hp with rfl | hp
    · refine ⟨?_, z.2⟩
      rw [ho', List.push_toArray]
    · have hp' := List.mem_filter.mp hp
      have hn : p.1 ≠ R := of_decide_eq_true hp'.2
      have zz := N _ hp'.1
      exact ⟨(hs.2 _ hn).trans zz.1, zz.2⟩
/-- an item of the script's numbers -/
theorem givenItem {G : Addr} {ys : List Value} {ns : List Int} {n : Nat} {value slice : PySem.Expr} {k : Int} {u : Tok} {Q : Value → Shared → Prop} (N : News h₀ L s.heap l) (hm : (G, listOf ys.toArray n) ∈ l) (hi : IntsAre ys ns) (hn : ∀ z ∈ ns, 0 ≤ z)
    (h0 : 0 ≤ k) (h1 : k < (ns.length : Int)) (h8 : ns.length < 100) (h : ∀ z t, 0 ≤ z → Q (.int z t) s)
    (hs : subscripted slice false (.ref G) (.int k u) = operate [.ref G, .int k u] (getItem (.ref G) (.int k u)) := by with_unfolding_all rfl) :
    wpAny (model prog w) A (subscriptTail value slice (.ref G) (.int k u)) Q E s := by
  obtain ⟨j, rfl⟩ : ∃ j : Nat, k = j := ⟨k.toNat, by omega⟩
  have hj : j < ns.length := by omega
  have hl : s.heap.IsList G ys.toArray := News.isList (n := n) (d := none) (sl := #[]) N hm
  obtain ⟨t, ht⟩ := hi.get j ns[j] (List.getElem?_eq_getElem hj)
  exact tail_any hl.typeIs slot_list_getitem.lookup (wpAny_getItem_list hl h0 (by omega) (x := .int ns[j] t) (by simpa using ht) (h _ t (hn _ (List.getElem_mem hj)))) hs
/-- a turn's end in a loop that turns an object -/
def TurnM (h₀ : Heap) (L : Addr) (s : Shared) (own : List (Addr × Obj)) (Jn : (Str → Option Value) → List (Addr × Obj) → Prop) (Q : Flow → Shared → Prop) (f : Flow) (s₂ : Shared) : Prop :=
  match f with
  | .ret v => Q (.ret v) s₂
  | .brk => Q .next s₂
  | _ => ∃ h' tk' m' l', s₂ = { s with heap := h', toks := tk' } ∧ Fr h₀ L h' m' ∧ News h₀ L h' l' ∧ Sub own l' ∧ ∀ l2, Cln l' l2 → Jn m' l2
theorem turnM_end {own l' : List (Addr × Obj)} {Jn : (Str → Option Value) → List (Addr × Obj) → Prop} {h' : Heap} {tk' : Nat} {m' : Str → Option Value} (F : Fr h₀ L h' m') (N : News h₀ L h' l') (S : Sub own l') (hJ : ∀ l2, Cln l' l2 → Jn m' l2) :
    TurnM h₀ L s own Jn Q .next { s with heap := h', toks := tk' } := ⟨h', tk', m', l', rfl, F, N, S, hJ⟩
theorem turnM_ret {own : List (Addr × Obj)} {Jn : (Str → Option Value) → List (Addr × Obj) → Prop} {v : Value} {s₂ : Shared} (h : Q (.ret v) s₂) : TurnM h₀ L s own Jn Q (.ret v) s₂ := h
theorem loop_mut {I : Addr} {fp wr : List Addr} {n : Nat} {P : Nat → Value → Prop} {St : Nat → Heap → Prop} {m₀ : Str → Option Value} {l₀ : List (Addr × Obj)} (J : Nat → (Str → Option Value) → List (Addr × Obj) → Prop)
    (W : Walks prog w A I fp wr n P St) (hLf : env.locals ∉ fp) (hwr : ∀ b ∈ wr, h₀.get? b = none) (hnw : ∀ p ∈ l₀, p.1 ∉ wr) (hst : St 0 s.heap) (F : Fr h₀ env.locals s.heap m₀) (N : News h₀ env.locals s.heap l₀)
    (hit : ∀ i h b, St i h → b ∈ wr → ∃ o, h.get? b = some o ∧ good o = false) (hj : J 0 m₀ l₀)
    (turn : ∀ i v m₁ l own h tk, i < n → P i v → J i m₁ l → (∀ p ∈ own, p.1 ∈ fp) → Fr h₀ env.locals h (fun y => if y = x then some v else m₁ y) → News h₀ env.locals h (own ++ l) →
      wpAny (model prog w) A (execs body env) (TurnM h₀ env.locals { s with heap := h, toks := tk } own (J (i + 1)) Q) E { s with heap := h, toks := tk })
    (done : ∀ m₁ l h tk, J n m₁ l → Fr h₀ env.locals h m₁ → News h₀ env.locals h l → Q .next { s with heap := h, toks := tk }) :
    LoopAtV prog w A h₀ env x body Q E (.ref I) s := by
  refine ⟨I, fp, wr, n, P, St, m₀, l₀, J, rfl, W, hLf, hwr, hnw, hst, F, N, hj, ?_, ?_⟩
  · rintro i v m₁ l s₁ own ⟨hh', tk', rfl⟩ hin hP hJ hoff hown hown2 hfp hSt F₁ N₁
    refine wpAny_mono (turn i v m₁ l own hh' tk' hin hP hJ hown F₁ N₁) (fun f s₂ p => ?_) fun _ _ e => e
    have fin : (∃ h' tk'' m' l', s₂ = { { s with heap := hh', toks := tk' } with heap := h', toks := tk'' } ∧ Fr h₀ env.locals h' m' ∧ News h₀ env.locals h' l' ∧ Sub own l' ∧ ∀ l2, Cln l' l2 → J (i + 1) m' l2) →
        LoopStepU h₀ env.locals wr own (J (i + 1)) { s with heap := hh', toks := tk' } .next s₂ := by
      rintro ⟨h', tk'', m', l', rfl, F', N', S', hJ'⟩
      have hN2 : News h₀ env.locals h' (own ++ l'.filter fun p => decide (p.1 ∉ wr)) := fun p hp => by
        rcases List.mem_append.mp hp with hp | hp
        · exact N' p (S' p hp)
        · exact N' p (List.mem_filter.mp hp).1
      refine LoopStepU.intro (news₂ := l'.filter fun p => decide (p.1 ∉ wr)) F' hN2 (fun p hp => of_decide_eq_true (List.mem_filter.mp hp).2) ?_
      refine hJ' _ fun p hp hg => List.mem_filter.mpr ⟨hp, decide_eq_true fun hb => ?_⟩
      obtain ⟨o, ho, hgo⟩ := hit _ _ _ hSt hb
      have hin2 := hfp p.1 (W.sub _ hb) (hwr _ hb) o ho
      have e1 := (N' _ (S' _ hin2)).1
      have e2 := (N' _ hp).1
      rw [e2] at e1
      cases e1
      rw [hgo] at hg
      cases hg
    cases f with
    | next => exact fin p
    | cont => exact fin p
    | brk => exact p
    | ret v => exact p
  · intro h' tk m' l' F' N' hoff' hJ
    exact done m' l' h' tk hJ F' N'
/-- a loop over a tuple that turns the list R -/
theorem iter_tupM {ax R : Addr} {vs : List Value} {m₀ : Str → Option Value} {l₀ : List (Addr × Obj)} {oR : Obj} (J : Nat → (Str → Option Value) → List (Addr × Obj) → Prop)
    (hL : env.locals = L) (hh : A.handled = none) (hl : s.heap.IsTuple ax vs.toArray) (hax : ax ≠ L) (hR : (R, oR) ∈ l₀) (hRx : ax ≠ R) (F : Fr h₀ L s.heap m₀) (N : News h₀ L s.heap l₀) (hj : J 0 m₀ l₀)
    (turn : ∀ i v m₁ l own h tk, vs[i]? = some v → J i m₁ l → (∀ p ∈ own, p.1 ≠ R) → Fr h₀ L h (fun y => if y = x then some v else m₁ y) → News h₀ L h (own ++ l) →
      wpAny (model prog w) A (execs body env) (TurnM h₀ L { s with heap := h, toks := tk } own (J (i + 1)) Q) E { s with heap := h, toks := tk })
    (done : ∀ m₁ l h tk, J vs.length m₁ l → Fr h₀ L h m₁ → News h₀ L h l → Q .next { s with heap := h, toks := tk }) :
    wpAny (model prog w) A (pyIter (.ref ax)) (fun it s₂ => LoopAtV prog w A h₀ env x body Q E it s₂) E s := by
  subst hL
  have hlt : ax < s.heap.objs.size := let ⟨o, ho, _⟩ := hl; Heap.lt_size ho
  have hne : ax ≠ s.heap.objs.size := Nat.ne_of_lt hlt
  refine wpAny_pyIter_tuple hl ?_
  have W := Walks.tuple (prog := prog) (w := w) hh s.heap.objs.size ax hne vs.toArray
  refine loop_mut J W ?_ ?_ ?_ ⟨⟨_, Heap.get?_push_size _ rfl, rfl, rfl⟩, hl.at fun o e => Heap.get?_push_of_some _ e⟩ (F.push _) (fun p hp => ⟨Heap.get?_push_of_some _ (N p hp).1, (N p hp).2⟩) (fun i h b st hb => good_tup st.1 hb) hj ?_ ?_
  · intro hm
    rcases List.mem_cons.mp hm with e | hm
    · exact absurd F.ns.lt (e ▸ Nat.lt_irrefl _)
    · exact hax (List.mem_singleton.mp hm).symm
  · intro b hb
    rw [List.mem_singleton.mp hb]
    exact next_is_new F
  · intro p hp hI
    exact absurd (Heap.lt_size (N p hp).1) ((List.mem_singleton.mp hI) ▸ Nat.lt_irrefl _)
  · intro i v m₁ l own h tk hi hP hJ hown F' N'
    refine turn i v m₁ l own h tk (by simpa using hP) hJ (fun p hp e => ?_) F' N'
    have hf := hown p hp
    rw [e] at hf
    rcases List.mem_cons.mp hf with e | hm
    · exact absurd (Heap.lt_size (N _ hR).1) (e ▸ Nat.lt_irrefl _)
    · exact hRx (List.mem_singleton.mp hm).symm
  · intro m₁ l h tk hJ F' N'
    rw [List.size_toArray] at hJ
    exact done m₁ l h tk hJ F' N'
/-- a loop over a list that turns the list R, another one -/
theorem iter_listM {ax R : Addr} {vs : List Value} {m₀ : Str → Option Value} {l₀ : List (Addr × Obj)} {oR : Obj} (J : Nat → (Str → Option Value) → List (Addr × Obj) → Prop)
    (hL : env.locals = L) (hh : A.handled = none) (hl : s.heap.IsList ax vs.toArray) (hax : ax ≠ L) (hR : (R, oR) ∈ l₀) (hRx : ax ≠ R) (F : Fr h₀ L s.heap m₀) (N : News h₀ L s.heap l₀) (hj : J 0 m₀ l₀)
    (turn : ∀ i v m₁ l own h tk, vs[i]? = some v → J i m₁ l → (∀ p ∈ own, p.1 ≠ R) → Fr h₀ L h (fun y => if y = x then some v else m₁ y) → News h₀ L h (own ++ l) →
      wpAny (model prog w) A (execs body env) (TurnM h₀ L { s with heap := h, toks := tk } own (J (i + 1)) Q) E { s with heap := h, toks := tk })
    (done : ∀ m₁ l h tk, J vs.length m₁ l → Fr h₀ L h m₁ → News h₀ L h l → Q .next { s with heap := h, toks := tk }) :
    wpAny (model prog w) A (pyIter (.ref ax)) (fun it s₂ => LoopAtV prog w A h₀ env x body Q E it s₂) E s := by
  subst hL
  have hlt : ax < s.heap.objs.size := let ⟨o, ho, _⟩ := hl; Heap.lt_size ho
  have hne : ax ≠ s.heap.objs.size := Nat.ne_of_lt hlt
  refine wpAny_pyIter_list hl ?_
  have W := Walks.list (prog := prog) (w := w) hh s.heap.objs.size ax hne vs.toArray
  refine loop_mut J W ?_ ?_ ?_ ⟨⟨_, Heap.get?_push_size _ rfl, rfl, rfl⟩, hl.at fun o e => Heap.get?_push_of_some _ e⟩ (F.push _) (fun p hp => ⟨Heap.get?_push_of_some _ (N p hp).1, (N p hp).2⟩) (fun i h b st hb => good_list st.1 hb) hj ?_ ?_
  · intro hm
    rcases List.mem_cons.mp hm with e | hm
    · exact absurd F.ns.lt (e ▸ Nat.lt_irrefl _)
    · exact hax (List.mem_singleton.mp hm).symm
  · intro b hb
    rw [List.mem_singleton.mp hb]
    exact next_is_new F
  · intro p hp hI
    exact absurd (Heap.lt_size (N p hp).1) ((List.mem_singleton.mp hI) ▸ Nat.lt_irrefl _)
  · intro i v m₁ l own h tk hi hP hJ hown F' N'
    refine turn i v m₁ l own h tk (by simpa using hP) hJ (fun p hp e => ?_) F' N'
    have hf := hown p hp
    rw [e] at hf
    rcases List.mem_cons.mp hf with e | hm
    · exact absurd (Heap.lt_size (N _ hR).1) (e ▸ Nat.lt_irrefl _)
    · exact hRx (List.mem_singleton.mp hm).symm
  · intro m₁ l h tk hJ F' N'
    rw [List.size_toArray] at hJ
    exact done m₁ l h tk hJ F' N'
end
end Mine
end
section
open PySem PySem.W PyProof.Rows PySem.Calls PySem.Spec
namespace Mine
theorem rowsItem {prog : Program} {w : World} {A : Around} {E Q : Value → Shared → Prop} {s : Shared} {h₀ : Heap} {L R : Addr} {l : List (Addr × Obj)} {vs : List Value} {e : Nat} {value slice : PySem.Expr} {k P c : Int} {u : Tok} (N : News h₀ L s.heap l) (hm : (R, listOf vs.toArray e) ∈ l)
    (hv : ∀ v ∈ vs, ∃ r, R3 w P l v r ∧ RowI P c r ∧ Nz r.1) (h0 : 0 ≤ k) (h1 : k < (vs.length : Int)) (h8 : vs.length < 100)
    (h : ∀ v r, v ∈ vs → R3 w P l v r → RowI P c r → Nz r.1 → Q v s)
    (hs : subscripted slice false (.ref R) (.int k u) = operate [.ref R, .int k u] (getItem (.ref R) (.int k u)) := by with_unfolding_all rfl) :
    wpAny (model prog w) A (subscriptTail value slice (.ref R) (.int k u)) Q E s := by
  obtain ⟨j, rfl⟩ : ∃ j : Nat, k = j := ⟨k.toNat, by omega⟩
  have hj : j < vs.length := by omega
  obtain ⟨r, a1, a2, a3⟩ := hv _ (List.getElem_mem hj)
  have hl : s.heap.IsList R vs.toArray := News.isList (n := e) (d := none) (sl := #[]) N hm
  exact tail_any hl.typeIs slot_list_getitem.lookup (wpAny_getItem_list hl h0 (by omega) (x := vs[j]) (by simp [hj]) (h _ r (List.getElem_mem hj) a1 a2 a3)) hs
theorem rowsLen {prog : Program} {w : World} {A : Around} {E Q : Value → Shared → Prop} {s : Shared} {h₀ : Heap} {L R : Addr} {l : List (Addr × Obj)} {vs : List Value} {e : Nat} (N : News h₀ L s.heap l) (hm : (R, listOf vs.toArray e) ∈ l) (h8 : vs.length < 100)
    (h : ∀ t tk, Q (.int (vs.length : Int) t) { s with toks := tk }) : wpAny (model prog w) A (call (.builtin "len") [.ref R]) Q E s := by
  have hl : s.heap.IsList R vs.toArray := News.isList (n := e) (d := none) (sl := #[]) N hm
  exact Calls.call_len_list hl (by rw [List.size_toArray]; omega) (by rw [List.size_toArray]; exact h _ _)
theorem R3.cln {w : World} {P : Int} {l l' : List (Addr × Obj)} {v : Value} {q : Row} (hs : Cln l l') (h : R3 w P l v q) : R3 w P l' v q := by
  cases h with
  | mk a b c d => exact .mk (hs _ a rfl) (b.cln hs) (c.cln hs) (d.cln hs)
theorem R3.ref {w : World} {P : Int} {l : List (Addr × Obj)} {v : Value} {q : Row} (h : R3 w P l v q) : ∃ t, v = .ref t := by
  cases h
  exact ⟨_, rfl⟩
theorem p2_none {w : World} {P : Int} {l : List (Addr × Obj)} {b : Option (Int × Int)} (h : P2 w P l .none b) : b = Option.none := by
  cases h
  rfl
theorem eqBool_int {prog : Program} {w : World} {A : Around} {E : Value → Shared → Prop} {Q : Bool → Shared → Prop} {s : Shared} {x y : Int} {t u : Tok}
    (h : Q (decide (x = y)) s) : wpAny (model prog w) A (eqBool (.int x t) (.int y u)) Q E s :=
  wpAny_eqBool_int (by rw [show (x == y) = decide (x = y) from rfl]; exact h)
/-- the rows, as the ledger bears them -/
def RowsOk (w : World) (P c : Int) (l : List (Addr × Obj)) (vs : List Value) : Prop := ∀ v ∈ vs, ∃ r, R3 w P l v r ∧ RowI P c r ∧ Nz r.1
theorem RowsOk.mono {w : World} {P c : Int} {l l' : List (Addr × Obj)} {vs : List Value} (hs : Sub l l') (h : RowsOk w P c l vs) : RowsOk w P c l' vs := fun v hv => let ⟨r, a, b, d⟩ := h v hv; ⟨r, a.mono hs, b, d⟩
theorem RowsOk.cln {w : World} {P c : Int} {l l' : List (Addr × Obj)} {vs : List Value} (hs : Cln l l') (h : RowsOk w P c l vs) : RowsOk w P c l' vs := fun v hv => let ⟨r, a, b, d⟩ := h v hv; ⟨r, a.cln hs, b, d⟩
theorem RowsOk.cl2 {w : World} {P c : Int} {l l' : List (Addr × Obj)} {vs : List Value} (hs : Cl2 l l') (h : RowsOk w P c l vs) : RowsOk w P c l' vs := fun v hv => let ⟨r, a, b, d⟩ := h v hv; ⟨r, a.cl2 hs, b, d⟩
theorem RowsOk.snoc {w : World} {P c : Int} {l : List (Addr × Obj)} {vs : List Value} {v : Value} {r : Row} (h : RowsOk w P c l vs) (h1 : R3 w P l v r) (h2 : RowI P c r) (h3 : Nz r.1) : RowsOk w P c l (vs ++ [v]) := fun u hu => by
  rcases List.mem_append.mp hu with hu | hu
  · exact h u hu
  · rw [List.mem_singleton.mp hu]
    exact ⟨r, h1, h2, h3⟩
theorem Sz.tpm {x y P : Int} (hB : P < BIG) (hP : 1 < P) (h0 : 0 ≤ x) (h1 : x < P) : Sz (2 * x + y.fmod P) 411 := (Sz.two hB h0 h1).add ((Sz.fmod hB hP).mono (by decide))
theorem neqA {a : Int} (h : (decide (a = 0) != (a == 0)) = true) : False := by
  by_cases h0 : a = 0 <;> simp [h0] at h
theorem retT {Q : Flow → Shared → Prop} {s : Shared} {b : Bool} (h : b = true) (hq : Q (.ret (.bool true)) s) : Q (.ret (.bool b)) s := h ▸ hq
theorem headItem {prog : Program} {w : World} {A : Around} {E Q : Value → Shared → Prop} {s : Shared} {h₀ : Heap} {L R : Addr} {l : List (Addr × Obj)} {v0 : Value} {vr : List Value} {e : Nat} {value slice : PySem.Expr} {k : Int} {u : Tok} (N : News h₀ L s.heap l) (hm : (R, listOf (v0 :: vr).toArray e) ∈ l) (hk : k = 0)
    (h : Q v0 s) (hs : subscripted slice false (.ref R) (.int k u) = operate [.ref R, .int k u] (getItem (.ref R) (.int k u)) := by with_unfolding_all rfl) :
    wpAny (model prog w) A (subscriptTail value slice (.ref R) (.int k u)) Q E s := by
  subst hk
  have hl : s.heap.IsList R (v0 :: vr).toArray := News.isList (n := e) (d := none) (sl := #[]) N hm
  exact tail_any hl.typeIs slot_list_getitem.lookup (wpAny_getItem_list hl (by decide) (by decide) (x := v0) rfl h) hs
theorem snocN {ys : List Value} {ns : List Int} {i : Nat} {n : Int} {t : Tok} (h1 : IntsAre ys ns) (h2 : ns.length = i) (h3 : ∀ z ∈ ns, 0 ≤ z) (hn : 0 ≤ n) : ∃ ns', IntsAre (ys ++ [.int n t]) ns' ∧ ns'.length = i + 1 ∧ ∀ z ∈ ns', 0 ≤ z :=
  ⟨ns ++ [n], h1.append (.cons n t .nil), by simp [h2], fun z hz => by
    rcases List.mem_append.mp hz with hz | hz
    · exact h3 z hz
    · rw [List.mem_singleton.mp hz]
      exact hn⟩
/-- what the law's first loop keeps -/
def JA (w : World) (P c : Int) (uP uc : Tok) (G R : Addr) (ys : List Value) (nG k : Nat) (m₁ : Str → Option Value) (l : List (Addr × Obj)) : Prop :=
  Sees m₁ [(Str.ofString "given", .ref G), (Str.ofString "prime", .int P uP), (Str.ofString "shift", .int c uc), (Str.ofString "rows", .ref R)] ∧ (G, listOf ys.toArray nG) ∈ l ∧ ∃ vs e, (R, listOf vs.toArray e) ∈ l ∧ vs.length = k ∧ RowsOk w P c l vs
theorem JA.keep {w : World} {P c : Int} {uP uc : Tok} {G R : Addr} {ys vs : List Value} {nG e k : Nat} {m₁ : Str → Option Value} {l9 : List (Addr × Obj)} (hG : (G, listOf ys.toArray nG) ∈ l9) (hR : (R, listOf vs.toArray e) ∈ l9) (hk : vs.length = k) (hv : RowsOk w P c l9 vs) (hs : Sees m₁ [(Str.ofString "given", .ref G), (Str.ofString "prime", .int P uP), (Str.ofString "shift", .int c uc), (Str.ofString "rows", .ref R)]) :
    ∀ l2, Cln l9 l2 → JA w P c uP uc G R ys nG k m₁ l2 := fun l2 C => ⟨hs, C _ hG rfl, vs, e, C _ hR rfl, hk, hv.cln C⟩
/-- a slice of the script's numbers -/
theorem giveSlice {prog : Program} {w : World} {A : Around} {E Q : Value → Shared → Prop} {s : Shared} {h₀ : Heap} {L G : Addr} {m : Str → Option Value} {news : List (Addr × Obj)} {ys : List Value} {ns : List Int} {nG : Nat} {value slice : PySem.Expr} {vl vu : Value} {x y : Int} (F : Fr h₀ L s.heap m) (N : News h₀ L s.heap news) (hm : (G, listOf ys.toArray nG) ∈ news)
    (pl : IsPart vl (some x)) (pu : IsPart vu (some y)) (hi' : IntsAre ys ns) (hn : ∀ z ∈ ns, 0 ≤ z) (hx : 0 ≤ x) (hy : 0 ≤ y) (hxy : y ≤ x + 4) (h8 : ns.length < 100)
    (h : ∀ D ws ms h', Fr h₀ L h' m → News h₀ L h' ((D, listOf (List.toArray ws) 0) :: news) → (∀ p ∈ news, p.1 < D) → IntsAre ws ms → (∀ z ∈ ms, 0 ≤ z) → ws.length ≤ 4 → Q (.ref D) { s with heap := h' })
    (hs : subscripted slice false (.ref G) (.ref s.heap.objs.size) = operate [.ref s.heap.objs.size, .ref G] (getItem (.ref G) (.ref s.heap.objs.size))) (ht : ∀ r, letTemporaryGo value (.ref G) r = pure ()) :
    wpAny (model prog w) A (subscriptTail value slice (.ref G) (.ref s.heap.objs.size)) Q E { s with heap := s.heap.push { cls := .type "slice", data := .fields #[vl, vu, .none] } } := by
  have hl : s.heap.IsList G ys.toArray := News.isList (n := nG) (d := none) (sl := #[]) N hm
  have hlen := hi'.length
  refine kmk_slice_ints F N hl pl pu hi' (kmk_run hi' hx hy) rfl (fun D ws h' F' N' l1 hI hC hL => ?_) hs ht ?_
  · refine h D ws _ h' F' N' l1 hI (fun z hz => hn z (List.mem_of_mem_drop (List.mem_of_mem_take hz))) ?_
    rw [hI.length, List.length_take]
    omega
  · rw [List.size_toArray]
    exact Nat.le_trans (show ys.length ≤ 100 by omega) (by rw [sizeLine_eq]; decide)
/-- what the law's own loops keep -/
def JB (w : World) (P c : Int) (G R : Addr) (ys : List Value) (nG : Nat) (ps : List (Str × Value)) (k : Nat) (m₁ : Str → Option Value) (l : List (Addr × Obj)) : Prop :=
  Sees m₁ ps ∧ (G, listOf ys.toArray nG) ∈ l ∧ ∃ vs e, (R, listOf vs.toArray e) ∈ l ∧ 0 < vs.length ∧ vs.length ≤ k ∧ RowsOk w P c l vs
theorem JB.keep {w : World} {P c : Int} {G R : Addr} {ys vs : List Value} {nG e k : Nat} {ps : List (Str × Value)} {m₁ : Str → Option Value} {l9 : List (Addr × Obj)} (hG : (G, listOf ys.toArray nG) ∈ l9) (hR : (R, listOf vs.toArray e) ∈ l9) (h0 : 0 < vs.length) (hk : vs.length ≤ k) (hv : RowsOk w P c l9 vs) (hs : Sees m₁ ps) :
    ∀ l2, Cln l9 l2 → JB w P c G R ys nG ps k m₁ l2 := fun l2 C => ⟨hs, C _ hG rfl, vs, e, C _ hR rfl, h0, hk, hv.cln C⟩
theorem Sub.appL {l t : List (Addr × Obj)} : Sub l (l ++ t) := fun p h => List.mem_append.mpr (.inl h)
theorem RowsOk.nil {w : World} {P c : Int} {l : List (Addr × Obj)} : RowsOk w P c l [] := fun v hv => nomatch hv
end Mine
end
section
open PySem PySem.W PyProof.Rows PySem.Calls PySem.Spec
namespace Mine
section
variable {w : World} {p : Program} {loose : List Str} {mean : ExcName → Option Value} {mg mb : Str → Option Value} {dp un : Nat} {gd : Option (List Code)} {cn : Str} {cs : Scope} {a : Addr} {ccd : Value} {cl : List (Str × Addr)} {outer : List Env} {A₀ : Around} {base h₀ : Heap} {L : Addr} {m : Str → Option Value} {news : List (Addr × Obj)} {s : Shared} {Q E : Value → Shared → Prop}
local macro_rules | `(tactic| ktr_room) => `(tactic| (first | exact room2 (by assumption) rfl | exact room1 (by assumption) rfl | exact room0 (by assumption) | exact room3 (by assumption) rfl))
local macro_rules | `(tactic| ktr_units) => `(tactic| ktr_room)
local macro_rules | `(tactic| kwd_inv) => `(tactic| first | exact rfl | assumption)
local macro_rules | `(tactic| ktr_unf) => `(tactic| ((try dsimp only); (try k_fold)))
local macro_rules | `(tactic| k_enter) => `(tactic| (ktr_enter; refine noE ?_))
local macro_rules | `(tactic| k_room) => `(tactic| ktr_room)
local macro_rules | `(tactic| k_units) => `(tactic| ((show _ < _); ktr_units))
local macro_rules | `(tactic| mul_fits) => `(tactic| first | (refine' mulOkB ?h1 ?h2 ?h3 ?h4 ?h5; (case h3 => with_reducible assumption); (case h1 => with_reducible assumption); (case h2 => with_reducible assumption); (case h4 => with_reducible assumption); (case h5 => with_reducible assumption)) | (refine' mulOkK ?h1 ?h2 ?h3 ?h4 ?h5; (case h3 => with_reducible assumption); (case h1 => with_reducible assumption); (case h2 => with_reducible assumption); (case h4 => with_reducible assumption); (case h5 => with_reducible assumption)))
local macro_rules | `(tactic| ktr_rel) => `(tactic| first | assumption | exact Sub.refl | exact FqIn.mk (by assumption) (by assumption) (by assumption) (by assumption) | (apply FqIn.up; (first | with_reducible assumption | exact Sub.one | exact Sub.app); ktr_rel) | (apply FqIn.tail; ktr_rel) | (apply Sub.from; (first | with_reducible assumption | exact Sub.one | exact Sub.app); ktr_rel) | (apply Sub.tail; ktr_rel))
set_option maxHeartbeats 4000000 in
theorem mk1 {v P : Int} {t1 t2 : Tok} (B : Below A₀ base outer h₀) (F : Fr h₀ L s.heap m) (X : (hd.heap_1 w.params).In h₀) (N : News h₀ L s.heap news) (T : Top p loose mean mg mb h₀) (hk : cs.kind = .function) (hdp : dp + 5 < recursionLimit) (hun : un + 40 < cLine) (hP : 1 < P)
    (hret : RetFq w 269 P h₀ L m news s Q (v % P)) : wpAny (model PySem.Challenge.rw_kh0015_01.row.prog w) (ktrTop dp un gd cn cs L a ccd cl outer) (call (.ref 269) [.int v t1, .int P t2]) Q E s := by
  rw [← fm v hP] at hret
  k_steps
  all_goals exact hret _ _ _ _ (by k_asm) (by k_asm) (Sub.refl.tail.tail) (.mk (.head _) (.tail _ (.head _)) (fmod_lo _ (by omega)) (fmod_hi _ (by omega)))
local macro_rules | `(tactic| walk_at "call ref") => `(tactic| ((with_reducible show wpAny _ _ (call (Value.ref 269) _) _ _ _); k_dflt (refine mk1 (by k_asm) (by k_asm) (by k_asm) (by k_asm) (by k_asm) (by kwd_inv) (by ktr_room) (by ktr_units) (by assumption) ?_); intro _ _ _ _ _ _ _ _; ktr_unf))
set_option maxHeartbeats 4000000 in
theorem made1 {v P nx : Int} {x : Value} {t1 : Tok} (B : Below A₀ base outer h₀) (F : Fr h₀ L s.heap m) (X : (hd.heap_1 w.params).In h₀) (N : News h₀ L s.heap news) (T : Top p loose mean mg mb h₀) (hk : cs.kind = .function) (hdp : dp + 7 < recursionLimit) (hun : un + 56 < cLine) (hP : 1 < P) (hx : FqIn w 269 P news x nx)
    (hret : RetFq w 269 P h₀ L m news s Q (v % P)) : wpAny (model PySem.Challenge.rw_kh0015_01.row.prog w) (ktrTop dp un gd cn cs L a ccd cl outer) (call (.ref 252) [x, .int v t1]) Q E s := by
  cases hx
  refine wpAny_call ?_
  (k_dflt ktr_enter; refine noE ?_)
  k_steps
  all_goals exact hret _ _ _ _ (by k_asm) (by k_asm) (by ktr_rel) (by ktr_rel)
local macro_rules | `(tactic| walk_at "call ref") => `(tactic| ((with_reducible show wpAny _ _ (call (Value.ref 252) _) _ _ _); k_dflt (refine made1 (by k_asm) (by k_asm) (by k_asm) (by k_asm) (by k_asm) (by kwd_inv) (by ktr_room) (by ktr_units) (by assumption) (by ktr_rel) ?_); intro _ _ _ _ _ _ _ _; ktr_unf))
set_option maxHeartbeats 4000000 in
theorem one1 {P nx : Int} {x : Value} (B : Below A₀ base outer h₀) (F : Fr h₀ L s.heap m) (X : (hd.heap_1 w.params).In h₀) (N : News h₀ L s.heap news) (T : Top p loose mean mg mb h₀) (hk : cs.kind = .function) (hdp : dp + 9 < recursionLimit) (hun : un + 72 < cLine) (hP : 1 < P) (hx : FqIn w 269 P news x nx)
    (hret : RetFq w 269 P h₀ L m news s Q (1)) : wpAny (model PySem.Challenge.rw_kh0015_01.row.prog w) (ktrTop dp un gd cn cs L a ccd cl outer) (call (.ref 259) [x]) Q E s := by
  rw [show (1 : Int) = 1 % P from (Int.emod_eq_of_lt (by omega) hP).symm] at hret
  cases hx
  refine wpAny_call ?_
  (k_dflt ktr_enter; refine noE ?_)
  k_steps
  all_goals exact hret _ _ _ _ (by k_asm) (by k_asm) (by ktr_rel) (by ktr_rel)
local macro_rules | `(tactic| walk_at "call ref") => `(tactic| ((with_reducible show wpAny _ _ (call (Value.ref 259) _) _ _ _); k_dflt (refine one1 (by k_asm) (by k_asm) (by k_asm) (by k_asm) (by k_asm) (by kwd_inv) (by ktr_room) (by ktr_units) (by assumption) (by ktr_rel) ?_); intro _ _ _ _ _ _ _ _; ktr_unf))
set_option maxHeartbeats 4000000 in
theorem zero1 {P nx : Int} {x : Value} (B : Below A₀ base outer h₀) (F : Fr h₀ L s.heap m) (X : (hd.heap_1 w.params).In h₀) (N : News h₀ L s.heap news) (T : Top p loose mean mg mb h₀) (hk : cs.kind = .function) (hdp : dp + 9 < recursionLimit) (hun : un + 72 < cLine) (hP : 1 < P) (hx : FqIn w 269 P news x nx)
    (hret : RetFq w 269 P h₀ L m news s Q (0)) : wpAny (model PySem.Challenge.rw_kh0015_01.row.prog w) (ktrTop dp un gd cn cs L a ccd cl outer) (call (.ref 266) [x]) Q E s := by
  rw [show (0 : Int) = 0 % P from (Int.zero_emod P).symm] at hret
  cases hx
  refine wpAny_call ?_
  (k_dflt ktr_enter; refine noE ?_)
  k_steps
  all_goals exact hret _ _ _ _ (by k_asm) (by k_asm) (by ktr_rel) (by ktr_rel)
local macro_rules | `(tactic| walk_at "call ref") => `(tactic| ((with_reducible show wpAny _ _ (call (Value.ref 266) _) _ _ _); k_dflt (refine zero1 (by k_asm) (by k_asm) (by k_asm) (by k_asm) (by k_asm) (by kwd_inv) (by ktr_room) (by ktr_units) (by assumption) (by ktr_rel) ?_); intro _ _ _ _ _ _ _ _; ktr_unf))
set_option maxHeartbeats 4000000 in
theorem mul1 {P nx ny : Int} {x y : Value} (B : Below A₀ base outer h₀) (F : Fr h₀ L s.heap m) (X : (hd.heap_1 w.params).In h₀) (N : News h₀ L s.heap news) (T : Top p loose mean mg mb h₀) (hk : cs.kind = .function) (hdp : dp + 9 < recursionLimit) (hun : un + 72 < cLine) (hP : 1 < P) (hB : P < BIG) (hx : FqIn w 269 P news x nx) (hy : FqIn w 269 P news y ny)
    (hret : RetFq w 269 P h₀ L m news s Q ((nx * ny) % P)) : wpAny (model PySem.Challenge.rw_kh0015_01.row.prog w) (ktrTop dp un gd cn cs L a ccd cl outer) (binaryOp Operator.Mult x y) Q E s := by
  rw [← fmm _ hP] at hret
  cases hx
  cases hy
  k_steps
  all_goals exact hret _ _ _ _ (by k_asm) (by k_asm) (by ktr_rel) (by ktr_rel)
set_option maxHeartbeats 4000000 in
theorem add1 {P nx ny : Int} {x y : Value} (B : Below A₀ base outer h₀) (F : Fr h₀ L s.heap m) (X : (hd.heap_1 w.params).In h₀) (N : News h₀ L s.heap news) (T : Top p loose mean mg mb h₀) (hk : cs.kind = .function) (hdp : dp + 9 < recursionLimit) (hun : un + 72 < cLine) (hP : 1 < P) (hB : P < BIG) (hx : FqIn w 269 P news x nx) (hy : FqIn w 269 P news y ny)
    (hret : RetFq w 269 P h₀ L m news s Q ((nx + ny) % P)) : wpAny (model PySem.Challenge.rw_kh0015_01.row.prog w) (ktrTop dp un gd cn cs L a ccd cl outer) (binaryOp Operator.Add x y) Q E s := by
  rw [← fmm _ hP] at hret
  cases hx
  cases hy
  k_steps
  all_goals exact hret _ _ _ _ (by k_asm) (by k_asm) (by ktr_rel) (by ktr_rel)
set_option maxHeartbeats 4000000 in
theorem sub1 {P nx ny : Int} {x y : Value} (B : Below A₀ base outer h₀) (F : Fr h₀ L s.heap m) (X : (hd.heap_1 w.params).In h₀) (N : News h₀ L s.heap news) (T : Top p loose mean mg mb h₀) (hk : cs.kind = .function) (hdp : dp + 9 < recursionLimit) (hun : un + 72 < cLine) (hP : 1 < P) (hB : P < BIG) (hx : FqIn w 269 P news x nx) (hy : FqIn w 269 P news y ny)
    (hret : RetFq w 269 P h₀ L m news s Q ((nx - ny) % P)) : wpAny (model PySem.Challenge.rw_kh0015_01.row.prog w) (ktrTop dp un gd cn cs L a ccd cl outer) (binaryOp Operator.Sub x y) Q E s := by
  rw [← fmm _ hP] at hret
  cases hx
  cases hy
  k_steps
  all_goals exact hret _ _ _ _ (by k_asm) (by k_asm) (by ktr_rel) (by ktr_rel)
set_option maxHeartbeats 4000000 in
theorem eq1 {P nx ny : Int} {x y : Value} (B : Below A₀ base outer h₀) (F : Fr h₀ L s.heap m) (X : (hd.heap_1 w.params).In h₀) (N : News h₀ L s.heap news) (T : Top p loose mean mg mb h₀) (hk : cs.kind = .function) (hdp : dp + 9 < recursionLimit) (hun : un + 72 < cLine) (hx : FqIn w 269 P news x nx) (hy : FqIn w 269 P news y ny)
    (hret : RetV h₀ L m news s Q (fun _ => .bool (decide (nx = ny)))) : wpAny (model PySem.Challenge.rw_kh0015_01.row.prog w) (ktrTop dp un gd cn cs L a ccd cl outer) (compareOp .Eq x y) Q E s := by
  cases hx
  cases hy
  k_steps
  all_goals exact hret _ _ 0 (by k_asm) (by k_asm)
set_option maxHeartbeats 4000000 in
theorem addk1 {P nx k : Int} {x : Value} {t1 : Tok} (B : Below A₀ base outer h₀) (F : Fr h₀ L s.heap m) (X : (hd.heap_1 w.params).In h₀) (N : News h₀ L s.heap news) (T : Top p loose mean mg mb h₀) (hk : cs.kind = .function) (hdp : dp + 12 < recursionLimit) (hun : un + 96 < cLine) (hP : 1 < P) (hB : P < BIG) (hx : FqIn w 269 P news x nx) 
    (hret : RetFq w 269 P h₀ L m news s Q ((nx + k) % P)) : wpAny (model PySem.Challenge.rw_kh0015_01.row.prog w) (ktrTop dp un gd cn cs L a ccd cl outer) (binaryOp .Add x (.int k t1)) Q E s := by
  rw [← fmm _ hP] at hret
  cases hx
  k_steps
  all_goals exact hret _ _ _ _ (by k_asm) (by k_asm) (by ktr_rel) (by ktr_rel)
set_option maxHeartbeats 4000000 in
theorem mulk1 {P nx k : Int} {x : Value} {t1 : Tok} (B : Below A₀ base outer h₀) (F : Fr h₀ L s.heap m) (X : (hd.heap_1 w.params).In h₀) (N : News h₀ L s.heap news) (T : Top p loose mean mg mb h₀) (hk : cs.kind = .function) (hdp : dp + 12 < recursionLimit) (hun : un + 96 < cLine) (hP : 1 < P) (hB : P < BIG) (hx : FqIn w 269 P news x nx) (hk0 : 0 ≤ k) (hk1 : k < BIG)
    (hret : RetFq w 269 P h₀ L m news s Q ((nx * k) % P)) : wpAny (model PySem.Challenge.rw_kh0015_01.row.prog w) (ktrTop dp un gd cn cs L a ccd cl outer) (binaryOp .Mult x (.int k t1)) Q E s := by
  rw [← fmm _ hP] at hret
  cases hx
  k_steps
  all_goals exact hret _ _ _ _ (by k_asm) (by k_asm) (by ktr_rel) (by ktr_rel)
local macro_rules | `(tactic| walk_at "binaryOp Mult ref int") => `(tactic| ((with_reducible show wpAny _ _ (binaryOp Operator.Mult (Value.ref _) (Value.int _ _)) _ _ _); k_dflt (refine mulk1 (by k_asm) (by k_asm) (by k_asm) (by k_asm) (by k_asm) (by kwd_inv) (by ktr_room) (by ktr_units) (by assumption) (by assumption) (by ktr_rel) (by first | assumption | decide) (by first | assumption | exact ltBig (by decide) | exact Int.lt_trans (by assumption) (by assumption)) ?_); intro _ _ _ _ _ _ _ _; ktr_unf))
set_option maxHeartbeats 4000000 in
theorem rmul1 {P nx k : Int} {x : Value} {t1 : Tok} (B : Below A₀ base outer h₀) (F : Fr h₀ L s.heap m) (X : (hd.heap_1 w.params).In h₀) (N : News h₀ L s.heap news) (T : Top p loose mean mg mb h₀) (hk : cs.kind = .function) (hdp : dp + 14 < recursionLimit) (hun : un + 112 < cLine) (hP : 1 < P) (hB : P < BIG) (hx : FqIn w 269 P news x nx) (hk0 : 0 ≤ k) (hk1 : k < BIG)
    (hret : RetFq w 269 P h₀ L m news s Q ((nx * k) % P)) : wpAny (model PySem.Challenge.rw_kh0015_01.row.prog w) (ktrTop dp un gd cn cs L a ccd cl outer) (binaryOp .Mult (.int k t1) x) Q E s := by
  obtain ⟨h1, h2, h3, h4⟩ := hx
  k_dflt (refine' rmulOp ?F ?X ?I ?d ?c ?s ?r ?f ?u ?_; (case F => k_asm); (case X => k_asm); (case I => k_inst); (case d => rfl); (case c => k_is); (case s => k_is); (case r => k_is); (case f => k_is); (case u => k_is))
  k_steps
  all_goals exact hret _ _ _ _ (by k_asm) (by k_asm) (by ktr_rel) (by ktr_rel)
set_option maxHeartbeats 4000000 in
theorem neg1 {P nx : Int} {x : Value} (B : Below A₀ base outer h₀) (F : Fr h₀ L s.heap m) (X : (hd.heap_1 w.params).In h₀) (N : News h₀ L s.heap news) (T : Top p loose mean mg mb h₀) (hk : cs.kind = .function) (hdp : dp + 9 < recursionLimit) (hun : un + 72 < cLine) (hP : 1 < P) (hB : P < BIG) (hx : FqIn w 269 P news x nx)
    (hret : RetFq w 269 P h₀ L m news s Q ((-nx) % P)) : wpAny (model PySem.Challenge.rw_kh0015_01.row.prog w) (ktrTop dp un gd cn cs L a ccd cl outer) (unaryOp .USub x) Q E s := by
  cases hx
  k_steps
  all_goals exact hret _ _ _ _ (by k_asm) (by k_asm) (by ktr_rel) (by ktr_rel)
set_option maxHeartbeats 4000000 in
theorem getn1 {A : Around} {P nx : Int} {x : Addr} {e : Bool} (F : Fr h₀ L s.heap m) (X : (hd.heap_1 w.params).In h₀) (N : News h₀ L s.heap news) (T : Top p loose mean mg mb h₀) (hx : FqIn w 269 P news (.ref x) nx)
    (hret : ∀ t tk, 0 ≤ nx → nx < P → Q (.int nx t) { s with toks := tk }) : wpAny (model PySem.Challenge.rw_kh0015_01.row.prog w) A (getAttr (.ref x) (Str.ofString "n") e) Q E s := by
  cases hx
  k_steps
  exact hret _ _ (by assumption) (by assumption)
local macro_rules | `(tactic| walk_at "call ref") => `(tactic| ((with_reducible show wpAny _ _ (call (Value.ref 126) _) _ _ _); k_dflt (refine pinv (by k_asm) (by k_asm) (by k_asm) (by k_asm) (by k_asm) (by kwd_inv) (by ktr_room) (by ktr_units) (by assumption) (by assumption) (by assumption) ?_); intro _ _ _ _ _ _ _ _ _; ktr_unf))
set_option maxHeartbeats 4000000 in
theorem div1 {P nx ny : Int} {x y : Value} (B : Below A₀ base outer h₀) (F : Fr h₀ L s.heap m) (X : (hd.heap_1 w.params).In h₀) (N : News h₀ L s.heap news) (T : Top p loose mean mg mb h₀) (hk : cs.kind = .function) (hdp : dp + 9 < recursionLimit) (hun : un + 72 < cLine) (hP : 1 < P) (hB : P < BIG) (hg : ∃ x y : Int, x * ny + y * P = 1) (hx : FqIn w 269 P news x nx) (hy : FqIn w 269 P news y ny)
    (hret : ∀ i : Int, 0 ≤ i → i < P → (ny * i) % P = 1 → RetFq w 269 P h₀ L m news s Q ((nx * i) % P)) : wpAny (model PySem.Challenge.rw_kh0015_01.row.prog w) (ktrTop dp un gd cn cs L a ccd cl outer) (binaryOp .Div x y) Q E s := by
  cases hx
  cases hy
  k_dflt (refine' binop_K ?F ?X ?I ?b ?c ?s ?f ?_; (case F => k_asm); (case X => k_asm); (case I => k_inst); (case b => k_typeOf); (case c => k_is); (case s => k_is); (case f => k_is))
  k_steps
  all_goals (rename (_ : Int) % _ = 1 => z8; rename FqIn _ _ _ _ _ _ => z9; rw [fmm _ hP] at z9; exact hret _ (by assumption) (by assumption) z8 _ _ _ _ (by k_asm) (by k_asm) (by ktr_rel) z9)
set_option maxHeartbeats 4000000 in
theorem pow11 {P nx k : Int} {x : Value} {t1 : Tok} (B : Below A₀ base outer h₀) (F : Fr h₀ L s.heap m) (X : (hd.heap_1 w.params).In h₀) (N : News h₀ L s.heap news) (T : Top p loose mean mg mb h₀) (hk : cs.kind = .function) (hdp : dp + 14 < recursionLimit) (hun : un + 112 < cLine) (hP : 1 < P) (hB : P < BIG) (hx : FqIn w 269 P news x nx) (hk : k = 1)
    (hret : RetFq w 269 P h₀ L m news s Q (nx)) : wpAny (model PySem.Challenge.rw_kh0015_01.row.prog w) (ktrTop dp un gd cn cs L a ccd cl outer) (binaryOp .Pow x (.int k t1)) Q E s := by
  subst hk
  have hn0 := hx.lo
  have hn1 := hx.hi
  (have hm0 := Int.emod_eq_of_lt hn0 hn1); rw [← hm0] at hret
  cases hx
  k_steps
  all_goals exact hret _ _ _ _ (by k_asm) (by k_asm) (by ktr_rel) (by ktr_rel)
local macro_rules | `(tactic| walk_at "binaryOp Mult ref ref") => `(tactic| ((with_reducible show wpAny _ _ (binaryOp Operator.Mult (Value.ref _) (Value.ref _)) _ _ _); k_dflt (refine mul1 (by k_asm) (by k_asm) (by k_asm) (by k_asm) (by k_asm) (by kwd_inv) (by ktr_room) (by ktr_units) (by assumption) (by assumption) (by ktr_rel) (by ktr_rel) ?_); intro _ _ _ _ _ _ _ _; ktr_unf))
local macro_rules | `(tactic| walk_at "binaryOp Mult int ref") => `(tactic| ((with_reducible show wpAny _ _ (binaryOp Operator.Mult (Value.int _ _) (Value.ref _)) _ _ _); k_dflt (refine rmul1 (by k_asm) (by k_asm) (by k_asm) (by k_asm) (by k_asm) (by kwd_inv) (by ktr_room) (by ktr_units) (by assumption) (by assumption) (by ktr_rel) (by first | assumption | decide) (by first | assumption | exact ltBig (by decide) | exact Int.lt_trans (by assumption) (by assumption)) ?_); intro _ _ _ _ _ _ _ _; ktr_unf))
local macro_rules | `(tactic| walk_at "binaryOp Pow ref int") => `(tactic| ((with_reducible show wpAny _ _ (binaryOp Operator.Pow (Value.ref _) (Value.int _ _)) _ _ _); k_dflt (refine pow11 (by k_asm) (by k_asm) (by k_asm) (by k_asm) (by k_asm) (by kwd_inv) (by ktr_room) (by ktr_units) (by assumption) (by assumption) (by ktr_rel) (by decide) ?_); intro _ _ _ _ _ _ _ _; ktr_unf))
set_option maxHeartbeats 4000000 in
theorem pow21 {P nx k : Int} {x : Value} {t1 : Tok} (B : Below A₀ base outer h₀) (F : Fr h₀ L s.heap m) (X : (hd.heap_1 w.params).In h₀) (N : News h₀ L s.heap news) (T : Top p loose mean mg mb h₀) (hk : cs.kind = .function) (hdp : dp + 18 < recursionLimit) (hun : un + 144 < cLine) (hP : 1 < P) (hB : P < BIG) (hx : FqIn w 269 P news x nx) (hk : k = 2)
    (hret : RetFq w 269 P h₀ L m news s Q ((nx * nx) % P)) : wpAny (model PySem.Challenge.rw_kh0015_01.row.prog w) (ktrTop dp un gd cn cs L a ccd cl outer) (binaryOp .Pow x (.int k t1)) Q E s := by
  subst hk
  have hn0 := hx.lo
  have hn1 := hx.hi
  skip
  cases hx
  k_steps
  all_goals exact hret _ _ _ _ (by k_asm) (by k_asm) (by ktr_rel) (by ktr_rel)
set_option maxHeartbeats 4000000 in
theorem pow31 {P nx k : Int} {x : Value} {t1 : Tok} (B : Below A₀ base outer h₀) (F : Fr h₀ L s.heap m) (X : (hd.heap_1 w.params).In h₀) (N : News h₀ L s.heap news) (T : Top p loose mean mg mb h₀) (hk : cs.kind = .function) (hdp : dp + 18 < recursionLimit) (hun : un + 144 < cLine) (hP : 1 < P) (hB : P < BIG) (hx : FqIn w 269 P news x nx) (hk : k = 3)
    (hret : RetFq w 269 P h₀ L m news s Q ((nx * nx) % P * nx % P)) : wpAny (model PySem.Challenge.rw_kh0015_01.row.prog w) (ktrTop dp un gd cn cs L a ccd cl outer) (binaryOp .Pow x (.int k t1)) Q E s := by
  subst hk
  have hn0 := hx.lo
  have hn1 := hx.hi
  skip
  cases hx
  k_steps
  all_goals exact hret _ _ _ _ (by k_asm) (by k_asm) (by ktr_rel) (by ktr_rel)
set_option maxHeartbeats 4000000 in
theorem mk2 {v P : Int} {t1 t2 : Tok} (B : Below A₀ base outer h₀) (F : Fr h₀ L s.heap m) (X : (hd.heap_1 w.params).In h₀) (N : News h₀ L s.heap news) (T : Top p loose mean mg mb h₀) (hk : cs.kind = .function) (hdp : dp + 5 < recursionLimit) (hun : un + 40 < cLine) (hP : 1 < P)
    (hret : RetFq w 431 P h₀ L m news s Q (v % P)) : wpAny (model PySem.Challenge.rw_kh0015_01.row.prog w) (ktrTop dp un gd cn cs L a ccd cl outer) (call (.ref 431) [.int v t1, .int P t2]) Q E s := by
  rw [← fm v hP] at hret
  k_steps
  all_goals exact hret _ _ _ _ (by k_asm) (by k_asm) (Sub.refl.tail.tail) (.mk (.head _) (.tail _ (.head _)) (fmod_lo _ (by omega)) (fmod_hi _ (by omega)))
local macro_rules | `(tactic| walk_at "call ref") => `(tactic| ((with_reducible show wpAny _ _ (call (Value.ref 431) _) _ _ _); k_dflt (refine mk2 (by k_asm) (by k_asm) (by k_asm) (by k_asm) (by k_asm) (by kwd_inv) (by ktr_room) (by ktr_units) (by assumption) ?_); intro _ _ _ _ _ _ _ _; ktr_unf))
set_option maxHeartbeats 4000000 in
theorem made2 {v P nx : Int} {x : Value} {t1 : Tok} (B : Below A₀ base outer h₀) (F : Fr h₀ L s.heap m) (X : (hd.heap_1 w.params).In h₀) (N : News h₀ L s.heap news) (T : Top p loose mean mg mb h₀) (hk : cs.kind = .function) (hdp : dp + 7 < recursionLimit) (hun : un + 56 < cLine) (hP : 1 < P) (hx : FqIn w 431 P news x nx)
    (hret : RetFq w 431 P h₀ L m news s Q (v % P)) : wpAny (model PySem.Challenge.rw_kh0015_01.row.prog w) (ktrTop dp un gd cn cs L a ccd cl outer) (call (.ref 414) [x, .int v t1]) Q E s := by
  cases hx
  refine wpAny_call ?_
  (k_dflt ktr_enter; refine noE ?_)
  k_steps
  all_goals exact hret _ _ _ _ (by k_asm) (by k_asm) (by ktr_rel) (by ktr_rel)
local macro_rules | `(tactic| walk_at "call ref") => `(tactic| ((with_reducible show wpAny _ _ (call (Value.ref 414) _) _ _ _); k_dflt (refine made2 (by k_asm) (by k_asm) (by k_asm) (by k_asm) (by k_asm) (by kwd_inv) (by ktr_room) (by ktr_units) (by assumption) (by ktr_rel) ?_); intro _ _ _ _ _ _ _ _; ktr_unf))
set_option maxHeartbeats 4000000 in
theorem one2 {P nx : Int} {x : Value} (B : Below A₀ base outer h₀) (F : Fr h₀ L s.heap m) (X : (hd.heap_1 w.params).In h₀) (N : News h₀ L s.heap news) (T : Top p loose mean mg mb h₀) (hk : cs.kind = .function) (hdp : dp + 9 < recursionLimit) (hun : un + 72 < cLine) (hP : 1 < P) (hx : FqIn w 431 P news x nx)
    (hret : RetFq w 431 P h₀ L m news s Q (1)) : wpAny (model PySem.Challenge.rw_kh0015_01.row.prog w) (ktrTop dp un gd cn cs L a ccd cl outer) (call (.ref 421) [x]) Q E s := by
  rw [show (1 : Int) = 1 % P from (Int.emod_eq_of_lt (by omega) hP).symm] at hret
  cases hx
  refine wpAny_call ?_
  (k_dflt ktr_enter; refine noE ?_)
  k_steps
  all_goals exact hret _ _ _ _ (by k_asm) (by k_asm) (by ktr_rel) (by ktr_rel)
local macro_rules | `(tactic| walk_at "call ref") => `(tactic| ((with_reducible show wpAny _ _ (call (Value.ref 421) _) _ _ _); k_dflt (refine one2 (by k_asm) (by k_asm) (by k_asm) (by k_asm) (by k_asm) (by kwd_inv) (by ktr_room) (by ktr_units) (by assumption) (by ktr_rel) ?_); intro _ _ _ _ _ _ _ _; ktr_unf))
set_option maxHeartbeats 4000000 in
theorem zero2 {P nx : Int} {x : Value} (B : Below A₀ base outer h₀) (F : Fr h₀ L s.heap m) (X : (hd.heap_1 w.params).In h₀) (N : News h₀ L s.heap news) (T : Top p loose mean mg mb h₀) (hk : cs.kind = .function) (hdp : dp + 9 < recursionLimit) (hun : un + 72 < cLine) (hP : 1 < P) (hx : FqIn w 431 P news x nx)
    (hret : RetFq w 431 P h₀ L m news s Q (0)) : wpAny (model PySem.Challenge.rw_kh0015_01.row.prog w) (ktrTop dp un gd cn cs L a ccd cl outer) (call (.ref 428) [x]) Q E s := by
  rw [show (0 : Int) = 0 % P from (Int.zero_emod P).symm] at hret
  cases hx
  refine wpAny_call ?_
  (k_dflt ktr_enter; refine noE ?_)
  k_steps
  all_goals exact hret _ _ _ _ (by k_asm) (by k_asm) (by ktr_rel) (by ktr_rel)
local macro_rules | `(tactic| walk_at "call ref") => `(tactic| ((with_reducible show wpAny _ _ (call (Value.ref 428) _) _ _ _); k_dflt (refine zero2 (by k_asm) (by k_asm) (by k_asm) (by k_asm) (by k_asm) (by kwd_inv) (by ktr_room) (by ktr_units) (by assumption) (by ktr_rel) ?_); intro _ _ _ _ _ _ _ _; ktr_unf))
set_option maxHeartbeats 4000000 in
theorem mul2 {P nx ny : Int} {x y : Value} (B : Below A₀ base outer h₀) (F : Fr h₀ L s.heap m) (X : (hd.heap_1 w.params).In h₀) (N : News h₀ L s.heap news) (T : Top p loose mean mg mb h₀) (hk : cs.kind = .function) (hdp : dp + 9 < recursionLimit) (hun : un + 72 < cLine) (hP : 1 < P) (hB : P < BIG) (hx : FqIn w 431 P news x nx) (hy : FqIn w 431 P news y ny)
    (hret : RetFq w 431 P h₀ L m news s Q ((nx * ny) % P)) : wpAny (model PySem.Challenge.rw_kh0015_01.row.prog w) (ktrTop dp un gd cn cs L a ccd cl outer) (binaryOp Operator.Mult x y) Q E s := by
  rw [← fmm _ hP] at hret
  cases hx
  cases hy
  k_steps
  all_goals exact hret _ _ _ _ (by k_asm) (by k_asm) (by ktr_rel) (by ktr_rel)
set_option maxHeartbeats 4000000 in
theorem add2 {P nx ny : Int} {x y : Value} (B : Below A₀ base outer h₀) (F : Fr h₀ L s.heap m) (X : (hd.heap_1 w.params).In h₀) (N : News h₀ L s.heap news) (T : Top p loose mean mg mb h₀) (hk : cs.kind = .function) (hdp : dp + 9 < recursionLimit) (hun : un + 72 < cLine) (hP : 1 < P) (hB : P < BIG) (hx : FqIn w 431 P news x nx) (hy : FqIn w 431 P news y ny)
    (hret : RetFq w 431 P h₀ L m news s Q ((nx + ny) % P)) : wpAny (model PySem.Challenge.rw_kh0015_01.row.prog w) (ktrTop dp un gd cn cs L a ccd cl outer) (binaryOp Operator.Add x y) Q E s := by
  rw [← fmm _ hP] at hret
  cases hx
  cases hy
  k_steps
  all_goals exact hret _ _ _ _ (by k_asm) (by k_asm) (by ktr_rel) (by ktr_rel)
set_option maxHeartbeats 4000000 in
theorem sub2 {P nx ny : Int} {x y : Value} (B : Below A₀ base outer h₀) (F : Fr h₀ L s.heap m) (X : (hd.heap_1 w.params).In h₀) (N : News h₀ L s.heap news) (T : Top p loose mean mg mb h₀) (hk : cs.kind = .function) (hdp : dp + 9 < recursionLimit) (hun : un + 72 < cLine) (hP : 1 < P) (hB : P < BIG) (hx : FqIn w 431 P news x nx) (hy : FqIn w 431 P news y ny)
    (hret : RetFq w 431 P h₀ L m news s Q ((nx - ny) % P)) : wpAny (model PySem.Challenge.rw_kh0015_01.row.prog w) (ktrTop dp un gd cn cs L a ccd cl outer) (binaryOp Operator.Sub x y) Q E s := by
  rw [← fmm _ hP] at hret
  cases hx
  cases hy
  k_steps
  all_goals exact hret _ _ _ _ (by k_asm) (by k_asm) (by ktr_rel) (by ktr_rel)
set_option maxHeartbeats 4000000 in
theorem eq2 {P nx ny : Int} {x y : Value} (B : Below A₀ base outer h₀) (F : Fr h₀ L s.heap m) (X : (hd.heap_1 w.params).In h₀) (N : News h₀ L s.heap news) (T : Top p loose mean mg mb h₀) (hk : cs.kind = .function) (hdp : dp + 9 < recursionLimit) (hun : un + 72 < cLine) (hx : FqIn w 431 P news x nx) (hy : FqIn w 431 P news y ny)
    (hret : RetV h₀ L m news s Q (fun _ => .bool (decide (nx = ny)))) : wpAny (model PySem.Challenge.rw_kh0015_01.row.prog w) (ktrTop dp un gd cn cs L a ccd cl outer) (compareOp .Eq x y) Q E s := by
  cases hx
  cases hy
  k_steps
  all_goals exact hret _ _ 0 (by k_asm) (by k_asm)
set_option maxHeartbeats 4000000 in
theorem addk2 {P nx k : Int} {x : Value} {t1 : Tok} (B : Below A₀ base outer h₀) (F : Fr h₀ L s.heap m) (X : (hd.heap_1 w.params).In h₀) (N : News h₀ L s.heap news) (T : Top p loose mean mg mb h₀) (hk : cs.kind = .function) (hdp : dp + 12 < recursionLimit) (hun : un + 96 < cLine) (hP : 1 < P) (hB : P < BIG) (hx : FqIn w 431 P news x nx) 
    (hret : RetFq w 431 P h₀ L m news s Q ((nx + k) % P)) : wpAny (model PySem.Challenge.rw_kh0015_01.row.prog w) (ktrTop dp un gd cn cs L a ccd cl outer) (binaryOp .Add x (.int k t1)) Q E s := by
  rw [← fmm _ hP] at hret
  cases hx
  k_steps
  all_goals exact hret _ _ _ _ (by k_asm) (by k_asm) (by ktr_rel) (by ktr_rel)
set_option maxHeartbeats 4000000 in
theorem mulk2 {P nx k : Int} {x : Value} {t1 : Tok} (B : Below A₀ base outer h₀) (F : Fr h₀ L s.heap m) (X : (hd.heap_1 w.params).In h₀) (N : News h₀ L s.heap news) (T : Top p loose mean mg mb h₀) (hk : cs.kind = .function) (hdp : dp + 12 < recursionLimit) (hun : un + 96 < cLine) (hP : 1 < P) (hB : P < BIG) (hx : FqIn w 431 P news x nx) (hk0 : 0 ≤ k) (hk1 : k < BIG)
    (hret : RetFq w 431 P h₀ L m news s Q ((nx * k) % P)) : wpAny (model PySem.Challenge.rw_kh0015_01.row.prog w) (ktrTop dp un gd cn cs L a ccd cl outer) (binaryOp .Mult x (.int k t1)) Q E s := by
  rw [← fmm _ hP] at hret
  cases hx
  k_steps
  all_goals exact hret _ _ _ _ (by k_asm) (by k_asm) (by ktr_rel) (by ktr_rel)
local macro_rules | `(tactic| walk_at "binaryOp Mult ref int") => `(tactic| ((with_reducible show wpAny _ _ (binaryOp Operator.Mult (Value.ref _) (Value.int _ _)) _ _ _); k_dflt (refine mulk2 (by k_asm) (by k_asm) (by k_asm) (by k_asm) (by k_asm) (by kwd_inv) (by ktr_room) (by ktr_units) (by assumption) (by assumption) (by ktr_rel) (by first | assumption | decide) (by first | assumption | exact ltBig (by decide) | exact Int.lt_trans (by assumption) (by assumption)) ?_); intro _ _ _ _ _ _ _ _; ktr_unf))
set_option maxHeartbeats 4000000 in
theorem rmul2 {P nx k : Int} {x : Value} {t1 : Tok} (B : Below A₀ base outer h₀) (F : Fr h₀ L s.heap m) (X : (hd.heap_1 w.params).In h₀) (N : News h₀ L s.heap news) (T : Top p loose mean mg mb h₀) (hk : cs.kind = .function) (hdp : dp + 14 < recursionLimit) (hun : un + 112 < cLine) (hP : 1 < P) (hB : P < BIG) (hx : FqIn w 431 P news x nx) (hk0 : 0 ≤ k) (hk1 : k < BIG)
    (hret : RetFq w 431 P h₀ L m news s Q ((nx * k) % P)) : wpAny (model PySem.Challenge.rw_kh0015_01.row.prog w) (ktrTop dp un gd cn cs L a ccd cl outer) (binaryOp .Mult (.int k t1) x) Q E s := by
  obtain ⟨h1, h2, h3, h4⟩ := hx
  k_dflt (refine' rmulOp ?F ?X ?I ?d ?c ?s ?r ?f ?u ?_; (case F => k_asm); (case X => k_asm); (case I => k_inst); (case d => rfl); (case c => k_is); (case s => k_is); (case r => k_is); (case f => k_is); (case u => k_is))
  k_steps
  all_goals exact hret _ _ _ _ (by k_asm) (by k_asm) (by ktr_rel) (by ktr_rel)
set_option maxHeartbeats 4000000 in
theorem neg2 {P nx : Int} {x : Value} (B : Below A₀ base outer h₀) (F : Fr h₀ L s.heap m) (X : (hd.heap_1 w.params).In h₀) (N : News h₀ L s.heap news) (T : Top p loose mean mg mb h₀) (hk : cs.kind = .function) (hdp : dp + 9 < recursionLimit) (hun : un + 72 < cLine) (hP : 1 < P) (hB : P < BIG) (hx : FqIn w 431 P news x nx)
    (hret : RetFq w 431 P h₀ L m news s Q ((-nx) % P)) : wpAny (model PySem.Challenge.rw_kh0015_01.row.prog w) (ktrTop dp un gd cn cs L a ccd cl outer) (unaryOp .USub x) Q E s := by
  cases hx
  k_steps
  all_goals exact hret _ _ _ _ (by k_asm) (by k_asm) (by ktr_rel) (by ktr_rel)
set_option maxHeartbeats 4000000 in
theorem getn2 {A : Around} {P nx : Int} {x : Addr} {e : Bool} (F : Fr h₀ L s.heap m) (X : (hd.heap_1 w.params).In h₀) (N : News h₀ L s.heap news) (T : Top p loose mean mg mb h₀) (hx : FqIn w 431 P news (.ref x) nx)
    (hret : ∀ t tk, 0 ≤ nx → nx < P → Q (.int nx t) { s with toks := tk }) : wpAny (model PySem.Challenge.rw_kh0015_01.row.prog w) A (getAttr (.ref x) (Str.ofString "n") e) Q E s := by
  cases hx
  k_steps
  exact hret _ _ (by assumption) (by assumption)
local macro_rules | `(tactic| walk_at "call ref") => `(tactic| ((with_reducible show wpAny _ _ (call (Value.ref 126) _) _ _ _); k_dflt (refine pinv (by k_asm) (by k_asm) (by k_asm) (by k_asm) (by k_asm) (by kwd_inv) (by ktr_room) (by ktr_units) (by assumption) (by assumption) (by assumption) ?_); intro _ _ _ _ _ _ _ _ _; ktr_unf))
set_option maxHeartbeats 4000000 in
theorem div2 {P nx ny : Int} {x y : Value} (B : Below A₀ base outer h₀) (F : Fr h₀ L s.heap m) (X : (hd.heap_1 w.params).In h₀) (N : News h₀ L s.heap news) (T : Top p loose mean mg mb h₀) (hk : cs.kind = .function) (hdp : dp + 9 < recursionLimit) (hun : un + 72 < cLine) (hP : 1 < P) (hB : P < BIG) (hg : ∃ x y : Int, x * ny + y * P = 1) (hx : FqIn w 431 P news x nx) (hy : FqIn w 431 P news y ny)
    (hret : ∀ i : Int, 0 ≤ i → i < P → (ny * i) % P = 1 → RetFq w 431 P h₀ L m news s Q ((nx * i) % P)) : wpAny (model PySem.Challenge.rw_kh0015_01.row.prog w) (ktrTop dp un gd cn cs L a ccd cl outer) (binaryOp .Div x y) Q E s := by
  cases hx
  cases hy
  k_dflt (refine' binop_K ?F ?X ?I ?b ?c ?s ?f ?_; (case F => k_asm); (case X => k_asm); (case I => k_inst); (case b => k_typeOf); (case c => k_is); (case s => k_is); (case f => k_is))
  k_steps
  all_goals (rename (_ : Int) % _ = 1 => z8; rename FqIn _ _ _ _ _ _ => z9; rw [fmm _ hP] at z9; exact hret _ (by assumption) (by assumption) z8 _ _ _ _ (by k_asm) (by k_asm) (by ktr_rel) z9)
set_option maxHeartbeats 4000000 in
theorem pow12 {P nx k : Int} {x : Value} {t1 : Tok} (B : Below A₀ base outer h₀) (F : Fr h₀ L s.heap m) (X : (hd.heap_1 w.params).In h₀) (N : News h₀ L s.heap news) (T : Top p loose mean mg mb h₀) (hk : cs.kind = .function) (hdp : dp + 14 < recursionLimit) (hun : un + 112 < cLine) (hP : 1 < P) (hB : P < BIG) (hx : FqIn w 431 P news x nx) (hk : k = 1)
    (hret : RetFq w 431 P h₀ L m news s Q (nx)) : wpAny (model PySem.Challenge.rw_kh0015_01.row.prog w) (ktrTop dp un gd cn cs L a ccd cl outer) (binaryOp .Pow x (.int k t1)) Q E s := by
  subst hk
  have hn0 := hx.lo
  have hn1 := hx.hi
  (have hm0 := Int.emod_eq_of_lt hn0 hn1); rw [← hm0] at hret
  cases hx
  k_steps
  all_goals exact hret _ _ _ _ (by k_asm) (by k_asm) (by ktr_rel) (by ktr_rel)
local macro_rules | `(tactic| walk_at "binaryOp Mult ref ref") => `(tactic| ((with_reducible show wpAny _ _ (binaryOp Operator.Mult (Value.ref _) (Value.ref _)) _ _ _); k_dflt (refine mul2 (by k_asm) (by k_asm) (by k_asm) (by k_asm) (by k_asm) (by kwd_inv) (by ktr_room) (by ktr_units) (by assumption) (by assumption) (by ktr_rel) (by ktr_rel) ?_); intro _ _ _ _ _ _ _ _; ktr_unf))
local macro_rules | `(tactic| walk_at "binaryOp Mult int ref") => `(tactic| ((with_reducible show wpAny _ _ (binaryOp Operator.Mult (Value.int _ _) (Value.ref _)) _ _ _); k_dflt (refine rmul2 (by k_asm) (by k_asm) (by k_asm) (by k_asm) (by k_asm) (by kwd_inv) (by ktr_room) (by ktr_units) (by assumption) (by assumption) (by ktr_rel) (by first | assumption | decide) (by first | assumption | exact ltBig (by decide) | exact Int.lt_trans (by assumption) (by assumption)) ?_); intro _ _ _ _ _ _ _ _; ktr_unf))
local macro_rules | `(tactic| walk_at "binaryOp Pow ref int") => `(tactic| ((with_reducible show wpAny _ _ (binaryOp Operator.Pow (Value.ref _) (Value.int _ _)) _ _ _); k_dflt (refine pow12 (by k_asm) (by k_asm) (by k_asm) (by k_asm) (by k_asm) (by kwd_inv) (by ktr_room) (by ktr_units) (by assumption) (by assumption) (by ktr_rel) (by decide) ?_); intro _ _ _ _ _ _ _ _; ktr_unf))
set_option maxHeartbeats 4000000 in
theorem pow22 {P nx k : Int} {x : Value} {t1 : Tok} (B : Below A₀ base outer h₀) (F : Fr h₀ L s.heap m) (X : (hd.heap_1 w.params).In h₀) (N : News h₀ L s.heap news) (T : Top p loose mean mg mb h₀) (hk : cs.kind = .function) (hdp : dp + 18 < recursionLimit) (hun : un + 144 < cLine) (hP : 1 < P) (hB : P < BIG) (hx : FqIn w 431 P news x nx) (hk : k = 2)
    (hret : RetFq w 431 P h₀ L m news s Q ((nx * nx) % P)) : wpAny (model PySem.Challenge.rw_kh0015_01.row.prog w) (ktrTop dp un gd cn cs L a ccd cl outer) (binaryOp .Pow x (.int k t1)) Q E s := by
  subst hk
  have hn0 := hx.lo
  have hn1 := hx.hi
  skip
  cases hx
  k_steps
  all_goals exact hret _ _ _ _ (by k_asm) (by k_asm) (by ktr_rel) (by ktr_rel)
set_option maxHeartbeats 4000000 in
theorem pow32 {P nx k : Int} {x : Value} {t1 : Tok} (B : Below A₀ base outer h₀) (F : Fr h₀ L s.heap m) (X : (hd.heap_1 w.params).In h₀) (N : News h₀ L s.heap news) (T : Top p loose mean mg mb h₀) (hk : cs.kind = .function) (hdp : dp + 18 < recursionLimit) (hun : un + 144 < cLine) (hP : 1 < P) (hB : P < BIG) (hx : FqIn w 431 P news x nx) (hk : k = 3)
    (hret : RetFq w 431 P h₀ L m news s Q ((nx * nx) % P * nx % P)) : wpAny (model PySem.Challenge.rw_kh0015_01.row.prog w) (ktrTop dp un gd cn cs L a ccd cl outer) (binaryOp .Pow x (.int k t1)) Q E s := by
  subst hk
  have hn0 := hx.lo
  have hn1 := hx.hi
  skip
  cases hx
  k_steps
  all_goals exact hret _ _ _ _ (by k_asm) (by k_asm) (by ktr_rel) (by ktr_rel)
local macro_rules | `(tactic| walk_at "binaryOp Add ref ref") => `(tactic| ((with_reducible show wpAny _ _ (binaryOp Operator.Add (Value.ref _) (Value.ref _)) _ _ _); k_dflt (refine add1 (by k_asm) (by k_asm) (by k_asm) (by k_asm) (by k_asm) (by kwd_inv) (by ktr_room) (by ktr_units) (by assumption) (by assumption) (by ktr_rel) (by ktr_rel) ?_); intro _ _ _ _ _ _ _ _; ktr_unf))
local macro_rules | `(tactic| walk_at "binaryOp Sub ref ref") => `(tactic| ((with_reducible show wpAny _ _ (binaryOp Operator.Sub (Value.ref _) (Value.ref _)) _ _ _); k_dflt (refine sub1 (by k_asm) (by k_asm) (by k_asm) (by k_asm) (by k_asm) (by kwd_inv) (by ktr_room) (by ktr_units) (by assumption) (by assumption) (by ktr_rel) (by ktr_rel) ?_); intro _ _ _ _ _ _ _ _; ktr_unf))
local macro_rules | `(tactic| walk_at "compareOp Eq ref ref") => `(tactic| ((with_reducible show wpAny _ _ (compareOp CmpOp.Eq (Value.ref _) (Value.ref _)) _ _ _); k_dflt (refine eq1 (by k_asm) (by k_asm) (by k_asm) (by k_asm) (by k_asm) (by kwd_inv) (by ktr_room) (by ktr_units) (by ktr_rel) (by ktr_rel) ?_); intro _ _ _ _ _; ktr_unf))
local macro_rules | `(tactic| walk_at "binaryOp Add ref int") => `(tactic| ((with_reducible show wpAny _ _ (binaryOp Operator.Add (Value.ref _) (Value.int _ _)) _ _ _); k_dflt (refine addk1 (by k_asm) (by k_asm) (by k_asm) (by k_asm) (by k_asm) (by kwd_inv) (by ktr_room) (by ktr_units) (by assumption) (by assumption) (by ktr_rel) ?_); intro _ _ _ _ _ _ _ _; ktr_unf))
local macro_rules | `(tactic| walk_at "unaryOp USub ref") => `(tactic| ((with_reducible show wpAny _ _ (unaryOp UnaryOp.USub (Value.ref _)) _ _ _); k_dflt (refine neg1 (by k_asm) (by k_asm) (by k_asm) (by k_asm) (by k_asm) (by kwd_inv) (by ktr_room) (by ktr_units) (by assumption) (by assumption) (by ktr_rel) ?_); intro _ _ _ _ _ _ _ _; ktr_unf))
local macro_rules | `(tactic| walk_at "getAttr ref") => `(tactic| ((with_reducible show wpAny _ _ (getAttr (Value.ref _) (Str.ofString "n") _) _ _ _); k_dflt (refine' getn1 ?k1 ?k2 ?k3 ?k4 ?k5 ?_; (case k1 => k_asm); (case k2 => k_asm); (case k3 => k_asm); (case k4 => k_asm); (case k5 => ktr_rel)); intro t9 tk9 ha9 hb9; (try dsimp only); (try k_fold)))
local macro_rules | `(tactic| walk_at "binaryOp Div ref ref") => `(tactic| ((with_reducible show wpAny _ _ (binaryOp Operator.Div (Value.ref _) (Value.ref _)) _ _ _); k_dflt (refine div1 (by k_asm) (by k_asm) (by k_asm) (by k_asm) (by k_asm) (by kwd_inv) (by ktr_room) (by ktr_units) (by assumption) (by assumption) (by assumption) (by ktr_rel) (by ktr_rel) ?_); intro _ _ _ _ _ _ _ _ _ _ _ _; ktr_unf))
local macro_rules | `(tactic| walk_at "binaryOp Pow ref int") => `(tactic| ((with_reducible show wpAny _ _ (binaryOp Operator.Pow (Value.ref _) (Value.int _ _)) _ _ _); k_dflt (refine pow21 (by k_asm) (by k_asm) (by k_asm) (by k_asm) (by k_asm) (by kwd_inv) (by ktr_room) (by ktr_units) (by assumption) (by assumption) (by ktr_rel) (by decide) ?_); intro _ _ _ _ _ _ _ _; ktr_unf))
local macro_rules | `(tactic| walk_at "binaryOp Pow ref int") => `(tactic| ((with_reducible show wpAny _ _ (binaryOp Operator.Pow (Value.ref _) (Value.int _ _)) _ _ _); k_dflt (refine pow31 (by k_asm) (by k_asm) (by k_asm) (by k_asm) (by k_asm) (by kwd_inv) (by ktr_room) (by ktr_units) (by assumption) (by assumption) (by ktr_rel) (by decide) ?_); intro _ _ _ _ _ _ _ _; ktr_unf))
local macro_rules | `(tactic| walk_at "binaryOp Add ref ref") => `(tactic| ((with_reducible show wpAny _ _ (binaryOp Operator.Add (Value.ref _) (Value.ref _)) _ _ _); k_dflt (refine add2 (by k_asm) (by k_asm) (by k_asm) (by k_asm) (by k_asm) (by kwd_inv) (by ktr_room) (by ktr_units) (by assumption) (by assumption) (by ktr_rel) (by ktr_rel) ?_); intro _ _ _ _ _ _ _ _; ktr_unf))
local macro_rules | `(tactic| walk_at "binaryOp Sub ref ref") => `(tactic| ((with_reducible show wpAny _ _ (binaryOp Operator.Sub (Value.ref _) (Value.ref _)) _ _ _); k_dflt (refine sub2 (by k_asm) (by k_asm) (by k_asm) (by k_asm) (by k_asm) (by kwd_inv) (by ktr_room) (by ktr_units) (by assumption) (by assumption) (by ktr_rel) (by ktr_rel) ?_); intro _ _ _ _ _ _ _ _; ktr_unf))
local macro_rules | `(tactic| walk_at "compareOp Eq ref ref") => `(tactic| ((with_reducible show wpAny _ _ (compareOp CmpOp.Eq (Value.ref _) (Value.ref _)) _ _ _); k_dflt (refine eq2 (by k_asm) (by k_asm) (by k_asm) (by k_asm) (by k_asm) (by kwd_inv) (by ktr_room) (by ktr_units) (by ktr_rel) (by ktr_rel) ?_); intro _ _ _ _ _; ktr_unf))
local macro_rules | `(tactic| walk_at "binaryOp Add ref int") => `(tactic| ((with_reducible show wpAny _ _ (binaryOp Operator.Add (Value.ref _) (Value.int _ _)) _ _ _); k_dflt (refine addk2 (by k_asm) (by k_asm) (by k_asm) (by k_asm) (by k_asm) (by kwd_inv) (by ktr_room) (by ktr_units) (by assumption) (by assumption) (by ktr_rel) ?_); intro _ _ _ _ _ _ _ _; ktr_unf))
local macro_rules | `(tactic| walk_at "unaryOp USub ref") => `(tactic| ((with_reducible show wpAny _ _ (unaryOp UnaryOp.USub (Value.ref _)) _ _ _); k_dflt (refine neg2 (by k_asm) (by k_asm) (by k_asm) (by k_asm) (by k_asm) (by kwd_inv) (by ktr_room) (by ktr_units) (by assumption) (by assumption) (by ktr_rel) ?_); intro _ _ _ _ _ _ _ _; ktr_unf))
local macro_rules | `(tactic| walk_at "getAttr ref") => `(tactic| ((with_reducible show wpAny _ _ (getAttr (Value.ref _) (Str.ofString "n") _) _ _ _); k_dflt (refine' getn2 ?k1 ?k2 ?k3 ?k4 ?k5 ?_; (case k1 => k_asm); (case k2 => k_asm); (case k3 => k_asm); (case k4 => k_asm); (case k5 => ktr_rel)); intro t9 tk9 ha9 hb9; (try dsimp only); (try k_fold)))
local macro_rules | `(tactic| walk_at "binaryOp Div ref ref") => `(tactic| ((with_reducible show wpAny _ _ (binaryOp Operator.Div (Value.ref _) (Value.ref _)) _ _ _); k_dflt (refine div2 (by k_asm) (by k_asm) (by k_asm) (by k_asm) (by k_asm) (by kwd_inv) (by ktr_room) (by ktr_units) (by assumption) (by assumption) (by assumption) (by ktr_rel) (by ktr_rel) ?_); intro _ _ _ _ _ _ _ _ _ _ _ _; ktr_unf))
local macro_rules | `(tactic| walk_at "binaryOp Pow ref int") => `(tactic| ((with_reducible show wpAny _ _ (binaryOp Operator.Pow (Value.ref _) (Value.int _ _)) _ _ _); k_dflt (refine pow22 (by k_asm) (by k_asm) (by k_asm) (by k_asm) (by k_asm) (by kwd_inv) (by ktr_room) (by ktr_units) (by assumption) (by assumption) (by ktr_rel) (by decide) ?_); intro _ _ _ _ _ _ _ _; ktr_unf))
local macro_rules | `(tactic| walk_at "binaryOp Pow ref int") => `(tactic| ((with_reducible show wpAny _ _ (binaryOp Operator.Pow (Value.ref _) (Value.int _ _)) _ _ _); k_dflt (refine pow32 (by k_asm) (by k_asm) (by k_asm) (by k_asm) (by k_asm) (by kwd_inv) (by ktr_room) (by ktr_units) (by assumption) (by assumption) (by ktr_rel) (by decide) ?_); intro _ _ _ _ _ _ _ _; ktr_unf))
local macro_rules | `(tactic| ktr_rel) => `(tactic| first | with_reducible assumption | (apply P3.mono; (first | with_reducible assumption | exact Sub.one | exact Sub.app); ktr_rel) | (apply P3.mk; k_mem; ktr_rel; ktr_rel; ktr_rel) | (apply P2.mono; (first | with_reducible assumption | exact Sub.one | exact Sub.app); ktr_rel) | exact P2.none | (apply P2.mk; k_mem; ktr_rel; ktr_rel))
local macro_rules | `(tactic| k_mem) => `(tactic| first | with_reducible assumption | (apply Sub.mem; (first | with_reducible assumption | exact Sub.one | exact Sub.app); k_mem))
local macro_rules | `(tactic| walk_at "Turn") => `(tactic| (refine turn_ret ?_; (try dsimp only)))
local macro_rules | `(tactic| walk_at "subscriptTail Name Constant ref int") => `(tactic| (k_dflt (refine' tupItem ?N ?m ?a ?b ?c ?d ?_; (case N => k_asm); (case m => k_mem); (case a => decide); (case b => decide); (case c => rfl); (case d => rfl); k_whole); (try dsimp only)))
set_option maxHeartbeats 4000000 in
theorem dbl2 {P : Int} {v : Value} {q : Int × Int × Int} (B : Below A₀ base outer h₀) (F : Fr h₀ L s.heap m) (X : (hd.heap_1 w.params).In h₀) (N : News h₀ L s.heap news) (T : Top p loose mean mg mb h₀) (hk : cs.kind = .function) (hdp : dp + 24 < recursionLimit) (hun : un + 192 < cLine) (hP : 1 < P) (hB : P < BIG) (hv : P3 w P news v q)
    (hret : RetP3 w P h₀ L m news s Q (dblO P q)) : wpAny (model PySem.Challenge.rw_kh0015_01.row.prog w) (ktrTop dp un gd cn cs L a ccd cl outer) (call (.ref 42) [v]) Q E s := by
  cases hv
  refine wpAny_call ?_
  (k_dflt ktr_enter; refine noE ?_)
  k_steps
  all_goals exact hret _ _ _ _ (by k_asm) (by k_asm) (by ktr_rel) (by ktr_rel)
local macro_rules | `(tactic| walk_at "call ref") => `(tactic| ((with_reducible show wpAny _ _ (call (Value.ref 42) _) _ _ _); k_dflt (refine dbl2 (by k_asm) (by k_asm) (by k_asm) (by k_asm) (by k_asm) (by kwd_inv) (by ktr_room) (by ktr_units) (by assumption) (by assumption) (by ktr_rel) ?_); intro _ _ _ _ _ _ _ _; ktr_unf))
set_option maxHeartbeats 4000000 in
theorem add2o {P : Int} {v1 v2 : Value} {q1 q2 : Int × Int × Int} (B : Below A₀ base outer h₀) (F : Fr h₀ L s.heap m) (X : (hd.heap_1 w.params).In h₀) (N : News h₀ L s.heap news) (T : Top p loose mean mg mb h₀) (hk : cs.kind = .function) (hdp : dp + 30 < recursionLimit) (hun : un + 240 < cLine) (hP : 1 < P) (hB : P < BIG) (hv1 : P3 w P news v1 q1) (hv2 : P3 w P news v2 q2)
    (hret : RetP3 w P h₀ L m news s Q (addO P q1 q2)) : wpAny (model PySem.Challenge.rw_kh0015_01.row.prog w) (ktrTop dp un gd cn cs L a ccd cl outer) (call (.ref 49) [v1, v2]) Q E s := by
  cases hv1 with
  | mk a1 b1 c1 d1 =>
  cases hv2 with
  | mk a2 b2 c2 d2 =>
  have b1' := b1
  cases b1'
  refine wpAny_call ?_
  (k_dflt ktr_enter; refine noE ?_)
  k_steps
  all_goals (first
    | (refine hret _ _ _ _ (by k_asm) (by k_asm) ?_ (P3.cast ?_ (addO_1 (by assumption) (by assumption))) <;> first | with_reducible assumption | exact P3.mk (by k_mem) (by ktr_rel) (by ktr_rel) (by ktr_rel) | ktr_rel)
    | (refine hret _ _ _ _ (by k_asm) (by k_asm) ?_ (P3.cast ?_ (addO_2 (by assumption) (by assumption))) <;> first | with_reducible assumption | exact P3.mk (by k_mem) (by ktr_rel) (by ktr_rel) (by ktr_rel) | ktr_rel)
    | (refine hret _ _ _ _ (by k_asm) (by k_asm) ?_ (P3.cast ?_ (addO_3 (by assumption) (by assumption))) <;> first | with_reducible assumption | exact P3.mk (by k_mem) (by ktr_rel) (by ktr_rel) (by ktr_rel) | ktr_rel)
    | (refine hret _ _ _ _ (by k_asm) (by k_asm) ?_ (P3.cast ?_ (addO_4 (by assumption) (by assumption) (by assumption) (by assumption))) <;> first | with_reducible assumption | exact P3.mk (by k_mem) (by ktr_rel) (by ktr_rel) (by ktr_rel) | ktr_rel)
    | (refine hret _ _ _ _ (by k_asm) (by k_asm) ?_ (P3.cast ?_ (addO_5 (by assumption) (by assumption) (by assumption) (by assumption))) <;> first | with_reducible assumption | exact P3.mk (by k_mem) (by ktr_rel) (by ktr_rel) (by ktr_rel) | ktr_rel)
    | (refine hret _ _ _ _ (by k_asm) (by k_asm) ?_ (P3.cast ?_ (addO_6 (by assumption) (by assumption) (by assumption))) <;> first | with_reducible assumption | exact P3.mk (by k_mem) (by ktr_rel) (by ktr_rel) (by ktr_rel) | ktr_rel))
local macro_rules | `(tactic| walk_at "call ref") => `(tactic| ((with_reducible show wpAny _ _ (call (Value.ref 49) _) _ _ _); k_dflt (refine add2o (by k_asm) (by k_asm) (by k_asm) (by k_asm) (by k_asm) (by kwd_inv) (by ktr_room) (by ktr_units) (by assumption) (by assumption) (by ktr_rel) (by ktr_rel) ?_); intro _ _ _ _ _ _ _ _; ktr_unf))
set_option maxHeartbeats 4000000 in
theorem neg2o {P : Int} {v : Value} {x y z : Int} (B : Below A₀ base outer h₀) (F : Fr h₀ L s.heap m) (X : (hd.heap_1 w.params).In h₀) (N : News h₀ L s.heap news) (T : Top p loose mean mg mb h₀) (hk : cs.kind = .function) (hdp : dp + 20 < recursionLimit) (hun : un + 160 < cLine) (hP : 1 < P) (hB : P < BIG) (hv : P3 w P news v (x, y, z))
    (hret : RetP3 w P h₀ L m news s Q (x, -y % P, z)) : wpAny (model PySem.Challenge.rw_kh0015_01.row.prog w) (ktrTop dp un gd cn cs L a ccd cl outer) (call (.ref 70) [v]) Q E s := by
  cases hv
  refine wpAny_call ?_
  (k_dflt ktr_enter; refine noE ?_)
  k_steps
  all_goals exact hret _ _ _ _ (by k_asm) (by k_asm) (by ktr_rel) (by ktr_rel)
local macro_rules | `(tactic| walk_at "call ref") => `(tactic| ((with_reducible show wpAny _ _ (call (Value.ref 70) _) _ _ _); k_dflt (refine neg2o (by k_asm) (by k_asm) (by k_asm) (by k_asm) (by k_asm) (by kwd_inv) (by ktr_room) (by ktr_units) (by assumption) (by assumption) (by ktr_rel) ?_); intro _ _ _ _ _ _ _ _; ktr_unf))
set_option maxHeartbeats 4000000 in
theorem inf2o {P : Int} {v : Value} {x y z : Int} (B : Below A₀ base outer h₀) (F : Fr h₀ L s.heap m) (X : (hd.heap_1 w.params).In h₀) (N : News h₀ L s.heap news) (T : Top p loose mean mg mb h₀) (hk : cs.kind = .function) (hdp : dp + 20 < recursionLimit) (hun : un + 160 < cLine) (hP : 1 < P) (hB : P < BIG) (hv : P3 w P news v (x, y, z))
    (hret : RetV h₀ L m news s Q (fun _ => .bool (decide (z = 0)))) : wpAny (model PySem.Challenge.rw_kh0015_01.row.prog w) (ktrTop dp un gd cn cs L a ccd cl outer) (call (.ref 28) [v]) Q E s := by
  cases hv with
  | mk a b c d =>
  have d' := d
  cases d'
  refine wpAny_call ?_
  (k_dflt ktr_enter; refine noE ?_)
  k_steps
  all_goals exact hret _ _ 0 (by k_asm) (nDrop (by k_asm) (by ktr_rel))
local macro_rules | `(tactic| walk_at "call ref") => `(tactic| ((with_reducible show wpAny _ _ (call (Value.ref 28) _) _ _ _); k_dflt (refine inf2o (by k_asm) (by k_asm) (by k_asm) (by k_asm) (by k_asm) (by kwd_inv) (by ktr_room) (by ktr_units) (by assumption) (by assumption) (by ktr_rel) ?_); intro _ _ _ _ _; ktr_unf))
set_option maxHeartbeats 4000000 in
theorem on2o {P cb : Int} {v vb : Value} {x y z : Int} (B : Below A₀ base outer h₀) (F : Fr h₀ L s.heap m) (X : (hd.heap_1 w.params).In h₀) (N : News h₀ L s.heap news) (T : Top p loose mean mg mb h₀) (hk : cs.kind = .function) (hdp : dp + 30 < recursionLimit) (hun : un + 240 < cLine) (hP : 1 < P) (hB : P < BIG) (hv : P3 w P news v (x, y, z)) (hb : FqIn w 431 P news vb cb)
    (hret : RetV h₀ L m news s Q (fun _ => .bool (onO P cb (x, y, z)))) : wpAny (model PySem.Challenge.rw_kh0015_01.row.prog w) (ktrTop dp un gd cn cs L a ccd cl outer) (call (.ref 35) [v, vb]) Q E s := by
  cases hv with
  | mk a b c d =>
  obtain ⟨xb, eb⟩ := hb.ref
  subst eb
  refine wpAny_call ?_
  (k_dflt ktr_enter; refine noE ?_)
  k_steps
  · rw [onO_1 (by assumption)] at hret
    exact hret _ _ 0 (by k_asm) (nDrop (by k_asm) (by ktr_rel))
  · rw [onO_2 (by assumption)] at hret
    exact hret _ _ 0 (by k_asm) (nDrop (by k_asm) (by ktr_rel))
set_option maxHeartbeats 4000000 in
theorem mult0o {P k : Int} {v : Value} {t1 : Tok} {q : Int × Int × Int} (B : Below A₀ base outer h₀) (F : Fr h₀ L s.heap m) (X : (hd.heap_1 w.params).In h₀) (N : News h₀ L s.heap news) (T : Top p loose mean mg mb h₀) (hk : cs.kind = .function) (hdp : dp + 40 < recursionLimit) (hun : un + 320 < cLine) (hP : 1 < P) (hB : P < BIG) (hv : P3 w P news v q) (hk : k = 0)
    (hret : RetP3 w P h₀ L m news s Q ((1, 1, 0))) : wpAny (model PySem.Challenge.rw_kh0015_01.row.prog w) (ktrTop dp un gd cn cs L a ccd cl outer) (call (.ref 56) [v, .int k t1]) Q E s := by
  subst hk
  have hv' := hv
  cases hv with
  | mk a b c d =>
  have b' := b
  cases b'
  refine wpAny_call ?_
  (k_dflt ktr_enter; refine noE ?_)
  k_steps
  all_goals exact hret _ _ _ _ (by k_asm) (by k_asm) (by ktr_rel) (by ktr_rel)
set_option maxHeartbeats 4000000 in
theorem mult1o {P k : Int} {v : Value} {t1 : Tok} {q : Int × Int × Int} (B : Below A₀ base outer h₀) (F : Fr h₀ L s.heap m) (X : (hd.heap_1 w.params).In h₀) (N : News h₀ L s.heap news) (T : Top p loose mean mg mb h₀) (hk : cs.kind = .function) (hdp : dp + 40 < recursionLimit) (hun : un + 320 < cLine) (hP : 1 < P) (hB : P < BIG) (hv : P3 w P news v q) (hk : k = 1)
    (hret : RetP3 w P h₀ L m news s Q (q)) : wpAny (model PySem.Challenge.rw_kh0015_01.row.prog w) (ktrTop dp un gd cn cs L a ccd cl outer) (call (.ref 56) [v, .int k t1]) Q E s := by
  subst hk
  have hv' := hv
  cases hv with
  | mk a b c d =>
  have b' := b
  cases b'
  refine wpAny_call ?_
  (k_dflt ktr_enter; refine noE ?_)
  k_steps
  all_goals exact hret _ _ _ _ (by k_asm) (by k_asm) (by ktr_rel) (by ktr_rel)
local macro_rules | `(tactic| walk_at "call ref") => `(tactic| ((with_reducible show wpAny _ _ (call (Value.ref 56) _) _ _ _); k_dflt (refine mult1o (by k_asm) (by k_asm) (by k_asm) (by k_asm) (by k_asm) (by kwd_inv) (by ktr_room) (by ktr_units) (by assumption) (by assumption) (by ktr_rel) (by decide) ?_); intro _ _ _ _ _ _ _ _; ktr_unf))
set_option maxHeartbeats 4000000 in
theorem mult2o {P k : Int} {v : Value} {t1 : Tok} {q : Int × Int × Int} (B : Below A₀ base outer h₀) (F : Fr h₀ L s.heap m) (X : (hd.heap_1 w.params).In h₀) (N : News h₀ L s.heap news) (T : Top p loose mean mg mb h₀) (hk : cs.kind = .function) (hdp : dp + 43 < recursionLimit) (hun : un + 344 < cLine) (hP : 1 < P) (hB : P < BIG) (hv : P3 w P news v q) (hk : k = 2)
    (hret : RetP3 w P h₀ L m news s Q (dblO P q)) : wpAny (model PySem.Challenge.rw_kh0015_01.row.prog w) (ktrTop dp un gd cn cs L a ccd cl outer) (call (.ref 56) [v, .int k t1]) Q E s := by
  subst hk
  have hv' := hv
  cases hv with
  | mk a b c d =>
  have b' := b
  cases b'
  refine wpAny_call ?_
  (k_dflt ktr_enter; refine noE ?_)
  k_steps
  all_goals exact hret _ _ _ _ (by k_asm) (by k_asm) (by ktr_rel) (by ktr_rel)
local macro_rules | `(tactic| walk_at "call ref") => `(tactic| ((with_reducible show wpAny _ _ (call (Value.ref 56) _) _ _ _); k_dflt (refine mult2o (by k_asm) (by k_asm) (by k_asm) (by k_asm) (by k_asm) (by kwd_inv) (by ktr_room) (by ktr_units) (by assumption) (by assumption) (by ktr_rel) (by decide) ?_); intro _ _ _ _ _ _ _ _; ktr_unf))
set_option maxHeartbeats 4000000 in
theorem mult3o {P k : Int} {v : Value} {t1 : Tok} {q : Int × Int × Int} (B : Below A₀ base outer h₀) (F : Fr h₀ L s.heap m) (X : (hd.heap_1 w.params).In h₀) (N : News h₀ L s.heap news) (T : Top p loose mean mg mb h₀) (hk : cs.kind = .function) (hdp : dp + 46 < recursionLimit) (hun : un + 368 < cLine) (hP : 1 < P) (hB : P < BIG) (hv : P3 w P news v q) (hk : k = 3)
    (hret : RetP3 w P h₀ L m news s Q (addO P (dblO P q) q)) : wpAny (model PySem.Challenge.rw_kh0015_01.row.prog w) (ktrTop dp un gd cn cs L a ccd cl outer) (call (.ref 56) [v, .int k t1]) Q E s := by
  subst hk
  have hv' := hv
  cases hv with
  | mk a b c d =>
  have b' := b
  cases b'
  refine wpAny_call ?_
  (k_dflt ktr_enter; refine noE ?_)
  k_steps
  all_goals exact hret _ _ _ _ (by k_asm) (by k_asm) (by ktr_rel) (by ktr_rel)
set_option maxHeartbeats 4000000 in
theorem mult4o {P k : Int} {v : Value} {t1 : Tok} {q : Int × Int × Int} (B : Below A₀ base outer h₀) (F : Fr h₀ L s.heap m) (X : (hd.heap_1 w.params).In h₀) (N : News h₀ L s.heap news) (T : Top p loose mean mg mb h₀) (hk : cs.kind = .function) (hdp : dp + 46 < recursionLimit) (hun : un + 368 < cLine) (hP : 1 < P) (hB : P < BIG) (hv : P3 w P news v q) (hk : k = 4)
    (hret : RetP3 w P h₀ L m news s Q (dblO P (dblO P q))) : wpAny (model PySem.Challenge.rw_kh0015_01.row.prog w) (ktrTop dp un gd cn cs L a ccd cl outer) (call (.ref 56) [v, .int k t1]) Q E s := by
  subst hk
  have hv' := hv
  cases hv with
  | mk a b c d =>
  have b' := b
  cases b'
  refine wpAny_call ?_
  (k_dflt ktr_enter; refine noE ?_)
  k_steps
  all_goals exact hret _ _ _ _ (by k_asm) (by k_asm) (by ktr_rel) (by ktr_rel)
set_option maxHeartbeats 4000000 in
theorem mult5o {P k : Int} {v : Value} {t1 : Tok} {q : Int × Int × Int} (B : Below A₀ base outer h₀) (F : Fr h₀ L s.heap m) (X : (hd.heap_1 w.params).In h₀) (N : News h₀ L s.heap news) (T : Top p loose mean mg mb h₀) (hk : cs.kind = .function) (hdp : dp + 46 < recursionLimit) (hun : un + 368 < cLine) (hP : 1 < P) (hB : P < BIG) (hv : P3 w P news v q) (hk : k = 5)
    (hret : RetP3 w P h₀ L m news s Q (addO P (dblO P (dblO P q)) q)) : wpAny (model PySem.Challenge.rw_kh0015_01.row.prog w) (ktrTop dp un gd cn cs L a ccd cl outer) (call (.ref 56) [v, .int k t1]) Q E s := by
  subst hk
  have hv' := hv
  cases hv with
  | mk a b c d =>
  have b' := b
  cases b'
  refine wpAny_call ?_
  (k_dflt ktr_enter; refine noE ?_)
  k_steps
  all_goals exact hret _ _ _ _ (by k_asm) (by k_asm) (by ktr_rel) (by ktr_rel)
set_option maxHeartbeats 4000000 in
theorem norm2o {P : Int} {v : Value} {x y z : Int} (B : Below A₀ base outer h₀) (F : Fr h₀ L s.heap m) (X : (hd.heap_1 w.params).In h₀) (N : News h₀ L s.heap news) (T : Top p loose mean mg mb h₀) (hk : cs.kind = .function) (hdp : dp + 30 < recursionLimit) (hun : un + 240 < cLine) (hP : 1 < P) (hB : P < BIG) (hv : P3 w P news v (x, y, z)) (hg : ∃ x y : Int, x * z + y * P = 1)
    (hret : ∀ (t : Addr) l h' tk' ax ay e (i j : Int), Fr h₀ L h' m → News h₀ L h' l → Sub news l → (t, tupObj [.ref ax, .ref ay] e) ∈ l → FqIn w 431 P l (.ref ax) (x * i % P) → FqIn w 431 P l (.ref ay) (y * j % P) → 0 ≤ i → i < P → (z * i) % P = 1 → 0 ≤ j → j < P → (z * j) % P = 1 → Q (.ref t) { s with heap := h', toks := tk' }) : wpAny (model PySem.Challenge.rw_kh0015_01.row.prog w) (ktrTop dp un gd cn cs L a ccd cl outer) (call (.ref 63) [v]) Q E s := by
  cases hv with
  | mk a b c d =>
  refine wpAny_call ?_
  (k_dflt ktr_enter; refine noE ?_)
  k_steps
  all_goals exact hret _ _ _ _ _ _ _ _ _ (by k_asm) (by k_asm) (by ktr_rel) (.head _) (by ktr_rel) (by ktr_rel) (by assumption) (by assumption) (by assumption) (by assumption) (by assumption) (by assumption)
local macro_rules | `(tactic| walk_at "call ref") => `(tactic| ((with_reducible show wpAny _ _ (call (Value.ref 63) _) _ _ _); k_dflt (refine norm2o (by k_asm) (by k_asm) (by k_asm) (by k_asm) (by k_asm) (by kwd_inv) (by ktr_room) (by ktr_units) (by assumption) (by assumption) (by ktr_rel) (by assumption) ?_); intro _ _ _ _ _ _ _ _ _ _ _ _ _ _ _ _ _ _ _ _ _; ktr_unf))
set_option maxHeartbeats 4000000 in
theorem inf1n {x : Addr} (B : Below A₀ base outer h₀) (F : Fr h₀ L s.heap m) (X : (hd.heap_1 w.params).In h₀) (N : News h₀ L s.heap news) (T : Top p loose mean mg mb h₀) (hk : cs.kind = .function) (hdp : dp + 20 < recursionLimit) (hun : un + 160 < cLine)
    (hret : RetV h₀ L m news s Q (fun _ => .bool true)) : wpAny (model PySem.Challenge.rw_kh0015_01.row.prog w) (ktrTop dp un gd cn cs L a ccd cl outer) (call (.ref 77) [.none]) Q E s := by
  refine wpAny_call ?_
  (k_dflt ktr_enter; refine noE ?_)
  k_steps
  all_goals exact hret _ _ 0 (by k_asm) (by k_asm)
set_option maxHeartbeats 4000000 in
theorem inf1s {x : Addr} (B : Below A₀ base outer h₀) (F : Fr h₀ L s.heap m) (X : (hd.heap_1 w.params).In h₀) (N : News h₀ L s.heap news) (T : Top p loose mean mg mb h₀) (hk : cs.kind = .function) (hdp : dp + 20 < recursionLimit) (hun : un + 160 < cLine)
    (hret : RetV h₀ L m news s Q (fun _ => .bool false)) : wpAny (model PySem.Challenge.rw_kh0015_01.row.prog w) (ktrTop dp un gd cn cs L a ccd cl outer) (call (.ref 77) [(.ref x)]) Q E s := by
  refine wpAny_call ?_
  (k_dflt ktr_enter; refine noE ?_)
  k_steps
  all_goals exact hret _ _ 0 (by k_asm) (by k_asm)
local macro_rules | `(tactic| walk_at "call ref") => `(tactic| ((with_reducible show wpAny _ _ (call (Value.ref 77) [Value.none]) _ _ _); k_dflt (refine inf1n (x := 0) (by k_asm) (by k_asm) (by k_asm) (by k_asm) (by k_asm) (by kwd_inv) (by ktr_room) (by ktr_units)  ?_); intro _ _ _ _ _; ktr_unf))
local macro_rules | `(tactic| walk_at "call ref") => `(tactic| ((with_reducible show wpAny _ _ (call (Value.ref 77) [Value.ref _]) _ _ _); k_dflt (refine inf1s (by k_asm) (by k_asm) (by k_asm) (by k_asm) (by k_asm) (by kwd_inv) (by ktr_room) (by ktr_units)  ?_); intro _ _ _ _ _; ktr_unf))
set_option maxHeartbeats 4000000 in
theorem neg1p {P : Int} {v : Value} {q : Option (Int × Int)} (B : Below A₀ base outer h₀) (F : Fr h₀ L s.heap m) (X : (hd.heap_1 w.params).In h₀) (N : News h₀ L s.heap news) (T : Top p loose mean mg mb h₀) (hk : cs.kind = .function) (hdp : dp + 20 < recursionLimit) (hun : un + 160 < cLine) (hP : 1 < P) (hB : P < BIG) (hv : P2 w P news v q)
    (hret : RetP2 w P h₀ L m news s Q (q.map fun a => (a.1, -a.2 % P))) : wpAny (model PySem.Challenge.rw_kh0015_01.row.prog w) (ktrTop dp un gd cn cs L a ccd cl outer) (call (.ref 119) [v]) Q E s := by
  cases hv
  all_goals (refine wpAny_call ?_; (k_dflt ktr_enter; refine noE ?_); k_steps)
  all_goals exact hret _ _ _ _ (by k_asm) (by k_asm) (by ktr_rel) (by ktr_rel)
local macro_rules | `(tactic| walk_at "call ref") => `(tactic| ((with_reducible show wpAny _ _ (call (Value.ref 119) _) _ _ _); k_dflt (refine neg1p (by k_asm) (by k_asm) (by k_asm) (by k_asm) (by k_asm) (by kwd_inv) (by ktr_room) (by ktr_units) (by assumption) (by assumption) (by ktr_rel) ?_); intro _ _ _ _ _ _ _ _; ktr_unf))
set_option maxHeartbeats 4000000 in
theorem dbl1p {P : Int} {v : Value} {q : Option (Int × Int)} (B : Below A₀ base outer h₀) (F : Fr h₀ L s.heap m) (X : (hd.heap_1 w.params).In h₀) (N : News h₀ L s.heap news) (T : Top p loose mean mg mb h₀) (hk : cs.kind = .function) (hdp : dp + 24 < recursionLimit) (hun : un + 192 < cLine) (hP : 1 < P) (hB : P < BIG) (hv : P2 w P news v q) (hok : DblOk P q)
    (hret : ∀ r, DblP P q r → RetP2 w P h₀ L m news s Q r) : wpAny (model PySem.Challenge.rw_kh0015_01.row.prog w) (ktrTop dp un gd cn cs L a ccd cl outer) (call (.ref 91) [v]) Q E s := by
  cases hv
  all_goals (simp only [DblOk, DblP] at hok hret)
  all_goals (refine wpAny_call ?_; (k_dflt ktr_enter; refine noE ?_); k_steps)
  · exact hret _ rfl _ _ _ _ (by k_asm) (by k_asm) (by ktr_rel) (by ktr_rel)
  · exact hret _ ⟨_, by assumption, by assumption, by assumption, rfl⟩ _ _ _ _ (by k_asm) (by k_asm) (by ktr_rel) (by ktr_rel)
local macro_rules | `(tactic| walk_at "call ref") => `(tactic| ((with_reducible show wpAny _ _ (call (Value.ref 91) _) _ _ _); k_dflt (refine dbl1p (by k_asm) (by k_asm) (by k_asm) (by k_asm) (by k_asm) (by kwd_inv) (by ktr_room) (by ktr_units) (by assumption) (by assumption) (by ktr_rel) (by first | assumption | solve_by_elim) ?_); intro _ _ _ _ _ _ _ _ _ _; ktr_unf))
local macro_rules | `(tactic| walk_at "exec Raise some none") => `(tactic| (refine Stop.mk ?_))
set_option maxHeartbeats 4000000 in
theorem add1p {P : Int} {v1 v2 : Value} {q1 q2 : Option (Int × Int)} (B : Below A₀ base outer h₀) (F : Fr h₀ L s.heap m) (X : (hd.heap_1 w.params).In h₀) (N : News h₀ L s.heap news) (T : Top p loose mean mg mb h₀) (hk : cs.kind = .function) (hdp : dp + 30 < recursionLimit) (hun : un + 240 < cLine) (hP : 1 < P) (hB : P < BIG) (hv1 : P2 w P news v1 q1) (hv2 : P2 w P news v2 q2) (hok : AddOk P q1 q2)
    (hret : ∀ r, AddP P q1 q2 r → RetP2 w P h₀ L m news s Q r) : wpAny (model PySem.Challenge.rw_kh0015_01.row.prog w) (ktrTop dp un gd cn cs L a ccd cl outer) (call (.ref 98) [v1, v2]) Q E s := by
  cases hv1 with
  | none =>
    simp only [AddP] at hret
    cases hv2
    all_goals (refine wpAny_call ?_; (k_dflt ktr_enter; refine noE ?_); k_steps)
    all_goals exact hret _ rfl _ _ _ _ (by k_asm) (by k_asm) (by ktr_rel) (by ktr_rel)
  | @mk t1 ax1 ay1 x1 y1 e1 a1 b1 c1 =>
    cases hv2 with
    | none =>
      simp only [AddP] at hret
      refine wpAny_call ?_
      (k_dflt ktr_enter; refine noE ?_)
      k_steps
      all_goals exact hret _ rfl _ _ _ _ (by k_asm) (by k_asm) (by ktr_rel) (by ktr_rel)
    | @mk t2 ax2 ay2 x2 y2 e2 a2 b2 c2 =>
      simp only [AddOk, AddP] at hok hret
      by_cases hx : x2 = x1
      · by_cases hy : y2 = y1
        · have hd : DblOk P (some (x1, y1)) := hok.1 hx hy
          refine wpAny_call ?_
          (k_dflt ktr_enter; refine noE ?_)
          k_steps
          all_goals exact hret _ (.inl ⟨hx, hy, by assumption⟩) _ _ _ _ (by k_asm) (by k_asm) (by ktr_rel) (by ktr_rel)
        · refine wpAny_call ?_
          (k_dflt ktr_enter; refine noE ?_)
          k_steps
          all_goals exact hret _ (.inr (.inl ⟨hx, hy, rfl⟩)) _ _ _ _ (by k_asm) (by k_asm) (by ktr_rel) (by ktr_rel)
      · have hb : ∃ x y : Int, x * ((x2 - x1) % P) + y * P = 1 := hok.2 hx
        refine wpAny_call ?_
        (k_dflt ktr_enter; refine noE ?_)
        k_steps
        all_goals first
          | exact hret _ (.inr (.inr ⟨hx, _, by assumption, by assumption, by assumption, rfl⟩)) _ _ _ _ (by k_asm) (by k_asm) (by ktr_rel) (by ktr_rel)
          | (rename (_ : Int) % _ * _ % _ = 1 => hi; exact absurd (chk hP hi) (by assumption))
local macro_rules | `(tactic| walk_at "call ref") => `(tactic| ((with_reducible show wpAny _ _ (call (Value.ref 98) _) _ _ _); k_dflt (refine add1p (by k_asm) (by k_asm) (by k_asm) (by k_asm) (by k_asm) (by kwd_inv) (by ktr_room) (by ktr_units) (by assumption) (by assumption) (by ktr_rel) (by ktr_rel) (by first | assumption | solve_by_elim) ?_); intro _ _ _ _ _ _ _ _ _ _; ktr_unf))
set_option maxHeartbeats 4000000 in
theorem mult0p {P k : Int} {v : Value} {t1 : Tok} {q : Option (Int × Int)} (B : Below A₀ base outer h₀) (F : Fr h₀ L s.heap m) (X : (hd.heap_1 w.params).In h₀) (N : News h₀ L s.heap news) (T : Top p loose mean mg mb h₀) (hk : cs.kind = .function) (hdp : dp + 40 < recursionLimit) (hun : un + 320 < cLine) (hP : 1 < P) (hB : P < BIG) (hv : P2 w P news v q) (hk : k = 0) 
    (hret : RetP2 w P h₀ L m news s Q none) : wpAny (model PySem.Challenge.rw_kh0015_01.row.prog w) (ktrTop dp un gd cn cs L a ccd cl outer) (call (.ref 105) [v, .int k t1]) Q E s := by
  subst hk
  refine wpAny_call ?_
  (k_dflt ktr_enter; refine noE ?_)
  k_steps
  all_goals exact hret  _ _ _ _ (by k_asm) (by k_asm) (by ktr_rel) (by ktr_rel)
set_option maxHeartbeats 4000000 in
theorem mult1p {P k : Int} {v : Value} {t1 : Tok} {q : Option (Int × Int)} (B : Below A₀ base outer h₀) (F : Fr h₀ L s.heap m) (X : (hd.heap_1 w.params).In h₀) (N : News h₀ L s.heap news) (T : Top p loose mean mg mb h₀) (hk : cs.kind = .function) (hdp : dp + 40 < recursionLimit) (hun : un + 320 < cLine) (hP : 1 < P) (hB : P < BIG) (hv : P2 w P news v q) (hk : k = 1) 
    (hret : RetP2 w P h₀ L m news s Q q) : wpAny (model PySem.Challenge.rw_kh0015_01.row.prog w) (ktrTop dp un gd cn cs L a ccd cl outer) (call (.ref 105) [v, .int k t1]) Q E s := by
  subst hk
  refine wpAny_call ?_
  (k_dflt ktr_enter; refine noE ?_)
  k_steps
  all_goals exact hret  _ _ _ _ (by k_asm) (by k_asm) (by ktr_rel) (by ktr_rel)
local macro_rules | `(tactic| walk_at "call ref") => `(tactic| ((with_reducible show wpAny _ _ (call (Value.ref 105) _) _ _ _); k_dflt (refine mult1p (by k_asm) (by k_asm) (by k_asm) (by k_asm) (by k_asm) (by kwd_inv) (by ktr_room) (by ktr_units) (by assumption) (by assumption) (by ktr_rel) (by decide) ?_); intro _ _ _ _ _ _ _ _; ktr_unf))
set_option maxHeartbeats 4000000 in
theorem mult2p {P k : Int} {v : Value} {t1 : Tok} {q : Option (Int × Int)} (B : Below A₀ base outer h₀) (F : Fr h₀ L s.heap m) (X : (hd.heap_1 w.params).In h₀) (N : News h₀ L s.heap news) (T : Top p loose mean mg mb h₀) (hk : cs.kind = .function) (hdp : dp + 43 < recursionLimit) (hun : un + 344 < cLine) (hP : 1 < P) (hB : P < BIG) (hv : P2 w P news v q) (hk : k = 2) (hok : DblOk P q)
    (hret : ∀ r, DblP P q r → RetP2 w P h₀ L m news s Q r) : wpAny (model PySem.Challenge.rw_kh0015_01.row.prog w) (ktrTop dp un gd cn cs L a ccd cl outer) (call (.ref 105) [v, .int k t1]) Q E s := by
  subst hk
  refine wpAny_call ?_
  (k_dflt ktr_enter; refine noE ?_)
  k_steps
  all_goals exact hret _ (by assumption) _ _ _ _ (by k_asm) (by k_asm) (by ktr_rel) (by ktr_rel)
local macro_rules | `(tactic| walk_at "call ref") => `(tactic| ((with_reducible show wpAny _ _ (call (Value.ref 105) _) _ _ _); k_dflt (refine mult2p (by k_asm) (by k_asm) (by k_asm) (by k_asm) (by k_asm) (by kwd_inv) (by ktr_room) (by ktr_units) (by assumption) (by assumption) (by ktr_rel) (by decide) (by first | assumption | solve_by_elim) ?_); intro _ _ _ _ _ _ _ _ _ _; ktr_unf))
set_option maxHeartbeats 4000000 in
theorem mult3p {P k : Int} {v : Value} {t1 : Tok} {q : Option (Int × Int)} (B : Below A₀ base outer h₀) (F : Fr h₀ L s.heap m) (X : (hd.heap_1 w.params).In h₀) (N : News h₀ L s.heap news) (T : Top p loose mean mg mb h₀) (hk : cs.kind = .function) (hdp : dp + 46 < recursionLimit) (hun : un + 368 < cLine) (hP : 1 < P) (hB : P < BIG) (hv : P2 w P news v q) (hk : k = 3) (hok : DblOk P q) (hok2 : ∀ r, DblP P q r → AddOk P r q)
    (hret : ∀ r r2, DblP P q r → AddP P r q r2 → RetP2 w P h₀ L m news s Q r2) : wpAny (model PySem.Challenge.rw_kh0015_01.row.prog w) (ktrTop dp un gd cn cs L a ccd cl outer) (call (.ref 105) [v, .int k t1]) Q E s := by
  subst hk
  refine wpAny_call ?_
  (k_dflt ktr_enter; refine noE ?_)
  k_steps
  all_goals exact hret _ _ (by assumption) (by assumption) _ _ _ _ (by k_asm) (by k_asm) (by ktr_rel) (by ktr_rel)
set_option maxHeartbeats 4000000 in
theorem mult4p {P k : Int} {v : Value} {t1 : Tok} {q : Option (Int × Int)} (B : Below A₀ base outer h₀) (F : Fr h₀ L s.heap m) (X : (hd.heap_1 w.params).In h₀) (N : News h₀ L s.heap news) (T : Top p loose mean mg mb h₀) (hk : cs.kind = .function) (hdp : dp + 46 < recursionLimit) (hun : un + 368 < cLine) (hP : 1 < P) (hB : P < BIG) (hv : P2 w P news v q) (hk : k = 4) (hok : DblOk P q) (hok2 : ∀ r, DblP P q r → DblOk P r)
    (hret : ∀ r r2, DblP P q r → DblP P r r2 → RetP2 w P h₀ L m news s Q r2) : wpAny (model PySem.Challenge.rw_kh0015_01.row.prog w) (ktrTop dp un gd cn cs L a ccd cl outer) (call (.ref 105) [v, .int k t1]) Q E s := by
  subst hk
  refine wpAny_call ?_
  (k_dflt ktr_enter; refine noE ?_)
  k_steps
  all_goals exact hret _ _ (by assumption) (by assumption) _ _ _ _ (by k_asm) (by k_asm) (by ktr_rel) (by ktr_rel)
set_option maxHeartbeats 4000000 in
theorem mult5p {P k : Int} {v : Value} {t1 : Tok} {q : Option (Int × Int)} (B : Below A₀ base outer h₀) (F : Fr h₀ L s.heap m) (X : (hd.heap_1 w.params).In h₀) (N : News h₀ L s.heap news) (T : Top p loose mean mg mb h₀) (hk : cs.kind = .function) (hdp : dp + 46 < recursionLimit) (hun : un + 368 < cLine) (hP : 1 < P) (hB : P < BIG) (hv : P2 w P news v q) (hk : k = 5) (hok : DblOk P q) (hok2 : ∀ r, DblP P q r → DblOk P r) (hok3 : ∀ r r2, DblP P q r → DblP P r r2 → AddOk P r2 q)
    (hret : ∀ r r2 r3, DblP P q r → DblP P r r2 → AddP P r2 q r3 → RetP2 w P h₀ L m news s Q r3) : wpAny (model PySem.Challenge.rw_kh0015_01.row.prog w) (ktrTop dp un gd cn cs L a ccd cl outer) (call (.ref 105) [v, .int k t1]) Q E s := by
  subst hk
  refine wpAny_call ?_
  (k_dflt ktr_enter; refine noE ?_)
  k_steps
  all_goals exact hret _ _ _ (by assumption) (by assumption) (by assumption) _ _ _ _ (by k_asm) (by k_asm) (by ktr_rel) (by ktr_rel)
set_option maxHeartbeats 4000000 in
theorem on1p {P cb : Int} {v vb : Value} {q : Option (Int × Int)} (B : Below A₀ base outer h₀) (F : Fr h₀ L s.heap m) (X : (hd.heap_1 w.params).In h₀) (N : News h₀ L s.heap news) (T : Top p loose mean mg mb h₀) (hk : cs.kind = .function) (hdp : dp + 30 < recursionLimit) (hun : un + 240 < cLine) (hP : 1 < P) (hB : P < BIG) (hv : P2 w P news v q) (hb : FqIn w 269 P news vb cb)
    (hret : RetV h₀ L m news s Q (fun _ => .bool (onP P cb q))) : wpAny (model PySem.Challenge.rw_kh0015_01.row.prog w) (ktrTop dp un gd cn cs L a ccd cl outer) (call (.ref 84) [v, vb]) Q E s := by
  obtain ⟨xb, eb⟩ := hb.ref
  subst eb
  cases hv
  all_goals (refine wpAny_call ?_; (k_dflt ktr_enter; refine noE ?_); k_steps)
  all_goals exact hret _ _ 0 (by k_asm) (nDrop (by k_asm) (by ktr_rel))
set_option maxHeartbeats 4000000 in
theorem cmp1p {P : Int} {v1 v2 : Value} {q1 q2 : Option (Int × Int)} (B : Below A₀ base outer h₀) (F : Fr h₀ L s.heap m) (X : (hd.heap_1 w.params).In h₀) (N : News h₀ L s.heap news) (T : Top p loose mean mg mb h₀) (hk : cs.kind = .function) (hdp : dp + 20 < recursionLimit) (hun : un + 160 < cLine) (hv1 : P2 w P news v1 q1) (hv2 : P2 w P news v2 q2)
    (hret : RetV h₀ L m news s Q (fun _ => .bool (decide (q1 = q2)))) : wpAny (model PySem.Challenge.rw_kh0015_01.row.prog w) (ktrTop dp un gd cn cs L a ccd cl outer) (compareOp .Eq v1 v2) Q E s := by
  have hu : (ktrTop dp un gd cn cs L a ccd cl outer).units < cLine := by ktr_units
  cases hv1 with
  | none =>
    cases hv2 with
    | none =>
      k_steps
      all_goals exact hret _ _ 0 F N
    | mk a2 b2 c2 =>
      refine SeqAt.RcAt.none_tuple (News.isTup N a2) hu _ _ _ _ ?_
      exact hret _ _ 0 F N
  | @mk t1 ax1 ay1 x1 y1 e1 a1 b1 c1 =>
    cases hv2 with
    | none =>
      refine SeqAt.RcAt.tuple_none (News.isTup N a1) hu _ _ _ _ ?_
      exact hret _ _ 0 F N
    | @mk t2 ax2 ay2 x2 y2 e2 a2 b2 c2 =>
      refine tup2_cmp hu (N.get a1) (N.get a2) ?_
      have second : ∀ h' tk', Fr h₀ L h' m → News h₀ L h' news → (if (decide (x1 = x2)) = true then wpAny (model PySem.Challenge.rw_kh0015_01.row.prog w) (ktrTop dp un gd cn cs L a ccd cl outer).in1 (eqBool (.ref ay1) (.ref ay2)) (fun d s2 => Q (.bool d) s2) E { s with heap := h', toks := tk' } else Q (.bool false) { s with heap := h', toks := tk' }) := by
        intro h' tk' F' N'
        by_cases hx : x1 = x2
        · rw [if_pos (decide_eq_true hx)]
          have last : ∀ h2 tk2, Fr h₀ L h2 m → News h₀ L h2 news → Q (.bool (decide (y1 = y2))) { s with heap := h2, toks := tk2 } := by
            intro h2 tk2 F2 N2
            have e : decide (some (x1, y1) = some (x2, y2)) = decide (y1 = y2) := by
              subst hx
              by_cases hy : y1 = y2 <;> simp [hy]
            rw [e] at hret
            exact hret _ _ 0 F2 N2
          refine eqBool_ref (fun e => ?_) ?_
          · subst e
            have := last h' tk' F' N'
            rw [decide_eq_true (c1.same N' c2)] at this
            exact this
          · k_dflt (refine' eq1 B F' X N' T hk ?d ?u c1 c2 ?_; (case d => ktr_room); (case u => ktr_units))
            intro h3 tk3 t3 F3 N3
            exact ⟨_, rfl, last _ _ F3 N3⟩
        · rw [if_neg (by rw [decide_eq_false hx]; exact Bool.false_ne_true)]
          have e : decide (some (x1, y1) = some (x2, y2)) = false := decide_eq_false (fun e => hx (by injection e with e; injection e))
          rw [e] at hret
          exact hret _ _ 0 F' N'
      refine eqBool_ref (fun e => ?_) ?_
      · subst e
        have := second s.heap s.toks F N
        rw [decide_eq_true (b1.same N b2), if_pos rfl] at this
        rw [if_pos rfl]
        exact this
      · k_dflt (refine' eq1 B F X N T hk ?d ?u b1 b2 ?_; (case d => ktr_room); (case u => ktr_units))
        intro h3 tk3 t3 F3 N3
        exact ⟨_, rfl, second _ _ F3 N3⟩
local macro_rules | `(tactic| walk_at "compareOp Eq") => `(tactic| (k_dflt (refine cmp1p (by k_asm) (by k_asm) (by k_asm) (by k_asm) (by k_asm) (by kwd_inv) (by ktr_room) (by ktr_units) (by with_reducible assumption) (by with_reducible assumption) ?_); intro _ _ _ _ _; (try dsimp only); (try k_fold)))
set_option maxHeartbeats 4000000 in
theorem eq1p {P : Int} {v1 v2 : Value} {q1 q2 : Option (Int × Int)} (B : Below A₀ base outer h₀) (F : Fr h₀ L s.heap m) (X : (hd.heap_1 w.params).In h₀) (N : News h₀ L s.heap news) (T : Top p loose mean mg mb h₀) (hk : cs.kind = .function) (hdp : dp + 30 < recursionLimit) (hun : un + 240 < cLine) (hv1 : P2 w P news v1 q1) (hv2 : P2 w P news v2 q2)
    (hret : RetV h₀ L m news s Q (fun _ => .bool (decide (q1 = q2)))) : wpAny (model PySem.Challenge.rw_kh0015_01.row.prog w) (ktrTop dp un gd cn cs L a ccd cl outer) (call (.ref 112) [v1, v2]) Q E s := by
  refine wpAny_call ?_
  (k_dflt ktr_enter; refine noE ?_)
  k_steps
  all_goals exact hret _ _ 0 (by k_asm) (by k_asm)
local macro_rules | `(tactic| walk_at "call ref") => `(tactic| ((with_reducible show wpAny _ _ (call (Value.ref 112) _) _ _ _); k_dflt (refine eq1p (by k_asm) (by k_asm) (by k_asm) (by k_asm) (by k_asm) (by kwd_inv) (by ktr_room) (by ktr_units) (by ktr_rel) (by ktr_rel) ?_); intro _ _ _ _ _; ktr_unf))
local macro_rules | `(tactic| ktr_rel) => `(tactic| first | with_reducible assumption | (apply L2.mono; (first | with_reducible assumption | exact Sub.one | exact Sub.app); ktr_rel) | exact L2.none | (apply L2.mk <;> first | k_mem | with_reducible assumption | exact fmod_lo _ (by omega) | exact fmod_hi _ (by omega)))
local macro_rules | `(tactic| ktr_rel) => `(tactic| first | with_reducible assumption | (apply R3.mono; (first | with_reducible assumption | exact Sub.one | exact Sub.app); ktr_rel) | (apply R3.mk; k_mem; ktr_rel; ktr_rel; ktr_rel))
local macro_rules | `(tactic| walk_at "call builtin:pow") => `(tactic| (k_dflt (refine' powL ?e ?p ?_; (case e => first | omega | (rw [Int.fdiv_eq_ediv_of_nonneg _ (by decide)]; omega)); (case p => assumption)); intro r9 tk9 t9 h9a h9b h9c; (try dsimp only); (try k_fold)))
local macro_rules | `(tactic| tb_rel) => `(tactic| first | exact Sz.lit (by decide) | exact Sz.var (by assumption) (by assumption) (by assumption) | exact Sz.fmod (by assumption) (by assumption) | exact Sz.three (by assumption) (by assumption) (by assumption) | exact Sz.two (by assumption) (by assumption) (by assumption) | (apply Sz.mul <;> tb_rel) | (apply Sz.sub <;> tb_rel) | (apply Sz.add <;> tb_rel))
local macro_rules | `(tactic| mul_fits) => `(tactic| exact Sz.ok (by tb_rel) (by tb_rel) (by decide) (by decide))
set_option maxHeartbeats 4000000 in
theorem oppo {P : Int} {v : Value} {u : Tok} {q : Option (Int × Int)} (B : Below A₀ base outer h₀) (F : Fr h₀ L s.heap m) (X : (hd.heap_1 w.params).In h₀) (N : News h₀ L s.heap news) (T : Top p loose mean mg mb h₀) (hk : cs.kind = .function) (hdp : dp + 20 < recursionLimit) (hun : un + 160 < cLine) (hP : 1 < P) (hB : P < BIG) (hv : L2 P news v q)
    (hret : RetL2 P h₀ L m news s Q (opL P q)) : wpAny (model PySem.Challenge.rw_kh0015_01.row.prog w) (ktrTop dp un gd cn cs L a ccd cl outer) (call (.ref 461) [v, .int P u]) Q E s := by
  cases hv
  all_goals (refine wpAny_call ?_; (k_dflt ktr_enter; refine noE ?_); k_steps)
  · exact hret _ _ _ _ (by k_asm) (by k_asm) (by ktr_rel) (by ktr_rel)
  · refine hret _ _ _ _ (by k_asm) (by k_asm) (by ktr_rel) (L2.cast (by ktr_rel) ?_)
    rw [fm _ hP]
    rfl
local macro_rules | `(tactic| walk_at "call ref") => `(tactic| ((with_reducible show wpAny _ _ (call (Value.ref 461) _) _ _ _); k_dflt (refine oppo (by k_asm) (by k_asm) (by k_asm) (by k_asm) (by k_asm) (by kwd_inv) (by ktr_room) (by ktr_units) (by assumption) (by assumption) (by ktr_rel) ?_); intro _ _ _ _ _ _ _ _; ktr_unf))
set_option maxHeartbeats 4000000 in
theorem summ {P : Int} {v1 v2 : Value} {u : Tok} {q1 q2 : Option (Int × Int)} (B : Below A₀ base outer h₀) (F : Fr h₀ L s.heap m) (X : (hd.heap_1 w.params).In h₀) (N : News h₀ L s.heap news) (T : Top p loose mean mg mb h₀) (hk : cs.kind = .function) (hdp : dp + 20 < recursionLimit) (hun : un + 160 < cLine) (hP : 1 < P) (hB : P < BIG) (hv1 : L2 P news v1 q1) (hv2 : L2 P news v2 q2)
    (hret : RetL2 P h₀ L m news s Q (sumL P q1 q2)) : wpAny (model PySem.Challenge.rw_kh0015_01.row.prog w) (ktrTop dp un gd cn cs L a ccd cl outer) (call (.ref 468) [v1, v2, .int P u]) Q E s := by
  cases hv1 <;> cases hv2
  all_goals (refine wpAny_call ?_; (k_dflt ktr_enter; refine noE ?_); k_steps)
  all_goals first
    | exact hret _ _ _ _ (by k_asm) (by k_asm) (by ktr_rel) (L2.cast (by ktr_rel) (by first | rfl | exact sumL_1 (by assumption) (by rw [← fm _ hP]; assumption)))
    | contradiction
    | (rename _ = pw _ _ _ => hr
       subst hr
       refine hret _ _ _ _ (by k_asm) (by k_asm) (by ktr_rel) (L2.cast (by ktr_rel) ?_)
       first
         | (refine Eq.trans ?_ (sumL_2 (by assumption) (by rw [← fm _ hP]; assumption)); simp only [outL, slL, fm _ hP])
         | (refine Eq.trans ?_ (sumL_3 (by assumption)); simp only [outL, slL, fm _ hP]))
local macro_rules | `(tactic| walk_at "call ref") => `(tactic| ((with_reducible show wpAny _ _ (call (Value.ref 468) _) _ _ _); k_dflt (refine summ (by k_asm) (by k_asm) (by k_asm) (by k_asm) (by k_asm) (by kwd_inv) (by ktr_room) (by ktr_units) (by assumption) (by assumption) (by ktr_rel) (by ktr_rel) ?_); intro _ _ _ _ _ _ _ _; ktr_unf))
section
local macro_rules | `(tactic| walk_at "exec For Name Call cons nil") => `(tactic| (refine Stop.mk ?_))
local macro_rules | `(tactic| walk_at "pyIter ref") => `(tactic| (refine Stop.mk ?_))
set_option maxHeartbeats 4000000 in
theorem sevl {P k : Int} {v : Value} {u u2 : Tok} {q : Option (Int × Int)} (B : Below A₀ base outer h₀) (F : Fr h₀ L s.heap m) (X : (hd.heap_1 w.params).In h₀) (N : News h₀ L s.heap news) (T : Top p loose mean mg mb h₀) (hk : cs.kind = .function) (hdp : dp + 30 < recursionLimit) (hun : un + 240 < cLine) (hP : 1 < P) (hB : P < BIG) (hv : L2 P news v q) (hk0 : 0 ≤ k) (hk1 : k ≤ 10)
    (hret : RetL2 P h₀ L m news s Q (sevL P q k.toNat)) : wpAny (model PySem.Challenge.rw_kh0015_01.row.prog w) (ktrTop dp un gd cn cs L a ccd cl outer) (call (.ref 475) [v, .int k u2, .int P u]) Q E s := by
  refine wpAny_call ?_
  (k_dflt ktr_enter; refine noE ?_)
  k_steps
  unfold Stop
  rename Fr _ _ _ _ => FW
  refine For_invVF FW rfl rfl ?_
  k_steps
  unfold Stop
  rename Fr _ _ _ _ => F1
  rename News _ _ _ _ => N1
  rename IsRange _ _ _ _ _ _ _ _ => R1
  refine iter_rangeL (n := k.toNat) (fun i m₁ l => ∃ v', Sees m₁ [(Str.ofString "point", v), (Str.ofString "prime", .int P u), (Str.ofString "total", v')] ∧ Sub news l ∧ L2 P l v' (sevL P q i)) rfl rfl R1 (range_small hk0 (by omega)) (range_size hk0) F1 N1 ⟨_, ⟨rfl, rfl, rfl, trivial⟩, by ktr_rel, .none⟩ ?_ ?_
  · clear F1 N1
    rintro i t m₁ l l1 h tk hi ⟨v', hs, hsub, hv'⟩ S F2 N2
    have F3 := frSeen F2 (ps := [(Str.ofString "turn", .int i t), (Str.ofString "point", v), (Str.ofString "prime", .int P u), (Str.ofString "total", v')]) ⟨rfl, (if_neg (by decide)).trans hs.1, (if_neg (by decide)).trans hs.2.1, (if_neg (by decide)).trans hs.2.2.1, trivial⟩
    clear F2
    k_steps
    all_goals exact turn_end (by k_asm) (by k_asm) (by ktr_rel) fun l2 S2 C2 => ⟨_, ⟨rfl, rfl, rfl, trivial⟩, hsub.trans S2, L2.cln C2 (by ktr_rel)⟩
  · clear F1 N1
    rintro m₁ l h tk ⟨v', hs, hsub, hv'⟩ F2 N2
    have F3 := frSeen F2 hs
    clear F2
    k_steps
    all_goals exact hret _ _ _ _ (by k_asm) (by k_asm) (by ktr_rel) (by ktr_rel)
end
local macro_rules | `(tactic| walk_at "call ref") => `(tactic| ((with_reducible show wpAny _ _ (call (Value.ref 475) _) _ _ _); k_dflt (refine sevl (by k_asm) (by k_asm) (by k_asm) (by k_asm) (by k_asm) (by kwd_inv) (by ktr_room) (by ktr_units) (by assumption) (by assumption) (by ktr_rel) (by first | decide | assumption) (by first | decide | omega) ?_); intro _ _ _ _ _ _ _ _; ktr_unf))
section
local macro_rules | `(tactic| walk_at "exec For Name Call cons nil") => `(tactic| (refine Stop.mk ?_))
local macro_rules | `(tactic| walk_at "pyIter ref") => `(tactic| (refine Stop.mk ?_))
local macro_rules | `(tactic| walk_at "binaryOp Pow int int") => `(tactic| (refine powI3 (by assumption) (by assumption) (by assumption) ?_))
set_option maxHeartbeats 4000000 in
theorem poin {P k c : Int} {u u2 u3 : Tok} (B : Below A₀ base outer h₀) (F : Fr h₀ L s.heap m) (X : (hd.heap_1 w.params).In h₀) (N : News h₀ L s.heap news) (T : Top p loose mean mg mb h₀) (hk : cs.kind = .function) (hdp : dp + 30 < recursionLimit) (hun : un + 240 < cLine) (hP : 1 < P) (hB : P < BIG) (hk0 : 0 ≤ k) (hc0 : 0 ≤ c) (hc1 : c < P)
    (hret : ∀ q, OnL P c q → RetL2 P h₀ L m news s Q q) : wpAny (model PySem.Challenge.rw_kh0015_01.row.prog w) (ktrTop dp un gd cn cs L a ccd cl outer) (call (.ref 454) [.int k u, .int c u2, .int P u3]) Q E s := by
  refine wpAny_call ?_
  (k_dflt ktr_enter; refine noE ?_)
  k_steps
  · exact hret none trivial _ _ _ _ (by k_asm) (by k_asm) (by ktr_rel) (by ktr_rel)
  · unfold Stop
    rename Fr _ _ _ _ => FW
    refine For_invVF FW rfl rfl ?_
    k_steps
    unfold Stop
    rename Fr _ _ _ _ => F1
    rename News _ _ _ _ => N1
    rename IsRange _ _ _ _ _ _ _ _ => R1
    refine iter_rangeL (n := 20) (fun i m₁ l => ∃ pl u4, Sees m₁ [(Str.ofString "number", .int k u), (Str.ofString "shift", .int c u2), (Str.ofString "prime", .int P u3), (Str.ofString "place", .int pl u4)] ∧ Sub news l ∧ 0 ≤ pl ∧ pl < P) rfl rfl R1 (range_small (by decide) (by decide)) (range_size (by decide)) F1 N1 ⟨_, _, ⟨rfl, rfl, rfl, rfl, trivial⟩, by ktr_rel, fmod_lo _ (by omega), fmod_hi _ (by omega)⟩ ?_ ?_
    · clear F1 N1
      rintro i t m₁ l l1 h tk hi ⟨pl, u4, hs, hsub, hp0, hp1⟩ S F2 N2
      have F3 := frSeen F2 (ps := [(Str.ofString "turn", .int i t), (Str.ofString "number", .int k u), (Str.ofString "shift", .int c u2), (Str.ofString "prime", .int P u3), (Str.ofString "place", .int pl u4)]) ⟨rfl, (if_neg (by decide)).trans hs.1, (if_neg (by decide)).trans hs.2.1, (if_neg (by decide)).trans hs.2.2.1, (if_neg (by decide)).trans hs.2.2.2.1, trivial⟩
      clear F2
      k_steps
      · refine hret _ ?_ _ _ _ _ (by k_asm) (by k_asm) (by ktr_rel) (by ktr_rel)
        rename (_ : Int).fmod P = _ => hq
        rw [fm _ hP, fm _ hP] at hq
        exact hq
      · refine hret _ ?_ _ _ _ _ (by k_asm) (by k_asm) (by ktr_rel) (by ktr_rel)
        rename (_ : Int).fmod P = _ => hq
        rw [fm _ hP, fm _ hP] at hq
        exact oppo_on hP hq
      · exact turn_end (by k_asm) (by k_asm) (by ktr_rel) fun l2 S2 C2 => ⟨_, _, ⟨rfl, rfl, rfl, rfl, trivial⟩, hsub.trans S2, fmod_lo _ (by omega), fmod_hi _ (by omega)⟩
    · clear F1 N1
      rintro m₁ l h tk ⟨pl, u4, hs, hsub, hp0, hp1⟩ F2 N2
      have F3 := frSeen F2 hs
      clear F2
      k_steps
      all_goals exact hret none trivial _ _ _ _ (by k_asm) (by k_asm) (by ktr_rel) (by ktr_rel)
end
local macro_rules | `(tactic| walk_at "call ref") => `(tactic| ((with_reducible show wpAny _ _ (call (Value.ref 454) _) _ _ _); k_dflt (refine poin (by k_asm) (by k_asm) (by k_asm) (by k_asm) (by k_asm) (by kwd_inv) (by ktr_room) (by ktr_units) (by assumption) (by assumption) (by first | assumption | omega | exact shlo (by assumption) | exact shle (by assumption) | exact shhi (by assumption)) (by first | assumption | omega | exact shlo (by assumption) | exact shle (by assumption) | exact shhi (by assumption)) (by first | assumption | omega | exact shlo (by assumption) | exact shle (by assumption) | exact shhi (by assumption)) ?_); intro _ _ _ _ _ _ _ _ _ _; ktr_unf))
section
local macro_rules | `(tactic| walk_at "exec While") => `(tactic| (refine Stop.mk ?_))
local macro_rules | `(tactic| walk_at "exec While ListComp cons nil") => `(tactic| (refine Stop.mk ?_))
local macro_rules | `(tactic| walk_at "eval ListComp") => `(tactic| (k_dflt (refine ListComp_2 (F₀ := by k_asm) (by with_unfolding_all rfl) (by decide) (by rfl) (by decide) (by rfl) ?_)))
local macro_rules | `(tactic| k_all) => `(tactic| first | exact neSucc (by assumption) | exact neSucc' (by assumption))
local macro_rules | `(tactic| k_enter) => `(tactic| (refine' code_defC ?k1 ?k2 ?k3 ?k4 ?k5 ?kA ?kF ?kK ?k6 ?k7 ?k8 ?k9 ?kB ?kD ?_ ?c2 ?c3 ?c4; (case kA => exact rfl); (case kF => exact rfl); (case kK => first | exact rfl | assumption); (case k1 => k_asm); (case k2 => k_asm); (case k3 => k_asm); (case k4 => k_asm); (case k5 => k_asm); (case k6 => k_is); (case k7 => k_is); (case k8 => ktr_room); (case k9 => exact BindsTo.of_eq rfl); (case kB => exact rfl); (case kD => decide +kernel); (case c2 => exact rfl); (case c3 => exact rfl); (case c4 => exact rfl); k_whole; intro g' L' h' tk' cells' FG' F' N' Y' B' X' T' l1; (try k_lt l1); k_cells Y'; (try simp only [List.cons_append, List.nil_append] at N'); (try dsimp only); (try k_lift B'); (try k_fold)))
set_option maxHeartbeats 4000000 in
theorem prim {k : Int} {u : Tok} (B : Below A₀ base outer h₀) (F : Fr h₀ L s.heap m) (X : (hd.heap_1 w.params).In h₀) (N : News h₀ L s.heap news) (T : Top p loose mean mg mb h₀) (hk : cs.kind = .function) (hdp : dp + 30 < recursionLimit) (hun : un + 240 < cLine) (hk0 : 0 ≤ k)
    (hret : ∀ P : Int, PrimeOk P → RetV h₀ L m news s Q (fun t => .int P t)) : wpAny (model PySem.Challenge.rw_kh0015_01.row.prog w) (ktrTop dp un gd cn cs L a ccd cl outer) (call (.ref 447) [.int k u]) Q E s := by
  refine wpAny_call ?_
  k_dflt k_enter
  refine noE ?_
  k_steps
  · rename _ ≠ (2 : Int) => hk2
    have hv : k.fmod 3 = 0 ∨ k.fmod 3 = 1 := by
      have := Int.fmod_nonneg_of_pos k (show (0 : Int) < 3 by decide)
      have := Int.fmod_lt_of_pos k (show (0 : Int) < 3 by decide)
      omega
    rcases hv with hv | hv
    · rw [hv]
      exact hret _ great1 _ _ _ (by k_asm) (nDrop (by k_asm) (by ktr_rel))
    · rw [hv]
      exact hret _ great2 _ _ _ (by k_asm) (nDrop (by k_asm) (by ktr_rel))
  · unfold Stop
    rename Fr _ _ _ _ => FW
    rename News _ _ _ _ => NW
    have e3 : ((k.fdiv 3).fmod 250 : Int) = k / 3 % 250 := by rw [Int.fdiv_eq_ediv_of_nonneg _ (by decide), Int.fmod_eq_emod_of_nonneg _ (by decide)]
    rename Obj.data _ = Data.cell (some _) => dW
    refine While_cell (n₀ := _) (fun n f => 7 ≤ f ∧ f ≤ 1019 ∧ f % 4 = 3 ∧ n = (1019 - f).toNat) FW NW dW ⟨by omega, by omega, by omega, rfl⟩ ?_
    · clear FW NW dW
      rintro n f t oc m₁ h₁ tk₁ ⟨f0, f1, f2, hn⟩ hd F₁ N₁
      k_steps
      rename Fr _ _ _ _ => F2
      rename News _ _ _ _ => N2
      rename IsRange _ _ _ _ _ _ _ _ => R2
      refine ⟨_, _, _, _, _, _, _, 15, _, rfl, rfl, F2, N2, R2, by decide, by decide, by decide, ?_⟩
      rintro s₂ ⟨g, rfl⟩
      refine comp_indT (n := 15) (fun i ys => ys.length ≤ i ∧ (ys = [] → ∀ j : Nat, j < i → ¬ Dvs f j) ∧ (ys ≠ [] → ∃ j : Nat, j < 15 ∧ Dvs f j)) ?_ ?_ 15 0 [] rfl ⟨Nat.le_refl _, fun _ j hj => absurd hj (Nat.not_lt_zero _), fun h => absurd rfl h⟩
      · clear R2 F2 N2
        rintro i ys v I oI C oC D m₂ h tk E' hi ⟨hIl, hI1, hI2⟩ ⟨_, t9, rfl⟩ hC hx F3 N3 off ne
        k_steps
        · rename (_ : Int) < f => ha
          rename Int.fmod f _ = 0 => hb
          rw [Int.fmod_eq_emod_of_nonneg f (by omega)] at hb
          exact ⟨_, _, _, rfl, by k_asm, by k_asm, off, trivial, rfl, by simpa using hIl, fun h => absurd h (by simp), fun _ => ⟨i, hi, ha, hb⟩⟩
        · rename Int.fmod f _ ≠ 0 => hb
          rw [Int.fmod_eq_emod_of_nonneg f (by omega)] at hb
          refine ⟨_, _, _, rfl, by k_asm, by k_asm, off, trivial, rfl, by omega, fun h j hj hd => ?_, hI2⟩
          rcases Nat.lt_or_ge j i with hl | hl
          · exact hI1 h j hl hd
          · exact hb (by rw [show i = j by omega]; exact hd.2)
        · rename ¬ (_ : Int) < f => ha
          refine ⟨_, _, _, rfl, by k_asm, by k_asm, off, trivial, rfl, by omega, fun h j hj hd => ?_, hI2⟩
          rcases Nat.lt_or_ge j i with hl | hl
          · exact hI1 h j hl hd
          · exact ha (by rw [show i = j by omega]; exact hd.1)
      · rintro ys ⟨hIl, hI1, hI2⟩
        unfold LCg.FinE
        intro D h tk F3 N3 off
        clear R2 F2 N2
        k_steps
        · rename ys.isEmpty = true => he
          refine hret f ⟨by omega, lowB (by omega), small_prm f2 f1 (hI1 (List.isEmpty_iff.mp he))⟩ _ _ _ (by k_asm) (nDrop (by k_asm) (by ktr_rel))
        · rename ys.isEmpty = false => he
          have hf := dvs_1019 f1 (hI2 (fun q => by subst q; cases he)) f2
          refine stCN (own := [(D, LCg.lst ys)]) F3 N3 rfl hd (fun p hp => ?_) ?_ ?_
          · rw [List.mem_singleton.mp hp]
            exact Ne.symm off.1
          · first | exact neSucc (by assumption) | exact neSucc' (by assumption)
          · intro h5 o5 F5 N5 d5
            k_steps
            exact ⟨_, _, _, _, _, rfl, F5, fun p hp => N5 p (.tail _ hp), by omega, _, _, _, rfl, d5, by omega, by omega, by omega, rfl⟩
end
local macro_rules | `(tactic| walk_at "call ref") => `(tactic| ((with_reducible show wpAny _ _ (call (Value.ref 447) _) _ _ _); k_dflt (refine prim (by k_asm) (by k_asm) (by k_asm) (by k_asm) (by k_asm) (by kwd_inv) (by ktr_room) (by ktr_units) (by first | assumption | omega) ?_); intro P9 hP9 h9 tk9 t9 F9 N9; have hPa9 := PrimeOk.six hP9; have hPb9 := PrimeOk.big hP9; have hPc9 := PrimeOk.one hP9; ktr_unf))
set_option maxHeartbeats 4000000 in
theorem roww {P c : Int} {v : Value} {u u2 : Tok} {q : Option (Int × Int)} (B : Below A₀ base outer h₀) (F : Fr h₀ L s.heap m) (X : (hd.heap_1 w.params).In h₀) (N : News h₀ L s.heap news) (T : Top p loose mean mg mb h₀) (hk : cs.kind = .function) (hdp : dp + 30 < recursionLimit) (hun : un + 240 < cLine) (hP : 1 < P) (hB : P < BIG) (hv : L2 P news v q) (hc0 : 0 ≤ c) (hc1 : c < P)
    (hret : RetRow w P h₀ L m news s Q (rowL P q c)) : wpAny (model PySem.Challenge.rw_kh0015_01.row.prog w) (ktrTop dp un gd cn cs L a ccd cl outer) (call (.ref 482) [v, .int c u2, .int P u]) Q E s := by
  cases hv
  all_goals (refine wpAny_call ?_; (k_dflt ktr_enter; refine noE ?_); k_steps)
  · exact hret _ _ _ _ (by k_asm) (by k_asm) (by ktr_rel) (R3.cast (by ktr_rel) rfl)
  · rename _ = (0 : Int) => h0
    exact hret _ _ _ _ (by k_asm) (by k_asm) (by ktr_rel) (R3.cast (by ktr_rel) (by simp only [rowL]; rw [if_pos h0]))
  · rename _ ≠ (0 : Int) => h0
    exact hret _ _ _ _ (by k_asm) (by k_asm) (by ktr_rel) (R3.cast (by ktr_rel) (by simp only [rowL]; rw [if_neg h0]))
local macro_rules | `(tactic| walk_at "call ref") => `(tactic| ((with_reducible show wpAny _ _ (call (Value.ref 482) _) _ _ _); k_dflt (refine roww (by k_asm) (by k_asm) (by k_asm) (by k_asm) (by k_asm) (by kwd_inv) (by ktr_room) (by ktr_units) (by assumption) (by assumption) (by ktr_rel) (by first | assumption | omega | exact shlo (by assumption) | exact shle (by assumption) | exact shhi (by assumption)) (by first | assumption | omega | exact shlo (by assumption) | exact shle (by assumption) | exact shhi (by assumption)) ?_); intro _ _ _ _ _ _ _ _; ktr_unf))
set_option maxHeartbeats 4000000 in
theorem stan {P : Int} {v : Value} {u : Tok} {q : Row} (B : Below A₀ base outer h₀) (F : Fr h₀ L s.heap m) (X : (hd.heap_1 w.params).In h₀) (N : News h₀ L s.heap news) (T : Top p loose mean mg mb h₀) (hk : cs.kind = .function) (hdp : dp + 30 < recursionLimit) (hun : un + 240 < cLine) (hP : 1 < P) (hB : P < BIG) (hv : R3 w P news v q) (hc : Cons P q)
    (hret : RetV h₀ L m news s Q (fun _ => .bool true)) : wpAny (model PySem.Challenge.rw_kh0015_01.row.prog w) (ktrTop dp un gd cn cs L a ccd cl outer) (call (.ref 489) [v, .int P u]) Q E s := by
  cases hv with
  | mk a b c d =>
  cases d with
  | mk d0 d1 d2 d3 =>
  cases b with
  | none =>
    obtain ⟨rfl, rfl⟩ := hc
    cases c
    refine wpAny_call ?_
    (k_dflt ktr_enter; refine noE ?_)
    k_steps
    all_goals exact hret _ _ 0 (by k_asm) (by k_asm)
  | mk b0 b1 b2 b3 b4 =>
    obtain ⟨rfl, hz, hx, hy⟩ := hc
    cases c with
    | mk c0 c1 c2 =>
    refine wpAny_call ?_
    (k_dflt ktr_enter; refine noE ?_)
    k_steps
    all_goals first
      | contradiction
      | (rw [fm _ hP, hy]; exact hret _ _ 0 (by k_asm) (by k_asm))
      | (rw [fm _ hP, hx]; exact hret _ _ 0 (by k_asm) (by k_asm))
local macro_rules | `(tactic| walk_at "call ref") => `(tactic| ((with_reducible show wpAny _ _ (call (Value.ref 489) _) _ _ _); k_dflt (refine stan (by k_asm) (by k_asm) (by k_asm) (by k_asm) (by k_asm) (by kwd_inv) (by ktr_room) (by ktr_units) (by assumption) (by assumption) (by ktr_rel) (by first | assumption | exact rowI_cons (by assumption)) ?_); intro _ _ _ _ _; ktr_unf))
set_option maxHeartbeats 4000000 in
theorem multp {P c k : Int} {v : Value} {t1 : Tok} {q b : Option (Int × Int)} {f : Int × Int × Int} (B : Below A₀ base outer h₀) (F : Fr h₀ L s.heap m) (X : (hd.heap_1 w.params).In h₀) (N : News h₀ L s.heap news) (T : Top p loose mean mg mb h₀) (hk : cs.kind = .function) (hdp : dp + 50 < recursionLimit) (hun : un + 400 < cLine) (hP : PrimeOk P) (hv : P2 w P news v b) (H : RowI P c (q, b, f)) (hz : Nz q) (hz2 : Nz (sevL P q 2)) (hz4 : Nz (sevL P q 4)) (hk0 : 0 ≤ k) (hk5 : k ≤ 5)
    (hret : ∀ r, MulP P b k.toNat r → RetP2 w P h₀ L m news s Q r) : wpAny (model PySem.Challenge.rw_kh0015_01.row.prog w) (ktrTop dp un gd cn cs L a ccd cl outer) (call (.ref 105) [v, .int k t1]) Q E s := by
  have h1 : 1 < P := by have := hP.1; omega
  have D := (rowI_dbl hP H hz).1
  rcases (by omega : k = 0 ∨ k = 1 ∨ k = 2 ∨ k = 3 ∨ k = 4 ∨ k = 5) with rfl | rfl | rfl | rfl | rfl | rfl
  · exact mult0p B F X N T hk (by omega) (by omega) h1 hP.2.1 hv rfl (hret _ (rfl : _ = _))
  · exact mult1p B F X N T hk (by omega) (by omega) h1 hP.2.1 hv rfl (hret _ (rfl : _ = _))
  · exact mult2p B F X N T hk (by omega) (by omega) h1 hP.2.1 hv rfl D fun r hr => hret _ hr
  · exact mult3p B F X N T hk (by omega) (by omega) h1 hP.2.1 hv rfl D (rowI_mul3 hP H hz hz2) fun r r2 hr hr2 => hret _ (Exists.intro r (And.intro hr hr2))
  · exact mult4p B F X N T hk (by omega) (by omega) h1 hP.2.1 hv rfl D (rowI_mul4 hP H hz hz2) fun r r2 hr hr2 => hret _ (Exists.intro r (And.intro hr hr2))
  · exact mult5p B F X N T hk (by omega) (by omega) h1 hP.2.1 hv rfl D (rowI_mul4 hP H hz hz2) (rowI_mul5 hP H hz hz2 hz4) fun r r2 r3 hr hr2 hr3 => hret _ (Exists.intro r (Exists.intro r2 (And.intro hr (And.intro hr2 hr3))))
set_option maxHeartbeats 4000000 in
theorem multo {P k : Int} {v : Value} {t1 : Tok} {f : Int × Int × Int} (B : Below A₀ base outer h₀) (F : Fr h₀ L s.heap m) (X : (hd.heap_1 w.params).In h₀) (N : News h₀ L s.heap news) (T : Top p loose mean mg mb h₀) (hk : cs.kind = .function) (hdp : dp + 50 < recursionLimit) (hun : un + 400 < cLine) (hP : PrimeOk P) (hv : P3 w P news v f) (hk0 : 0 ≤ k) (hk5 : k ≤ 5)
    (hret : RetP3 w P h₀ L m news s Q (mulO P f k.toNat)) : wpAny (model PySem.Challenge.rw_kh0015_01.row.prog w) (ktrTop dp un gd cn cs L a ccd cl outer) (call (.ref 56) [v, .int k t1]) Q E s := by
  have h1 : 1 < P := by have := hP.1; omega
  rcases (by omega : k = 0 ∨ k = 1 ∨ k = 2 ∨ k = 3 ∨ k = 4 ∨ k = 5) with rfl | rfl | rfl | rfl | rfl | rfl
  · exact mult0o B F X N T hk (by omega) (by omega) h1 hP.2.1 hv rfl hret
  · exact mult1o B F X N T hk (by omega) (by omega) h1 hP.2.1 hv rfl hret
  · exact mult2o B F X N T hk (by omega) (by omega) h1 hP.2.1 hv rfl hret
  · exact mult3o B F X N T hk (by omega) (by omega) h1 hP.2.1 hv rfl hret
  · exact mult4o B F X N T hk (by omega) (by omega) h1 hP.2.1 hv rfl hret
  · exact mult5o B F X N T hk (by omega) (by omega) h1 hP.2.1 hv rfl hret
section
local macro_rules | `(tactic| walk_at "call builtin:len") => `(tactic| (k_dflt (refine' rowsLen (N := ?k1) (hm := ?k2) ?k3 ?_; (case k1 => k_asm); (case k2 => k_mem); (case k3 => assumption)); intro t9 tk9; (try dsimp only); (try k_fold)))
local macro_rules | `(tactic| walk_at "subscriptTail Name BinOp ref int") => `(tactic| (k_dflt (refine' rowsItem (N := ?k1) (hm := ?k2) (hv := ?k3) ?k4 ?k5 ?k6 ?_; (case k1 => k_asm); (case k2 => k_mem); (case k3 => assumption); (case k4 => exact fmod_lo _ (by omega)); (case k5 => exact fmod_hi _ (by omega)); (case k6 => assumption)); intro v9 r9 hm9 hr9 hi9 hz9; rcases hr9 with ⟨ha9, hb9, hc9, hd9⟩; (try dsimp only); (try k_fold)))
local macro_rules | `(tactic| walk_at "exec For Name Tuple cons nil") => `(tactic| (refine Stop.mk ?_))
local macro_rules | `(tactic| walk_at "pyIter ref") => `(tactic| (refine Stop.mk ?_))
local macro_rules | `(tactic| walk_at "call ref") => `(tactic| ((with_reducible show wpAny _ _ (call (Value.ref 91) _) _ _ _); k_dflt (refine dbl1p (by k_asm) (by k_asm) (by k_asm) (by k_asm) (by k_asm) (by kwd_inv) (by ktr_room) (by ktr_units) (by assumption) (by assumption) (by ktr_rel) (by exact (rowI_dbl (by assumption) (by assumption) (by assumption)).1) ?_); intro _ _ _ _ _ _ _ _ _ _; ktr_unf))
local macro_rules | `(tactic| walk_at "call ref") => `(tactic| ((with_reducible show wpAny _ _ (call (Value.ref 98) _) _ _ _); k_dflt (refine add1p (by k_asm) (by k_asm) (by k_asm) (by k_asm) (by k_asm) (by kwd_inv) (by ktr_room) (by ktr_units) (by assumption) (by assumption) (by ktr_rel) (by ktr_rel) (by exact (rowI_add (by assumption) (by assumption) (by assumption) (by assumption)).1) ?_); intro _ _ _ _ _ _ _ _ _ _; ktr_unf))
local macro_rules | `(tactic| walk_at "call ref") => `(tactic| ((with_reducible show wpAny _ _ (call (Value.ref 105) _) _ _ _); k_dflt (refine multp (by k_asm) (by k_asm) (by k_asm) (by k_asm) (by k_asm) (by kwd_inv) (by ktr_room) (by ktr_units) (by assumption) (by ktr_rel) (by assumption) (by assumption) (by assumption) (by assumption) (by assumption) (by assumption) ?_); intro _ _ _ _ _ _ _ _ _ _; ktr_unf))
local macro_rules | `(tactic| walk_at "call ref") => `(tactic| ((with_reducible show wpAny _ _ (call (Value.ref 56) _) _ _ _); k_dflt (refine multo (by k_asm) (by k_asm) (by k_asm) (by k_asm) (by k_asm) (by kwd_inv) (by ktr_room) (by ktr_units) (by assumption) (by ktr_rel) (by assumption) (by assumption) ?_); intro _ _ _ _ _ _ _ _; ktr_unf))
set_option maxHeartbeats 4000000 in
theorem deed {P c k : Int} {u u2 : Tok} {R : Addr} {vs : List Value} {e : Nat} (B : Below A₀ base outer h₀) (F : Fr h₀ L s.heap m) (X : (hd.heap_1 w.params).In h₀) (N : News h₀ L s.heap news) (T : Top p loose mean mg mb h₀) (hk : cs.kind = .function) (hdp : dp + 60 < recursionLimit) (hun : un + 480 < cLine) (hP : PrimeOk P) (hP1 : 1 < P) (hB : P < BIG) (hR : (R, listOf vs.toArray e) ∈ news) (hv0 : 0 < vs.length) (hv8 : vs.length < 100) (hvs : ∀ v ∈ vs, ∃ r, R3 w P news v r ∧ RowI P c r ∧ Nz r.1) (hk0 : 0 ≤ k)
    (hret : ∀ r, RowI P c r → RetRow w P h₀ L m news s Q r) : wpAny (model PySem.Challenge.rw_kh0015_01.row.prog w) (ktrTop dp un gd cn cs L a ccd cl outer) (call (.ref 496) [.ref R, .int k u, .int P u2]) Q E s := by
  refine wpAny_call ?_
  (k_dflt ktr_enter; refine noE ?_)
  k_steps
  all_goals try (refine hret _ ?_ _ _ _ _ (by k_asm) (by k_asm) (by ktr_rel) (R3.mk (by k_mem) (by ktr_rel) (by ktr_rel) (by ktr_rel)); first | exact (rowI_add (by assumption) (by assumption) (by assumption) (by assumption)).2 _ (by assumption) | exact (rowI_dbl (by assumption) (by assumption) (by assumption)).2 _ (by assumption) | exact rowI_neg (by assumption) (by assumption))
  all_goals (unfold Stop; rename Fr _ _ _ _ => FW; refine For_invVF FW rfl rfl ?_; k_steps; unfold Stop)
  all_goals
    rename_i v2 l2 h2 tk2 S2 r2 qk1 ek1 v4 l4 h4 tk4 S4 r4 D hx FX NX lX
    have hD : hx.IsTuple D #[v2, v4] := News.isTup NX (.head _)
    refine iter_tupL (vs := [v2, v4]) (fun i m₁ l => ∃ vh vt rh rt tv ut, Sees m₁ [(Str.ofString "here", vh), (Str.ofString "there", vt), (Str.ofString "prime", .int P u2), (Str.ofString "times", .int tv ut)] ∧ Sub news l ∧ R3 w P l vh rh ∧ RowI P c rh ∧ Nz rh.1 ∧ R3 w P l vt rt ∧ RowI P c rt ∧ 0 ≤ tv ∧ tv ≤ 5 ∧ L2 P l v2 (sevL P rh.1 2) ∧ L2 P l v4 (sevL P rh.1 4) ∧ (1 ≤ i → Nz (sevL P rh.1 2)) ∧ (2 ≤ i → Nz (sevL P rh.1 4))) rfl rfl hD ?_ FX NX ⟨_, _, _, _, _, _, ⟨rfl, rfl, rfl, rfl, trivial⟩, by ktr_rel, by ktr_rel, by assumption, by assumption, by ktr_rel, by assumption, fmod_lo _ (by omega), ?_, by ktr_rel, by ktr_rel, fun h => absurd h (by decide), fun h => absurd h (by decide)⟩ ?_ ?_
    · exact (NX _ (.head _)).2.1
    · first
        | exact Int.le_of_lt (Int.lt_trans (Int.fmod_lt_of_pos _ (show (0 : Int) < 3 by decide)) (by decide))
        | exact Int.le_of_lt_add_one (Int.fmod_lt_of_pos _ (show (0 : Int) < 6 by decide))
    · clear FX NX
      rintro i v m₁ l l1 h tk hi ⟨vh, vt, rh, rt, tv, ut, hs, hsub, hrh, hih, hzh, hrt, hit, ht0, ht5, hl2, hl4, hz2, hz4⟩ S F2 N2
      have F3 := frSeen F2 (ps := [(Str.ofString "twice", v), (Str.ofString "here", vh), (Str.ofString "there", vt), (Str.ofString "prime", .int P u2), (Str.ofString "times", .int tv ut)]) ⟨rfl, (if_neg (by decide)).trans hs.1, (if_neg (by decide)).trans hs.2.1, (if_neg (by decide)).trans hs.2.2.1, (if_neg (by decide)).trans hs.2.2.2.1, trivial⟩
      clear F2
      obtain ⟨tt, rfl⟩ := hrt.ref
      rcases i with _ | _ | i
      · obtain rfl : v2 = v := Option.some.inj hi
        have hl2' := hl2
        generalize hq : sevL P rh.1 2 = q2 at hl2'
        cases hl2' with
        | none =>
          k_steps
          all_goals exact turn_end (by k_asm) (by k_asm) (by ktr_rel) fun l2 S2 C2 => ⟨vh, _, rh, rt, tv, ut, ⟨rfl, rfl, rfl, rfl, trivial⟩, hsub.trans S2, R3.cln C2 (by ktr_rel), hih, hzh, R3.cln C2 (by ktr_rel), hit, ht0, ht5, L2.cln C2 (by ktr_rel), L2.cln C2 (by ktr_rel), fun _ => by rw [hq]; trivial, fun h => absurd h (by decide)⟩
        | mk b0 b1 b2 b3 b4 =>
          k_steps
          · exact hret rt hit _ _ _ _ (by k_asm) (by k_asm) (by ktr_rel) (by ktr_rel)
          · rename _ ≠ (0 : Int) => hy
            exact turn_end (by k_asm) (by k_asm) (by ktr_rel) fun l2 S2 C2 => ⟨vh, _, rh, rt, tv, ut, ⟨rfl, rfl, rfl, rfl, trivial⟩, hsub.trans S2, R3.cln C2 (by ktr_rel), hih, hzh, R3.cln C2 (by ktr_rel), hit, ht0, ht5, L2.cln C2 (by ktr_rel), L2.cln C2 (by ktr_rel), fun _ => by rw [hq]; exact hy, fun h => absurd h (by decide)⟩
      · obtain rfl : v4 = v := Option.some.inj hi
        have hl4' := hl4
        generalize hq : sevL P rh.1 4 = q2 at hl4'
        cases hl4' with
        | none =>
          k_steps
          all_goals exact turn_end (by k_asm) (by k_asm) (by ktr_rel) fun l2 S2 C2 => ⟨vh, _, rh, rt, tv, ut, ⟨rfl, rfl, rfl, rfl, trivial⟩, hsub.trans S2, R3.cln C2 (by ktr_rel), hih, hzh, R3.cln C2 (by ktr_rel), hit, ht0, ht5, L2.cln C2 (by ktr_rel), L2.cln C2 (by ktr_rel), fun _ => hz2 (by decide), fun _ => by rw [hq]; trivial⟩
        | mk b0 b1 b2 b3 b4 =>
          k_steps
          · exact hret rt hit _ _ _ _ (by k_asm) (by k_asm) (by ktr_rel) (by ktr_rel)
          · rename _ ≠ (0 : Int) => hy
            exact turn_end (by k_asm) (by k_asm) (by ktr_rel) fun l2 S2 C2 => ⟨vh, _, rh, rt, tv, ut, ⟨rfl, rfl, rfl, rfl, trivial⟩, hsub.trans S2, R3.cln C2 (by ktr_rel), hih, hzh, R3.cln C2 (by ktr_rel), hit, ht0, ht5, L2.cln C2 (by ktr_rel), L2.cln C2 (by ktr_rel), fun _ => hz2 (by decide), fun _ => by rw [hq]; exact hy⟩
      · cases hi
    · clear FX NX
      rintro m₁ l h tk ⟨vh, vt, rh, rt, tv, ut, hs, hsub, hrh, hih, hzh, hrt, hit, ht0, ht5, hl2, hl4, hz2, hz4⟩ F2 N2
      have hn2 := hz2 (show 1 ≤ 2 by decide)
      have hn4 := hz4 (show 2 ≤ 2 by decide)
      have F3 := frSeen F2 hs
      clear F2 hs hrt hl2 hl4 hz2 hz4
      rcases hrh with ⟨ha, hb, hc, hd⟩
      have ht10 : tv ≤ 10 := by omega
      k_steps
      all_goals (refine hret _ ?_ _ _ _ _ (by k_asm) (by k_asm) (by ktr_rel) (R3.mk (by k_mem) (by ktr_rel) (by ktr_rel) (by ktr_rel)); exact rowI_mul (by assumption) (by assumption) (by assumption) (by assumption) (by assumption) _ _ (by assumption))
end
local macro_rules | `(tactic| walk_at "call ref") => `(tactic| ((with_reducible show wpAny _ _ (call (Value.ref 496) _) _ _ _); k_dflt (refine deed (by k_asm) (by k_asm) (by k_asm) (by k_asm) (by k_asm) (by kwd_inv) (by ktr_room) (by ktr_units) (by assumption) (by assumption) (by assumption) (by k_mem) (by assumption) (by omega) (by (show RowsOk _ _ _ _ _); ktr_rel) (by assumption) ?_); intro r9 hi9 x9 l9 h9 tk9 F9 N9 S9 hr9; rcases hr9 with ⟨ha9, hb9, hc9, hd9⟩; cases hb9; ktr_unf))
local macro_rules | `(tactic| ktr_rel) => `(tactic| first | with_reducible assumption | (apply RowsOk.mono; (first | with_reducible assumption | exact Sub.one | exact Sub.app); ktr_rel))
set_option maxHeartbeats 4000000 in
theorem cmpL {P : Int} {v1 v2 : Value} {q1 q2 : Option (Int × Int)} (B : Below A₀ base outer h₀) (F : Fr h₀ L s.heap m) (X : (hd.heap_1 w.params).In h₀) (N : News h₀ L s.heap news) (T : Top p loose mean mg mb h₀) (hk : cs.kind = .function) (hdp : dp + 20 < recursionLimit) (hun : un + 160 < cLine) (hv1 : L2 P news v1 q1) (hv2 : L2 P news v2 q2)
    (hret : RetV h₀ L m news s Q (fun _ => .bool (decide (q1 = q2)))) : wpAny (model PySem.Challenge.rw_kh0015_01.row.prog w) (ktrTop dp un gd cn cs L a ccd cl outer) (compareOp .Eq v1 v2) Q E s := by
  have hu : (ktrTop dp un gd cn cs L a ccd cl outer).units < cLine := by ktr_units
  cases hv1 with
  | none =>
    cases hv2 with
    | none =>
      k_steps
      all_goals exact hret _ _ 0 F N
    | mk a2 b2 c2 d2 e2 =>
      refine SeqAt.RcAt.none_tuple (News.isTup N a2) hu _ _ _ _ ?_
      exact hret _ _ 0 F N
  | @mk t1 x1 y1 u1 u1' e1 a1 =>
    cases hv2 with
    | none =>
      refine SeqAt.RcAt.tuple_none (News.isTup N a1) hu _ _ _ _ ?_
      exact hret _ _ 0 F N
    | @mk t2 x2 y2 u2 u2' e2 a2 =>
      refine tup2_cmp hu (N.get a1) (N.get a2) ?_
      refine eqBool_int ?_
      by_cases hx : x1 = x2
      · rw [if_pos (decide_eq_true hx)]
        refine eqBool_int ?_
        have e : decide (some (x1, y1) = some (x2, y2)) = decide (y1 = y2) := by
          subst hx
          by_cases hy : y1 = y2 <;> simp [hy]
        rw [e] at hret
        exact hret _ _ 0 F N
      · rw [if_neg (by rw [decide_eq_false hx]; exact Bool.false_ne_true)]
        have e : decide (some (x1, y1) = some (x2, y2)) = false := decide_eq_false (fun e => hx (by injection e with e; injection e))
        rw [e] at hret
        exact hret _ _ 0 F N
set_option maxHeartbeats 4000000 in
theorem on1r {P c : Int} {v vb : Value} {q b : Option (Int × Int)} {f : Int × Int × Int} (B : Below A₀ base outer h₀) (F : Fr h₀ L s.heap m) (X : (hd.heap_1 w.params).In h₀) (N : News h₀ L s.heap news) (T : Top p loose mean mg mb h₀) (hk : cs.kind = .function) (hdp : dp + 40 < recursionLimit) (hun : un + 320 < cLine) (hP : PrimeOk P) (hv : P2 w P news v b) (H : RowI P c (q, b, f)) (hb : FqIn w 269 P news vb (c % P))
    (hret : RetV h₀ L m news s Q (fun _ => .bool true)) : wpAny (model PySem.Challenge.rw_kh0015_01.row.prog w) (ktrTop dp un gd cn cs L a ccd cl outer) (call (.ref 84) [v, vb]) Q E s := by
  refine on1p B F X N T hk (by omega) (by omega) (by have := hP.1; omega) hP.2.1 hv hb ?_
  rw [rowI_onP hP H]
  exact hret
theorem on2r {P c : Int} {v vb : Value} {q b : Option (Int × Int)} {f : Int × Int × Int} (B : Below A₀ base outer h₀) (F : Fr h₀ L s.heap m) (X : (hd.heap_1 w.params).In h₀) (N : News h₀ L s.heap news) (T : Top p loose mean mg mb h₀) (hk : cs.kind = .function) (hdp : dp + 40 < recursionLimit) (hun : un + 320 < cLine) (hP : PrimeOk P) (hv : P3 w P news v f) (H : RowI P c (q, b, f)) (hb : FqIn w 431 P news vb (c % P))
    (hret : RetV h₀ L m news s Q (fun _ => .bool true)) : wpAny (model PySem.Challenge.rw_kh0015_01.row.prog w) (ktrTop dp un gd cn cs L a ccd cl outer) (call (.ref 35) [v, vb]) Q E s := by
  obtain ⟨x, y, z⟩ := f
  refine on2o B F X N T hk (by omega) (by omega) (by have := hP.1; omega) hP.2.1 hv hb ?_
  rw [rowI_onO hP H]
  exact hret
theorem on1m {P c px py mv : Int} {v vb : Value} {b : Option (Int × Int)} {f : Int × Int × Int} (B : Below A₀ base outer h₀) (F : Fr h₀ L s.heap m) (X : (hd.heap_1 w.params).In h₀) (N : News h₀ L s.heap news) (T : Top p loose mean mg mb h₀) (hk : cs.kind = .function) (hdp : dp + 40 < recursionLimit) (hun : un + 320 < cLine) (hP : PrimeOk P) (H : RowI P c (some (px, py), b, f)) (hv : P2 w P news v (some (px, (py + mv) % P))) (hb : FqIn w 269 P news vb (c % P))
    (hret : RetV h₀ L m news s Q (fun _ => .bool (decide ((2 * py + mv) * mv % P = 0)))) : wpAny (model PySem.Challenge.rw_kh0015_01.row.prog w) (ktrTop dp un gd cn cs L a ccd cl outer) (call (.ref 84) [v, vb]) Q E s := by
  refine on1p B F X N T hk (by omega) (by omega) (by have := hP.1; omega) hP.2.1 hv hb ?_
  rw [rowI_movedP hP H]
  exact hret
theorem on2m {P c px py mv x y z : Int} {v vb : Value} {b : Option (Int × Int)} (B : Below A₀ base outer h₀) (F : Fr h₀ L s.heap m) (X : (hd.heap_1 w.params).In h₀) (N : News h₀ L s.heap news) (T : Top p loose mean mg mb h₀) (hk : cs.kind = .function) (hdp : dp + 40 < recursionLimit) (hun : un + 320 < cLine) (hP : PrimeOk P) (H : RowI P c (some (px, py), b, (x, y, z))) (hv : P3 w P news v (x, (y + z * mv % P) % P, z)) (hb : FqIn w 431 P news vb (c % P))
    (hret : RetV h₀ L m news s Q (fun _ => .bool (decide ((2 * py + mv) * mv % P = 0)))) : wpAny (model PySem.Challenge.rw_kh0015_01.row.prog w) (ktrTop dp un gd cn cs L a ccd cl outer) (call (.ref 35) [v, vb]) Q E s := by
  refine on2o B F X N T hk (by omega) (by omega) (by have := hP.1; omega) hP.2.1 hv hb ?_
  rw [rowI_movedO hP H]
  exact hret
local macro_rules | `(tactic| walk_at "compareOp Eq") => `(tactic| (k_dflt (refine cmpL (by k_asm) (by k_asm) (by k_asm) (by k_asm) (by k_asm) (by kwd_inv) (by ktr_room) (by ktr_units) (by ktr_rel) (by ktr_rel) ?_); intro _ _ _ _ _; (try dsimp only); (try k_fold)))
section
local macro_rules | `(tactic| ktr_rel) => `(tactic| exact Sub.appL)
local macro_rules | `(tactic| walk_at "exec For Name Tuple cons nil") => `(tactic| (refine Stop.mk ?_))
local macro_rules | `(tactic| walk_at "exec For Name Name cons nil") => `(tactic| (refine Stop.mk ?_))
local macro_rules | `(tactic| walk_at "exec For Name IfExp cons nil") => `(tactic| (refine Stop.mk ?_))
local macro_rules | `(tactic| walk_at "pyIter ref") => `(tactic| (refine Stop.mk ?_))
local macro_rules | `(tactic| tb_rel) => `(tactic| exact Sz.tpm (by assumption) (by assumption) (by assumption) (by assumption))
local macro_rules | `(tactic| walk_at "subscriptTail Subscript Constant ref int") => `(tactic| (k_dflt (refine' tupItem ?N ?m ?a ?b ?c ?d ?_; (case N => k_asm); (case m => k_mem); (case a => decide); (case b => decide); (case c => rfl); (case d => rfl); k_whole); (try dsimp only)))
local macro_rules | `(tactic| walk_at "call builtin:len") => `(tactic| (k_dflt (refine' rowsLen (N := ?k1) (hm := ?k2) ?k3 ?_; (case k1 => k_asm); (case k2 => k_mem); (case k3 => assumption)); intro t9 tk9; (try dsimp only); (try k_fold)))
local macro_rules | `(tactic| walk_at "subscriptTail Name BinOp ref int") => `(tactic| ((with_reducible show wpAny _ _ (subscriptTail (PySem.Expr.Name (PySem.Str.ofString "rows") _) _ _ _) _ _ _); k_dflt (refine' rowsItem (N := ?k1) (hm := ?k2) (hv := ?k3) ?k4 ?k5 ?k6 ?_; (case k1 => k_asm); (case k2 => k_mem); (case k3 => (show RowsOk _ _ _ _ _); ktr_rel); (case k4 => exact fmod_lo _ (by omega)); (case k5 => exact fmod_hi _ (by omega)); (case k6 => assumption)); intro v9 r9 hm9 hr9 hi9 hz9; rcases hr9 with ⟨ha9, hb9, hc9, hd9⟩; (try dsimp only); (try k_fold)))
local macro_rules | `(tactic| walk_at "subscriptTail Name Constant ref int") => `(tactic| ((with_reducible show wpAny _ _ (subscriptTail (PySem.Expr.Name (PySem.Str.ofString "rows") _) _ _ _) _ _ _); k_dflt (refine' headItem (N := ?k1) (hm := ?k2) ?k3 ?_; (case k1 => k_asm); (case k2 => k_mem); (case k3 => decide)); (try dsimp only); (try k_fold)))
local macro_rules | `(tactic| walk_at "subscriptTail Name Constant ref int") => `(tactic| ((with_reducible show wpAny _ _ (subscriptTail (PySem.Expr.Name (PySem.Str.ofString "given") _) _ _ _) _ _ _); k_dflt (refine' givenItem (N := ?k1) (hm := ?k2) (hi := ?k3) ?k4 ?k5 ?k6 ?k7 ?_; (case k1 => k_asm); (case k2 => k_mem); (case k3 => assumption); (case k4 => assumption); (case k5 => decide); (case k6 => omega); (case k7 => omega)); intro z9 t9 hz9; (try dsimp only); (try k_fold)))
local macro_rules | `(tactic| walk_at "subscriptTail Name Slice ref ref") => `(tactic| (k_dflt (refine' giveSlice (hm := ?k3) ?k1 ?k2 ?p ?q ?k4 ?k5 ?k6 ?k7 ?k8 ?k9 ?_ ?s ?t; (case k1 => k_asm); (case k2 => k_asm); (case k3 => k_mem); (case p => kmk_part); (case q => kmk_part); (case k4 => assumption); (case k5 => assumption); (case k6 => decide); (case k7 => decide); (case k8 => decide); (case k9 => omega); (case s => with_unfolding_all rfl); (case t => kmk_pure)); intro D9 ws9 ms9 h9 F9 N9 l9 hI9 hm9 hw9; (try dsimp only); (try k_fold)))
local macro_rules | `(tactic| walk_at "call builtin:list.append") => `(tactic| (k_dflt (refine' append_L (hm := ?k3) ?k1 ?k2 ?k4 ?_; (case k1 => k_asm); (case k2 => k_asm); (case k3 => k_mem); (case k4 => omega)); intro h9 l9 F9 N9 hR9 K9 C9; (try dsimp only); (try k_fold)))
local macro_rules | `(tactic| walk_at "call ref") => `(tactic| ((with_reducible show wpAny _ _ (call (Value.ref 84) _) _ _ _); k_dflt (refine on1r (by k_asm) (by k_asm) (by k_asm) (by k_asm) (by k_asm) (by kwd_inv) (by ktr_room) (by ktr_units) (by assumption) (by ktr_rel) (by assumption) (by ktr_rel) ?_); intro _ _ _ _ _; ktr_unf))
local macro_rules | `(tactic| walk_at "call ref") => `(tactic| ((with_reducible show wpAny _ _ (call (Value.ref 35) _) _ _ _); k_dflt (refine on2r (by k_asm) (by k_asm) (by k_asm) (by k_asm) (by k_asm) (by kwd_inv) (by ktr_room) (by ktr_units) (by assumption) (by ktr_rel) (by assumption) (by ktr_rel) ?_); intro _ _ _ _ _; ktr_unf))
local macro_rules | `(tactic| walk_at "call ref") => `(tactic| ((with_reducible show wpAny _ _ (call (Value.ref 84) _) _ _ _); k_dflt (refine on1m (by k_asm) (by k_asm) (by k_asm) (by k_asm) (by k_asm) (by kwd_inv) (by ktr_room) (by ktr_units) (by assumption) (by assumption) (by ktr_rel) (by ktr_rel) ?_); intro _ _ _ _ _; ktr_unf))
local macro_rules | `(tactic| walk_at "call ref") => `(tactic| ((with_reducible show wpAny _ _ (call (Value.ref 35) _) _ _ _); k_dflt (refine on2m (by k_asm) (by k_asm) (by k_asm) (by k_asm) (by k_asm) (by kwd_inv) (by ktr_room) (by ktr_units) (by assumption) (by assumption) (by ktr_rel) (by ktr_rel) ?_); intro _ _ _ _ _; ktr_unf))
local macro_rules | `(tactic| walk_at "binaryOp Mult ref int") => `(tactic| ((with_reducible show wpAny _ _ (binaryOp Operator.Mult (Value.ref _) (Value.int _ _)) _ _ _); k_dflt (refine mulk2 (by k_asm) (by k_asm) (by k_asm) (by k_asm) (by k_asm) (by kwd_inv) (by ktr_room) (by ktr_units) (by assumption) (by assumption) (by ktr_rel) (by exact fmod_lo _ (by omega)) (by exact Int.lt_trans (fmod_hi _ (by omega)) (by assumption)) ?_); intro _ _ _ _ _ _ _ _; ktr_unf))
set_option maxHeartbeats 4000000 in
theorem lawC {sc : Scope} {body : List Stmt} {Q : Flow → Shared → Prop} {P c : Int} {uP uc : Tok} {G R : Addr} {ys vs : List Value} {ns : List Int} {nG e : Nat} (hb : lawFn.1.drop 7 = body) (hsc : lawFn.2 = sc) (B : Below A₀ base outer h₀) (F₀ : Fr h₀ L s.heap m) (X : (hd.heap_1 w.params).In h₀) (N : News h₀ L s.heap news) (T : Top p loose mean mg mb h₀) (hdp : dp + 100 < recursionLimit) (hun : un + 800 < cLine)
    (hs : Sees m [(Str.ofString "given", .ref G), (Str.ofString "prime", .int P uP), (Str.ofString "shift", .int c uc), (Str.ofString "rows", .ref R)])
    (hP : PrimeOk P) (hP1 : 1 < P) (hB : P < BIG) (hc0 : 0 ≤ c) (hc1 : c < P) (hG : (G, listOf ys.toArray nG) ∈ news) (hy : IntsAre ys ns) (hn : ∀ z ∈ ns, 0 ≤ z) (hl : ns.length = 12)
    (hR : (R, listOf vs.toArray e) ∈ news) (hv0 : 0 < vs.length) (hv8 : vs.length < 100) (hvs : RowsOk w P c news vs)
    (hret : ∀ h' tk' m', Fr h₀ L h' m' → Q (.ret (.bool true)) { s with heap := h', toks := tk' }) : wpAny (model PySem.Challenge.rw_kh0015_01.row.prog w) (ktrTop dp un gd cn sc L a ccd cl outer) (execs body (envX cn sc L a ccd cl)) Q E s := by
  conv at hb => lhs; whnf
  conv at hsc => lhs; whnf
  subst hb hsc
  refine noE ?_
  have F := frSeen F₀ hs
  clear F₀
  obtain ⟨v0, vr, rfl⟩ : ∃ v0 vr, vs = v0 :: vr := by
    cases vs with
    | nil => exact absurd hv0 (by simp)
    | cons v0 vr => exact ⟨v0, vr, rfl⟩
  k_steps
  unfold Stop
  rename Fr _ _ _ _ => FW
  refine For_invVF FW rfl rfl ?_
  k_steps
  unfold Stop
  rename Fr _ _ _ _ => F1
  rename News _ _ _ _ => N1
  refine iter_listL (vs := v0 :: vr) (fun i m₁ l => Sees m₁ [(Str.ofString "given", .ref G), (Str.ofString "prime", .int P uP), (Str.ofString "shift", .int c uc), (Str.ofString "rows", .ref R)] ∧ Sub news l) rfl rfl (News.isList (n := e) (d := none) (sl := #[]) N1 hR) (N1 _ hR).2.1 F1 N1 ⟨⟨rfl, rfl, rfl, rfl, trivial⟩, Sub.refl⟩ ?_ ?_
  · clear F1 N1 hs
    rintro i v m₁ l l1 h tk hi ⟨hs1, hsub⟩ S F2 N2
    have F3 := frSeen F2 (ps := [(Str.ofString "row", v), (Str.ofString "given", .ref G), (Str.ofString "prime", .int P uP), (Str.ofString "shift", .int c uc), (Str.ofString "rows", .ref R)]) ⟨rfl, (if_neg (by decide)).trans hs1.1, (if_neg (by decide)).trans hs1.2.1, (if_neg (by decide)).trans hs1.2.2.1, (if_neg (by decide)).trans hs1.2.2.2.1, trivial⟩
    clear F2 hs1
    obtain ⟨⟨q, b, f⟩, hr, hi1, hz1⟩ := hvs v (List.mem_of_getElem? hi)
    rcases hr with ⟨ha, hb, hc, hd⟩
    clear hi
    k_steps
    all_goals exact turn_end (by k_asm) (by k_asm) (by ktr_rel) fun l2 S2 C2 => ⟨⟨rfl, rfl, rfl, rfl, trivial⟩, hsub.trans S2⟩
  · clear F1 N1 hs
    rintro m₁ l h tk ⟨hs1, hsub⟩ F2 N2
    have F3 := frSeen F2 hs1
    clear F2 hs1
    obtain ⟨⟨q0, b0, f0⟩, hr0, hi0, hz0⟩ := hvs v0 (.head _)
    rcases hr0 with ⟨ha0, hb0, hc0, hd0⟩
    k_steps
    · rename RowI P c _ => hi9
      rename (_ != _) = true => hne
      rw [rowI_eq hP hi9, rowI_eq hP hi0] at hne
      simp at hne
    · clear ha0 hb0 hc0 hd0 hi0
      rename RowI P c _ => hi9
      rename L2 P _ _ _ => hb9
      rename P2 w P _ _ _ => hc9
      rename P3 w P _ _ _ => hd9
      have eb := rowI_eq hP hi9
      subst eb
      cases hb9 with
      | none =>
        k_steps
        all_goals exact hret _ _ _ (by k_asm)
      | mk b1 b2 b3 b4 b5 =>
        cases hc9 with
        | mk c1 c2 c3 =>
        cases hd9 with
        | mk d1 d2 d3 d4 =>
        have hg := rowI_bez hP hi9
        unfold Bez at hg
        have ex := fun i h => rowI_norm (i := i) (j := i) hP hi9 h h
        k_steps
        · rename (_ != _) = true => hne
          simp only [fm _ hP1] at hne
          exact (neqA hne).elim
        · exact hret _ _ _ (by k_asm)
        · exact retT (beq_iff_eq.mpr (ex _ (by assumption)).2) (hret _ _ _ (by k_asm))
        · exact retT (beq_iff_eq.mpr (ex _ (by assumption)).1) (hret _ _ _ (by k_asm))
set_option maxHeartbeats 4000000 in
theorem lawB {sc : Scope} {body : List Stmt} {Q : Flow → Shared → Prop} {P c : Int} {uP uc : Tok} {G R : Addr} {ys vs : List Value} {ns : List Int} {nG e : Nat} (hb : lawFn.1.drop 6 = body) (hsc : lawFn.2 = sc) (B : Below A₀ base outer h₀) (F₀ : Fr h₀ L s.heap m) (X : (hd.heap_1 w.params).In h₀) (N : News h₀ L s.heap news) (T : Top p loose mean mg mb h₀) (hdp : dp + 110 < recursionLimit) (hun : un + 880 < cLine)
    (hs : Sees m [(Str.ofString "given", .ref G), (Str.ofString "prime", .int P uP), (Str.ofString "shift", .int c uc), (Str.ofString "rows", .ref R)]) (hP : PrimeOk P) (hP1 : 1 < P) (hB : P < BIG) (hc0 : 0 ≤ c) (hc1 : c < P) (hG : (G, listOf ys.toArray nG) ∈ news) (hy : IntsAre ys ns) (hn : ∀ z ∈ ns, 0 ≤ z) (hl : ns.length = 12) (hGR : (@Ne Nat G R))
    (hR : (R, listOf vs.toArray e) ∈ news) (hv0 : 0 < vs.length) (hv8 : vs.length ≤ 3) (hvs : RowsOk w P c news vs)
    (hret : ∀ h' tk' m', Fr h₀ L h' m' → Q (.ret (.bool true)) { s with heap := h', toks := tk' }) : wpAny (model PySem.Challenge.rw_kh0015_01.row.prog w) (ktrTop dp un gd cn sc L a ccd cl outer) (execs body (envX cn sc L a ccd cl)) Q E s := by
  conv at hb => lhs; whnf
  conv at hsc => lhs; whnf
  subst hb hsc
  refine noE ?_
  have F := frSeen F₀ hs
  clear F₀
  k_steps
  unfold Stop
  rename Fr _ _ _ _ => FW
  refine For_invVF FW rfl rfl ?_
  k_steps
  all_goals
    unfold Stop
    rename Fr _ _ _ _ => F1
    rename News _ _ _ _ => N1
    rename IntsAre _ _ => hw
    rename ∀ z : Int, z ∈ _ → 0 ≤ z => hms
    rename ∀ p, p ∈ news → _ < _ => l9
    rename List.length _ ≤ 4 => hw4
    refine iter_listM (R := R) (fun i => JB w P c G R ys nG [(Str.ofString "given", .ref G), (Str.ofString "prime", .int P uP), (Str.ofString "shift", .int c uc), (Str.ofString "rows", .ref R)] (3 + i)) rfl rfl (News.isList (n := 0) (d := none) (sl := #[]) N1 (.head _)) (N1 _ (.head _)).2.1 (.tail _ hR) (Nat.ne_of_gt (l9 _ hR)) F1 N1 ⟨⟨rfl, rfl, rfl, rfl, trivial⟩, .tail _ hG, vs, e, .tail _ hR, hv0, hv8, RowsOk.mono Sub.one hvs⟩ ?_ ?_
    · clear F1 N1 l9 hs hR hvs hG hv0 hv8
      rintro i v m₁ l own h tk hi ⟨hs1, hG1, vs1, e1, hR1, hv01, hv1, hvs1⟩ hown F2 N2
      have F3 := frSeen F2 (ps := (Str.ofString "number", v) :: [(Str.ofString "given", .ref G), (Str.ofString "prime", .int P uP), (Str.ofString "shift", .int c uc), (Str.ofString "rows", .ref R)]) ⟨rfl, (if_neg (by decide)).trans hs1.1, (if_neg (by decide)).trans hs1.2.1, (if_neg (by decide)).trans hs1.2.2.1, (if_neg (by decide)).trans hs1.2.2.2.1, trivial⟩
      clear F2 hs1
      have hi4 := (List.getElem?_eq_some_iff.mp hi).1
      obtain ⟨n, t, rfl, hn1⟩ := hw.at i v hi
      have hn0 := hms n (List.mem_of_getElem? hn1)
      clear hi hn1
      k_steps
      all_goals first
        | exact turnM_end (by k_asm) (by k_asm) (by ktr_rel) (JB.keep (by k_mem) (by k_mem) (by omega) (by omega) (by ktr_rel) ⟨rfl, rfl, rfl, rfl, trivial⟩)
        | (rename Cl2 _ _ => C9
           rename ∀ p ∈ _, _ ≠ R → _ => K9
           rename (R, _) ∈ _ => hR9
           refine turnM_end (by k_asm) (by k_asm) (fun p hp => K9 p ?_ (hown p hp)) (JB.keep (K9 _ (by k_mem) hGR) hR9 (by simp) (by simp; omega) (RowsOk.cl2 C9 (RowsOk.snoc (by ktr_rel) (by ktr_rel) (by assumption) ?_)) ⟨rfl, rfl, rfl, rfl, trivial⟩)
           · exact Sub.from (by assumption) Sub.appL p hp
           · first | trivial | assumption)
    · clear F1 N1 l9 hs hR hvs hG hv0 hv8
      rintro m₁ l h tk ⟨hs1, hG1, vs1, e1, hR1, hv01, hv1, hvs1⟩ F2 N2
      exact lawC rfl rfl B F2 X N2 T (by omega) (by omega) hs1 hP hP1 hB hc0 hc1 hG1 hy hn hl hR1 hv01 (by omega) hvs1 (fun h' tk' m' F' => hret h' tk' m' F')
local macro_rules | `(tactic| walk_at "CompSrc") => `(tactic| (refine Stop.mk ?_))
local macro_rules | `(tactic| walk_at "exec Assign cons ListComp") => `(tactic| (refine Stop.mk ?_))
local macro_rules | `(tactic| walk_at "execs cons") => `(tactic| ((with_reducible show wpAny _ _ (execs (PySem.Stmt.For _ (PySem.Expr.IfExp _ _ _ _) _ _ _ :: _) _) _ _ _); refine Stop.mk ?_))
local macro_rules | `(tactic| walk_at "subscriptTail Name Name ref int") => `(tactic| ((with_reducible show wpAny _ _ (subscriptTail (PySem.Expr.Name (PySem.Str.ofString "given") _) _ _ _) _ _ _); k_dflt (refine' givenItem (N := ?k1) (hm := ?k2) (hi := ?k3) ?k4 ?k5 ?k6 ?k7 ?_; (case k1 => k_asm); (case k2 => k_mem); (case k3 => assumption); (case k4 => assumption); (case k5 => decide); (case k6 => omega); (case k7 => omega)); intro z9 t9 hz9; (try dsimp only); (try k_fold)))
local macro_rules | `(tactic| walk_at "subscriptTail Name BinOp ref int") => `(tactic| ((with_reducible show wpAny _ _ (subscriptTail (PySem.Expr.Name (PySem.Str.ofString "given") _) _ _ _) _ _ _); k_dflt (refine' givenItem (N := ?k1) (hm := ?k2) (hi := ?k3) ?k4 ?k5 ?k6 ?k7 ?_; (case k1 => k_asm); (case k2 => k_mem); (case k3 => assumption); (case k4 => assumption); (case k5 => decide); (case k6 => omega); (case k7 => omega)); intro z9 t9 hz9; (try dsimp only); (try k_fold)))
set_option maxHeartbeats 4000000 in
theorem lawA {sc : Scope} {body : List Stmt} {Q : Flow → Shared → Prop} {ax cA : Addr} {oc : Obj} {xs : List Value} {zs : List Int} (hb : lawFn.1 = body) (hsc : lawFn.2 = sc) (B : Below A₀ base outer h₀) (F₀ : Fr h₀ L s.heap m) (X : (hd.heap_1 w.params).In h₀) (N : News h₀ L s.heap [(cA, oc)]) (T : Top p loose mean mg mb h₀) (hdp : dp + 130 < recursionLimit) (hun : un + 1040 < cLine) (hoc : oc.data = .cell (some (.ref ax))) (hx : h₀.IsList ax xs.toArray) (hz : IntsAre xs zs) (h63 : zs.length ≤ 63)
    (hret : ∀ h' tk' m', Fr h₀ L h' m' → Q (.ret (.bool true)) { s with heap := h', toks := tk' }) : wpAny (model PySem.Challenge.rw_kh0015_01.row.prog w) (ktrTop dp un gd cn sc L a ccd [(Str.ofString "script", cA)] outer) (execs body (envX cn sc L a ccd [(Str.ofString "script", cA)])) Q E s := by
  conv at hb => lhs; whnf
  conv at hsc => lhs; whnf
  subst hb hsc
  refine noE ?_
  k_steps
  unfold Stop
  k_dflt (refine LCg.Assign_ListComp_U (F₀ := by k_asm) (by rfl) (by with_unfolding_all rfl) (by with_unfolding_all rfl) (by decide) (by rfl) (by decide) (by rfl) (by rfl) (by rfl) ?_)
  k_steps
  unfold Stop
  rename Fr _ _ _ _ => FW
  rename News _ _ _ _ => NW
  rename IsRange _ _ _ _ _ _ _ _ => RW
  refine .inr ⟨_, _, _, _, _, _, 12, _, rfl, rfl, FW, NW, RW, by decide, by decide, by decide, ?_⟩
  rintro s₂ ⟨g, rfl⟩
  refine comp_indU (n := 12) (fun i ys => ∃ ns, IntsAre ys ns ∧ ns.length = i ∧ ∀ z ∈ ns, 0 ≤ z) ?_ ?_ 12 0 [] rfl ⟨[], .nil, rfl, fun v hv => absurd hv (by simp)⟩
  · clear FW NW RW
    rintro i ys v I oI C oC D m₂ h tk E' hi ⟨ns, hI1, hI2, hI3⟩ ⟨t9, rfl⟩ hC hx F3 N3 off ne
    k_steps
    all_goals exact ⟨_, _, _, rfl, by k_asm, by k_asm, off, trivial, rfl, snocN hI1 hI2 hI3 (by first | omega | (split <;> omega))⟩
  · rintro ys ⟨ns, hI1, hI2, hI3⟩
    unfold LCg.FinA
    intro D h tk F3 N3 off
    clear FW NW RW
    k_steps
    unfold Stop
    rename Fr _ _ _ _ => FW
    refine For_invVF FW rfl rfl ?_
    k_steps
    unfold Stop
    rename Fr _ _ _ _ => F1
    rename News _ _ _ _ => N1
    rename PrimeOk _ => hP
    rename _ < BIG => hPb
    rename (1 : Int) < _ => hPc
    rename D < _ ∧ _ => lR
    rename _ < _ ∧ D < _ ∧ _ => lD
    have hGR := Nat.ne_of_lt lR.1
    refine iter_tupM (vs := [_, _]) (JA w _ _ _ _ D _ ys ys.length) rfl rfl (News.isTup N1 (.head _)) (N1 _ (.head _)).2.1 (.tail _ (.head _)) (Nat.ne_of_gt lD.1) F1 N1 ⟨⟨rfl, rfl, rfl, rfl, trivial⟩, .tail _ (.tail _ (.head _)), [], 0, .tail _ (.head _), rfl, RowsOk.nil⟩ ?_ ?_
    · clear F1 N1 lD lR
      rintro i v m₁ l own h tk hi ⟨hs1, hG1, vs1, e1, hR1, hv1, hvs1⟩ hown F2 N2
      have F3 := frSeen F2 (ps := [(Str.ofString "k", v), (_, _), (_, _), (_, _), (_, _)]) ⟨rfl, (if_neg (by decide)).trans hs1.1, (if_neg (by decide)).trans hs1.2.1, (if_neg (by decide)).trans hs1.2.2.1, (if_neg (by decide)).trans hs1.2.2.2.1, trivial⟩
      clear F2 hs1
      rcases i with _ | _ | i
      · obtain rfl := Option.some.inj hi
        clear hi
        k_steps
        rename Cl2 _ _ => C9
        rename ∀ p ∈ _, (@Ne Nat _ _) → _ => K9
        rename ((_, listOf (List.toArray (vs1 ++ [_])) _) : Addr × Obj) ∈ (_ : List (Addr × Obj)) => hR9
        refine turnM_end (by k_asm) (by k_asm) (fun p hp => K9 p ?_ (hown p hp)) (JA.keep (K9 _ (by k_mem) hGR) hR9 (by simp [hv1]) (RowsOk.cl2 C9 (RowsOk.snoc (by ktr_rel) (by ktr_rel) ?_ ?_)) ⟨rfl, rfl, rfl, rfl, trivial⟩)
        · refine Sub.mem (l := own) ?_ hp
          ktr_rel
        · exact (rowI_row hP (by assumption) (L2.inq (by assumption)) (shlo hPc) (shhi hPc)).1
        · exact (rowI_row hP (by assumption) (L2.inq (by assumption)) (shlo hPc) (shhi hPc)).2
      · obtain rfl := Option.some.inj hi
        clear hi
        k_steps
        rename Cl2 _ _ => C9
        rename ∀ p ∈ _, (@Ne Nat _ _) → _ => K9
        rename ((_, listOf (List.toArray (vs1 ++ [_])) _) : Addr × Obj) ∈ (_ : List (Addr × Obj)) => hR9
        refine turnM_end (by k_asm) (by k_asm) (fun p hp => K9 p ?_ (hown p hp)) (JA.keep (K9 _ (by k_mem) hGR) hR9 (by simp [hv1]) (RowsOk.cl2 C9 (RowsOk.snoc (by ktr_rel) (by ktr_rel) ?_ ?_)) ⟨rfl, rfl, rfl, rfl, trivial⟩)
        · refine Sub.mem (l := own) ?_ hp
          ktr_rel
        · exact (rowI_row hP (by assumption) (L2.inq (by assumption)) (shlo hPc) (shhi hPc)).1
        · exact (rowI_row hP (by assumption) (L2.inq (by assumption)) (shlo hPc) (shhi hPc)).2
      · cases hi
    · clear F1 N1 lD lR
      rintro m₁ l h tk ⟨hs1, hG1, vs1, e1, hR1, hv1, hvs1⟩ F2 N2
      have F3 := frSeen F2 hs1
      clear F2 hs1
      have hv2 : vs1.length = 2 := hv1
      k_steps
      unfold Stop
      rename Fr _ _ _ _ => F4
      rename News _ _ _ _ => N4
      rename Cl2 _ _ => C9
      rename ∀ p ∈ _, (@Ne Nat _ _) → _ => K9
      rename ((_, listOf (List.toArray (vs1 ++ [_])) _) : Addr × Obj) ∈ (_ : List (Addr × Obj)) => hR9
      exact lawB rfl rfl B F4 X N4 T (by omega) (by omega) ⟨rfl, rfl, rfl, rfl, trivial⟩ hP hPc hPb (shle hPc) (shhi hPc) (K9 _ (by k_mem) hGR) hI1 hI3 hI2 hGR hR9 (by simp) (by simp [hv2]) (RowsOk.cl2 C9 (RowsOk.snoc (by ktr_rel) (by ktr_rel) (rowI_row (q := none) hP trivial trivial (by decide) hPc).1 (rowI_row (q := none) hP (c := 0) trivial trivial (by decide) hPc).2)) hret
end
end
end Mine
end
section
open PySem PySem.W PyProof.Rows PySem.Calls PySem.Spec
namespace Mine
local macro_rules | `(tactic| k_qdec) => `(tactic| decide +kernel)
set_option maxHeartbeats 8000000 in
theorem lawHolds : PySem.Challenge.rw_kh0015_01.Holds := hd (by
  k_go0
  rename Below _ _ _ _ => B9
  rename Fr _ _ _ _ => F9
  rename News _ _ _ _ => N9
  rename Frag.In _ _ => X9
  rename Top _ _ _ _ _ _ => T9
  rename Heap.IsList _ _ _ => L9
  rename IntsAre _ _ => I9
  rename Obj.data _ = _ => D9
  rename ¬ (_ < _) => C9
  k_dflt (refine' lawA (body := _) ?h1 ?h2 B9 F9 X9 N9 T9 ?h3 ?h4 ?h5 L9 I9 ?h6 ?h7)
  case h1 => rfl
  case h2 => rfl
  case h3 => decide
  case h4 => rw [cLine_is]; decide
  case h5 => exact D9
  case h6 => omega
  intro h9 tk9 m9 F8
  clear F9 N9 D9
  k_steps)
end Mine
end
set_option maxHeartbeats 8000000 in
theorem PySem.Challenge.cw_kh0015_01_holds : PySem.Challenge.rw_kh0015_01.Holds := by
  exact Mine.lawHolds
