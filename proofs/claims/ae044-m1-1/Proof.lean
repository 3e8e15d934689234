import JvmDerived
import JvmDerived.Pilot.@@N@@Statement
import JvmDerived.Pilot.@@N@@Code
set_option linter.unusedVariables false
set_option linter.unusedSimpArgs false
namespace Jvm.RoadKit
open Sem ClassFile Op Lib Jvm.Stand Jvm.Free Jvm.LawKit
section New
variable {p : Program} {l : Launch} {e : Env} {R : Room} {s : State} {m : MethodId} {args : Array Value} {below : List Frame} {meth : Method} {c : Code} {T : State} {locs : List Loc} {cells slots : Nat}
theorem retI (X : Stand p l e R s m args below meth c T locs cells slots) (hx : p.tables.exec = Jvm.exec) {pc : Nat} {Ls : Array Slot} {z : Int32} {rest : List Value} (hret : meth.sig.returnType = some .int) (hd : decode c.code pc = .ok (.ireturn, 1)) {fs : List Frame}
    (hl : ∀ (f : JFrame) (acts : List Action), f.method = m → f.locked = none → f.entered = [] → (doReturn e (T.setTop f) acts (some (.int z))).1 = T.setFrames fs) : Steps p.tables e below (T.setTop (mkF m pc Ls (.int z :: rest))) (T.setFrames fs) := by
  have hm' : T.vm.method? m = some meth := X.method'
  have hn : narrow .int (.int z) = .int z := rfl
  show Steps p.tables e below (T.setTop { method := m, pc := pc, locals := Ls, stack := _ :: rest, locked := none }) _
  jvm_step X.here [X.here.top, hx, hd, hm', hret, hn]
  first | (intro acts; rw [hl _ acts rfl rfl rfl]) | rw [hl _ _ rfl rfl rfl]
  exact Steps.refl _
end New
end Jvm.RoadKit
namespace Jvm.Pilot.@@N@@
open Jvm Jvm.ClassFile Sem Op Lib Jvm.Free Jvm.Stand Jvm.LawKit Jvm.RoadKit Bundle Jvm.Pilot.@@N@@.Jvm.D
theorem own_more {p : Program} {l : Launch} {e : Env} {R : Room} {s : State} {m : MethodId} {args : Array Value} {below : List Frame} {meth : Method} {c : Code} {T : State} {locs : List Loc} {k n k' n' : Nat} (X : Stand p l e R s m args below meth c T locs k n) (hk : k ≤ k') (hn : n ≤ n') : Stand p l e R s m args below meth c T locs k' n' := { X with same := X.same.mono hk hn }
theorem own_nar {t : FieldType} {v : Value} (h : v.isRef = true) (ht : t.isReference = true := by rfl) : narrow t v = v := by
  rcases ref_cases h with rfl | ⟨a, rfl⟩ <;> cases t <;> first | rfl | (cases ht; done)
theorem own_fit {t : FieldType} {v : Value} (h : v.isRef = true) (ht : t.isReference = true := by rfl) : fits t v = true := by
  rcases ref_cases h with rfl | ⟨a, rfl⟩ <;> cases t <;> first | rfl | (cases ht; done)
theorem own_ifc {P Q : Prop} [Decidable P] [Decidable Q] {α : Type} {a b c d : α} (h : P ↔ Q) (h1 : a = c) (h2 : b = d) : (if P then a else b) = (if Q then c else d) := by
  subst h1 h2; by_cases q : Q
  · rw [if_pos q, if_pos (h.mpr q)]
  · rw [if_neg q, if_neg (fun p => q (h.mp p))]
theorem own_selp {Z s : State} {a0 args : Array Value} {y : MethodName} {n : Nat} (hZ : Z.Warmed39 s.vm) (wi : (Cond.instantiable y.cls n).before a0 Z = true) (wm : (Cond.instanceMethod y).before a0 Z = true) (wp : (Cond.privateMethod y).before a0 Z = true) (hy : y.cls ≠ "java/lang/invoke/MethodHandle" ∧ y.cls ≠ "java/lang/invoke/VarHandle") : (Cond.selects y.cls y y).before args s = true := by
  obtain ⟨c, k, h1, h2, -, h4, -⟩ := Cond.instantiable_spec (show (Cond.instantiable y.cls n).before args s = true from mvT hZ wi)
  exact selects_self_of_private h1 h2 (Bool.or_eq_false_iff.mp h4).1 (Cond.privateMethod_at (mvP hZ wp (args := #[]))) (mvT hZ wm) hy
theorem own_cat {v : Value} (h : v.isRef = true) : v.category = 1 := by rcases ref_cases h with rfl | ⟨a, rfl⟩ <;> rfl
abbrev lv (x : Int64) : Slot := .val (.long x)
abbrev sd : Slot := .second
abbrev un : Slot := .unset
abbrev Rch (p : Program) (e : Env) (below : List Frame) (A B : State) : Prop := ∀ t, Steps p.tables e below B t → Steps p.tables e below A t
section OwnFp
open Jvm.FP.Core
theorem own_sgn_l2d (x : Int64) : sgn (val64 (l2d x)) = decide (x.toInt < 0) := by
  obtain ⟨c, q, h⟩ := l2d_shape x
  rw [h]; rfl
theorem own_sgn_i2d (x : Int32) : sgn (val64 (i2d x)) = decide (x.toInt < 0) := by
  rw [i2d_l2d, own_sgn_l2d, Int32.toInt_toInt64]
theorem own_ust {K : Nat} (hK : 1 ≤ K) : unitsOf b64 (K * 2 ^ 52) = 2 ^ (51 + K) := by
  have h := unitsOf_start (f := b64) hK
  rw [tails_b64, ← Nat.pow_add] at h
  rw [h]
  congr 1
  omega
theorem own_zl {a : UInt64} {K : Nat} (hK : 1 ≤ K) (f : DFin a) (h : K * 2 ^ 52 ≤ a.toNat % 2 ^ 63) : 2 ^ (51 + K) ≤ zmag b64 (val64 a) := by
  rw [zmag_bits f.ne_nan, ← own_ust hK]
  exact unitsOf_le_iff.mpr h
theorem own_zu {a : UInt64} {K : Nat} (hK : 1 ≤ K) (f : DFin a) (h : a.toNat % 2 ^ 63 < K * 2 ^ 52) : zmag b64 (val64 a) < 2 ^ (51 + K) := by
  rw [zmag_bits f.ne_nan, ← own_ust hK]
  exact unitsOf_lt h
theorem own_mulf {a b : UInt64} (fa : DFin a) (fb : DFin b) : sgn (val64 (dmul a b)) = (sgn (val64 a) != sgn (val64 b)) ∧ ∀ {m i j : Nat}, m ≤ 9218868437227405312 → 2 ^ i ≤ zmag b64 (val64 a) → 2 ^ j ≤ zmag b64 (val64 b) → unitsOf b64 m * 2 ^ (b64.qmin - 2 * b64.qmin).toNat ≤ 2 ^ (i + j) → m ≤ (dmul a b).toNat % 2 ^ 63 := by
  obtain ⟨s, c, q, ha⟩ := fa
  obtain ⟨t, d, r, hb⟩ := fb
  have fx := val64_fits a
  have fy := val64_fits b
  rw [ha] at fx
  rw [hb] at fy
  obtain ⟨p1, p2, p3⟩ := product_units fx fy
  have hv : val64 (dmul a b) = roundRatio b64 (s != t) (c * d) 1 (q + r) := by rw [val64_dmul, ha, hb, p1]; rfl
  refine ⟨by rw [hv, sgn_roundRatio, ha, hb]; rfl, ?_⟩
  intro m i j hm hi hj h
  rw [ha] at hi
  rw [hb] at hj
  rw [← mag_toNat64]
  have hq := qmin_b64
  refine mag_ge good_b64 (e0 := 2 * b64.qmin) hv (by decide) (by omega) p2 (by rw [infBits_b64]; exact hm) ?_
  rw [p3, Nat.mul_one]
  refine Nat.le_trans h ?_
  rw [Nat.pow_add]
  exact Nat.mul_le_mul hi hj
theorem own_qd : (b64.qmin - 2 * b64.qmin).toNat = 1074 := by rw [qmin_b64]; rfl
theorem own_mulK {a b : UInt64} {K i j : Nat} (fa : DFin a) (fb : DFin b) (hK : 1 ≤ K) (hK2 : K ≤ 2047) (hi : 2 ^ i ≤ zmag b64 (val64 a)) (hj : 2 ^ j ≤ zmag b64 (val64 b)) (h : 51 + K + 1074 ≤ i + j) : K * 2 ^ 52 ≤ (dmul a b).toNat % 2 ^ 63 := by
  refine (own_mulf fa fb).2 (by omega) hi hj ?_
  rw [own_ust hK, ← Nat.pow_add]
  exact Nat.pow_le_pow_right (by decide) (by rw [own_qd]; exact h)
theorem own_u1 : unitsOf b64 1 = 1 := if_pos (by decide)
theorem own_mul1 {a b : UInt64} {i j : Nat} (fa : DFin a) (fb : DFin b) (hi : 2 ^ i ≤ zmag b64 (val64 a)) (hj : 2 ^ j ≤ zmag b64 (val64 b)) (h : 1074 ≤ i + j) : 1 ≤ (dmul a b).toNat % 2 ^ 63 := by
  refine (own_mulf fa fb).2 (by omega) hi hj ?_
  rw [own_u1, Nat.one_mul]
  exact Nat.pow_le_pow_right (by decide) (by rw [own_qd]; exact h)
theorem own_quot (f : Fmt) (s t : Bool) (c d : Nat) (q r : Int) : quotient f (.fin s c q) (.fin t d r) = if d = 0 then (if c = 0 then .nan else .inf (s != t)) else roundRatio f (s != t) c d (q - r) := rfl
theorem own_rr0 (f : Fmt) (s : Bool) (B : Nat) (e : Int) : roundRatio f s 0 B e = .fin s 0 f.qmin := rfl
theorem own_divf {a b : UInt64} (fa : DFin a) (fb : DFin b) (hz : ¬ DZero b) : sgn (val64 (ddiv a b)) = (sgn (val64 a) != sgn (val64 b)) ∧ val64 (ddiv a b) ≠ .nan ∧ (DZero a → DZero (ddiv a b)) ∧ (∀ {i j : Nat}, 2 ^ i ≤ zmag b64 (val64 a) → zmag b64 (val64 b) < 2 ^ j → j ≤ i + 1074 → 1 ≤ (ddiv a b).toNat % 2 ^ 63) := by
  obtain ⟨s, c, q, ha⟩ := fa
  obtain ⟨t, d, r, hb⟩ := fb
  have fx := val64_fits a
  have fy := val64_fits b
  rw [ha] at fx
  rw [hb] at fy
  have hd : d ≠ 0 := by
    rintro rfl
    exact hz ⟨t, r, hb⟩
  have hv : val64 (ddiv a b) = roundRatio b64 (s != t) c d (q - r) := by rw [val64_ddiv, ha, hb, own_quot, if_neg hd]
  refine ⟨by rw [hv, sgn_roundRatio, ha, hb]; rfl, by rw [hv]; exact roundRatio_ne_nan _ _ _ _ _, ?_, ?_⟩
  · rintro ⟨s', q', h⟩
    rw [ha] at h
    injection h with h1 h2 h3
    exact ⟨s != t, b64.qmin, by rw [hv, h2, own_rr0]⟩
  · intro i j hi hj h
    rw [ha] at hi
    rw [hb] at hj
    have hx1 := fx.2.1
    have hy1 := fy.2.1
    have hq := qmin_b64
    rw [← mag_toNat64]
    refine mag_ge good_b64 (e0 := 2 * b64.qmin - r) hv (by omega) (by omega) (by omega) (by rw [infBits_b64]; decide) ?_
    have e1 : inUnits c (q - r) (2 * b64.qmin - r) = zmag b64 (.fin s c q) * 2 ^ (b64.qmin - 2 * b64.qmin).toNat := by
      show c * _ = c * _ * _
      rw [Nat.mul_assoc, ← Nat.pow_add]
      congr 2
      omega
    have e2 : 2 ^ (b64.qmin - (2 * b64.qmin - r)).toNat * d = zmag b64 (.fin t d r) := by
      show _ = d * _
      rw [Nat.mul_comm]
      congr 2
      omega
    rw [e1, Nat.mul_assoc, e2, own_u1, Nat.one_mul]
    refine Nat.le_trans (Nat.le_of_lt hj) (Nat.le_trans ?_ (Nat.mul_le_mul_right _ hi))
    rw [← Nat.pow_add]
    exact Nat.pow_le_pow_right (by decide) (by rw [own_qd]; exact h)
theorem own_k0 : dkey 0 = 0 := by decide +kernel
theorem own_ki : dkey 9218868437227405312 = 9218868437227405312 := by decide +kernel
theorem own_n0 : val64 0 ≠ .nan := by decide +kernel
theorem own_ni : val64 9218868437227405312 ≠ .nan := by decide +kernel
theorem own_dk (a : UInt64) : dkey a = if 2 ^ 63 ≤ a.toNat then ((2 ^ 63 : Nat) : Int) - (a.toNat : Int) else (a.toNat : Int) := rfl
theorem own_yes {a : UInt64} (hs : sgn (val64 a) = false) (h1 : 1 ≤ a.toNat % 2 ^ 63) (h2 : a.toNat % 2 ^ 63 < 9218868437227405312) : dcmp a 0 = some .gt ∧ dcmp a 9218868437227405312 = some .lt := by
  have fin : DFin a := (fin_bits a).mpr h2
  have n := fin.ne_nan
  rw [sgn_bits n] at hs
  have hs := of_decide_eq_false hs
  refine ⟨(dcmp_gt_key n own_n0).mpr ?_, (fin_lt_inf fin).1⟩
  rw [own_k0, own_dk, if_neg hs]
  omega
theorem own_no {a : UInt64} (n : val64 a ≠ .nan) (h : sgn (val64 a) = true ∨ a.toNat % 2 ^ 63 = 0 ∨ 9218868437227405312 ≤ a.toNat % 2 ^ 63) : ¬ (dcmp a 0 = some .gt ∧ dcmp a 9218868437227405312 = some .lt) := by
  rintro ⟨g1, g2⟩
  rw [dcmp_gt_key n own_n0, own_k0, own_dk] at g1
  rw [dcmp_lt_key n own_ni, own_ki, own_dk] at g2
  have hl := a.toNat_lt
  by_cases hs : 2 ^ 63 ≤ a.toNat
  · rw [if_pos hs] at g1
    omega
  · rw [if_neg hs] at g1 g2
    rcases h with h | h | h
    · rw [sgn_bits n] at h
      exact hs (of_decide_eq_true h)
    · omega
    · omega
theorem own_cl (a : UInt64) : (0 : Int32) < cmpValue (dcmp a 0) .l ↔ dcmp a 0 = some .gt := by
  generalize dcmp a 0 = r
  rcases r with _ | (_ | _ | _) <;> decide
theorem own_cg (a : UInt64) : cmpValue (dcmp a 9218868437227405312) .g < (0 : Int32) ↔ dcmp a 9218868437227405312 = some .lt := by
  generalize dcmp a 9218868437227405312 = r
  rcases r with _ | (_ | _ | _) <;> decide
theorem own_f1 : DFin 9094988921128908188 := (fin_bits _).mpr (by decide)
theorem own_f2 : DFin 118622047889322841 := (fin_bits _).mpr (by decide)
theorem own_f3 : DFin 4307583784117748259 := (fin_bits _).mpr (by decide)
theorem own_s1 : sgn (val64 9094988921128908188) = false := by decide +kernel
theorem own_s2 : sgn (val64 118622047889322841) = false := by decide +kernel
theorem own_s3 : sgn (val64 4307583784117748259) = false := by decide +kernel
theorem own_nz1 : ¬ DZero 9094988921128908188 := by rw [zero_bits2]; decide
theorem own_lz {x : Int64} (h : x ≠ 0) : 2 ^ (51 + 1023) ≤ zmag b64 (val64 (l2d x)) := own_zl (by decide) (l2d_fin x) (l2d_big (int64_ne h)).1
theorem own_zero : DZero (l2d 0) := by rw [FP.Core.l2d_zero]; exact ⟨_, _, val64_zero⟩
theorem own_or1 (y : Int32) : y ||| 1 ≠ 0 := by
  intro h
  have h2 := congrArg (fun z : Int32 => z.toBitVec.getLsbD 0) h
  simp at h2
theorem own_nzi {q : Int32} (h : q ≠ 0) : ¬ DZero (i2d q) := by rw [zero_bits2]; exact i2d_ne_zero h
/- mode 0 -/
theorem own_m0 (x : Int64) : (dcmp (l2d x) 0 = some .gt ∧ dcmp (l2d x) 9218868437227405312 = some .lt) ↔ 0 < x.toInt := by
  constructor
  · intro h
    refine Int.lt_of_not_ge fun hx => own_no (l2d_fin x).ne_nan ?_ h
    by_cases h0 : x = 0
    · subst h0
      exact .inr (.inl ((zero_bits2 _).mp own_zero))
    · have := int64_ne h0
      exact .inl (by rw [own_sgn_l2d]; exact decide_eq_true (by omega))
  · intro h
    have b := l2d_big (v := x) (by omega)
    exact own_yes (by rw [own_sgn_l2d]; exact decide_eq_false (by omega)) (by omega) (by omega)
/- mode 1 -/
theorem own_m1 (x : Int64) (q : Int32) (hq : q ≠ 0) : (dcmp (ddiv (l2d x) (i2d q)) 0 = some .gt ∧ dcmp (ddiv (l2d x) (i2d q)) 9218868437227405312 = some .lt) ↔ (x.toInt ≠ 0 ∧ (0 < x.toInt ↔ 0 < q.toInt)) := by
  obtain ⟨d1, d2, d3, d4⟩ := own_divf (l2d_fin x) (i2d_fin q) (own_nzi hq)
  have hq' := int32_ne hq
  rw [own_sgn_l2d, own_sgn_i2d] at d1
  by_cases h0 : x = 0
  · subst h0
    constructor
    · intro h
      exact absurd h (own_no d2 (.inr (.inl ((zero_bits2 _).mp (d3 own_zero)))))
    · rintro ⟨h, _⟩
      exact absurd rfl h
  · have hx := int64_ne h0
    have b1 := d4 (own_lz h0) (own_zu (by decide) (i2d_fin q) (i2d_mag q)) (by decide)
    have b2 := ddiv_mag (l2d_mag x) (i2d_big hq').1 (i2d_big hq').2 (by decide) (by decide)
    by_cases hx2 : x.toInt < 0 <;> by_cases hq2 : q.toInt < 0 <;> simp only [hx2, hq2, decide_true, decide_false] at d1
    · exact iff_of_true (own_yes d1 b1 (by omega)) ⟨hx, by omega⟩
    · exact iff_of_false (own_no d2 (.inl d1)) (by omega)
    · exact iff_of_false (own_no d2 (.inl d1)) (by omega)
    · exact iff_of_true (own_yes d1 b1 (by omega)) ⟨hx, by omega⟩
/- mode 2 -/
theorem own_notnan {a : UInt64} (h : dIsNaN a = false) : val64 a ≠ .nan := (notNaN_iff a).mp h
theorem own_m2 (x : Int64) : ¬ (dcmp (dmul (dmul (l2d x) 9094988921128908188) 9094988921128908188) 0 = some .gt ∧ dcmp (dmul (dmul (l2d x) 9094988921128908188) 9094988921128908188) 9218868437227405312 = some .lt) := by
  have n1 := dmul_out (l2d_fin x) own_f1
  have n2 := dmul_out' n1 own_f1 own_nz1
  refine own_no (own_notnan n2) (.inr ?_)
  by_cases h0 : x = 0
  · subst h0
    have z1 := dzero_mul own_f1 own_zero
    exact .inl ((zero_bits2 _).mp (dzero_mul own_f1 z1))
  · refine .inr ?_
    have c1 : 2 ^ (51 + 2019) ≤ zmag b64 (val64 9094988921128908188) := own_zl (by decide) own_f1 (by decide)
    by_cases hf : DFin (dmul (l2d x) 9094988921128908188)
    · have k := own_mulK (K := 2019) (l2d_fin x) own_f1 (by decide) (by decide) (own_lz h0) c1 (by decide)
      have k2 := own_mulK (K := 2047) hf own_f1 (by decide) (by decide) (own_zl (by decide) hf k) c1 (by decide)
      omega
    · obtain ⟨t, d, r, hb⟩ := own_f1
      have hd : d ≠ 0 := by
        rintro rfl
        exact own_nz1 ⟨t, r, hb⟩
      cases hc : val64 (dmul (l2d x) 9094988921128908188) with
      | nan => exact absurd hc (own_notnan n1)
      | fin s c q => exact absurd ⟨s, c, q, hc⟩ hf
      | inf s =>
        have hv : val64 (dmul (dmul (l2d x) 9094988921128908188) 9094988921128908188) = .inf (s != t) := by
          rw [val64_dmul, hc, hb]
          show round b64 (if d = 0 then .nan else .inf (s != t)) = _
          rw [if_neg hd]
          rfl
        refine Nat.le_of_not_lt fun hlt => ?_
        obtain ⟨s', c', q', h'⟩ := (fin_bits _).mpr hlt
        rw [hv] at h'
        cases h'
/- mode 3 -/
theorem own_m3 (x : Int64) : (dcmp (dmul (dmul (l2d x) 118622047889322841) 4307583784117748259) 0 = some .gt ∧ dcmp (dmul (dmul (l2d x) 118622047889322841) 4307583784117748259) 9218868437227405312 = some .lt) ↔ 0 < x.toInt := by
  have u1 := dmul_mag (l2d_mag x) (b := 118622047889322841) (Kb := 27) (by decide) (by decide) (by decide)
  have f1 : DFin (dmul (l2d x) 118622047889322841) := (fin_bits _).mpr (by omega)
  have u2 := dmul_mag (Ka := 93) (by omega) (b := 4307583784117748259) (Kb := 957) (by decide) (by decide) (by decide) (a := dmul (l2d x) 118622047889322841)
  have f2 : DFin (dmul (dmul (l2d x) 118622047889322841) 4307583784117748259) := (fin_bits _).mpr (by omega)
  have s2 : sgn (val64 (dmul (dmul (l2d x) 118622047889322841) 4307583784117748259)) = decide (x.toInt < 0) := by
    rw [(own_mulf f1 own_f3).1, (own_mulf (l2d_fin x) own_f2).1, own_sgn_l2d, own_s2, own_s3]
    generalize decide (x.toInt < 0) = b
    cases b <;> rfl
  by_cases h0 : x = 0
  · subst h0
    have z1 := dzero_mul own_f2 own_zero
    exact iff_of_false (own_no f2.ne_nan (.inr (.inl ((zero_bits2 _).mp (dzero_mul own_f3 z1))))) (by decide)
  · have hx := int64_ne h0
    have c2 : 2 ^ (51 + 26) ≤ zmag b64 (val64 118622047889322841) := own_zl (by decide) own_f2 (by decide)
    have c3 : 2 ^ (51 + 956) ≤ zmag b64 (val64 4307583784117748259) := own_zl (by decide) own_f3 (by decide)
    have k := own_mulK (K := 26) (l2d_fin x) own_f2 (by decide) (by decide) (own_lz h0) c2 (by decide)
    have k2 := own_mul1 f1 own_f3 (own_zl (by decide) f1 k) c3 (by decide)
    by_cases hx2 : x.toInt < 0
    · exact iff_of_false (own_no f2.ne_nan (.inl (by rw [s2]; exact decide_eq_true hx2))) (by omega)
    · exact iff_of_true (own_yes (by rw [s2]; exact decide_eq_false hx2) k2 (by omega)) (by omega)
end OwnFp
theorem own_nn1 (x : Int64) (y : Int32) : Jvm.Free.Fl.NoNaN64 (FP.ddiv (FP.l2d x) (FP.i2d (y ||| 1))) := Jvm.Free.Fl.noNaN64_no.mpr (FP.Core.ddiv_out (FP.Core.l2d_fin x).notNaN (FP.Core.i2d_fin _) (own_nzi (own_or1 y)))
theorem own_nn2 (x : Int64) : Jvm.Free.Fl.NoNaN64 (FP.dmul (FP.l2d x) 9094988921128908188) := Jvm.Free.Fl.noNaN64_no.mpr (FP.Core.dmul_out (FP.Core.l2d_fin x) own_f1)
theorem own_nn3 (x : Int64) : Jvm.Free.Fl.NoNaN64 (FP.dmul (FP.dmul (FP.l2d x) 9094988921128908188) 9094988921128908188) := Jvm.Free.Fl.noNaN64_no.mpr (FP.Core.dmul_out' (FP.Core.dmul_out (FP.Core.l2d_fin x) own_f1) own_f1 own_nz1)
theorem own_nn4 (x : Int64) : Jvm.Free.Fl.NoNaN64 (FP.dmul (FP.l2d x) 118622047889322841) := Jvm.Free.Fl.noNaN64_no.mpr (FP.Core.dmul_out (FP.Core.l2d_fin x) own_f2)
theorem own_nzc3 : ¬ FP.Core.DZero 4307583784117748259 := by rw [FP.Core.zero_bits2]; decide
theorem own_nn5 (x : Int64) : Jvm.Free.Fl.NoNaN64 (FP.dmul (FP.dmul (FP.l2d x) 118622047889322841) 4307583784117748259) := Jvm.Free.Fl.noNaN64_no.mpr (FP.Core.dmul_out' (FP.Core.dmul_out (FP.Core.l2d_fin x) own_f2) own_f3 own_nzc3)

theorem d1_0 : decode prog_1_method_2_code 0 = .ok (.dload_n 0, 1) := by decide +kernel
theorem d1_1 : decode prog_1_method_2_code 1 = .ok (.dconst 0, 1) := by decide +kernel
theorem d1_2 : decode prog_1_method_2_code 2 = .ok (.dcmp .l, 1) := by decide +kernel
theorem d1_3 : decode prog_1_method_2_code 3 = .ok (.ifCond .le 15, 3) := by decide +kernel
theorem d1_18 : decode prog_1_method_2_code 18 = .ok (.iconst 0, 1) := by decide +kernel
theorem d1_6 : decode prog_1_method_2_code 6 = .ok (.dload_n 0, 1) := by decide +kernel
theorem d1_7 : decode prog_1_method_2_code 7 = .ok (.ldc2_w 17, 3) := by decide +kernel
theorem d1_10 : decode prog_1_method_2_code 10 = .ok (.dcmp .g, 1) := by decide +kernel
theorem d1_11 : decode prog_1_method_2_code 11 = .ok (.ifCond .ge 7, 3) := by decide +kernel
theorem d1_14 : decode prog_1_method_2_code 14 = .ok (.iconst 1, 1) := by decide +kernel
theorem d1_15 : decode prog_1_method_2_code 15 = .ok (.goto 4, 3) := by decide +kernel
theorem d1_19 : decode prog_1_method_2_code 19 = .ok (.ireturn, 1) := by decide +kernel
theorem pn_0 : plainName "com/example/kinhash/kinhash/BitVote" = true := by first | (simp [plainName, overriddenIn]; done) | decide +kernel
theorem pn_1 : plainName "com/example/kinhash/kinhash/BitVoteIsWeightPinLaw" = true := by first | (simp [plainName, overriddenIn]; done) | decide +kernel
theorem pd_0 : parseMethodDescriptor "(D)Z" = some ⟨[.double], some .boolean⟩ := by decide +kernel
def own_iw (w1 : UInt64) : Int32 := (if (0 : Int32) < (cmpValue (FP.dcmp w1 (0 : UInt64)) .l) then (if (cmpValue (FP.dcmp w1 (9218868437227405312 : UInt64)) .g) < (0 : Int32) then (1 : Int32) else (0 : Int32)) else (0 : Int32))
def Q_rmW (Z : State) (w1 : UInt64) (h0 : Heap) (n0 : Nat) (v : Option Value) (h : Heap) (L : List Loc) : Prop := v = some (.int (own_iw w1)) ∧ Fr n0 L ∧ h = h0
set_option maxRecDepth 65536 in
set_option maxHeartbeats 40000000 in
theorem rmW (l : Launch) (Z : State) (a0 : Array Value) (hw : ∀ d ∈ tables_1, d.before a0 Z = true) (ws : List Jvm.Cond) (w1 : UInt64) (h0 : Heap) (n0 : Nat) (Z0 : n0 ≤ h0.size) :
    MetFree l (⟨"com/example/kinhash/kinhash/BitVote", "isWeight", "(D)Z"⟩ : MethodName) (head1 (Jvm.Cond.code (⟨"com/example/kinhash/kinhash/BitVote", "isWeight", "(D)Z"⟩ : MethodName) prog_1_method_2_code 2 (some .boolean) :: ws) ({ frames := 0, cells := 0, slots := 0, locals := 0 } : Room)) (fun a U => a = #[(.double w1)] ∧ Z.Warmed39 U.vm ∧ U.heap = h0) (fun _ _ _ _ _ => True) (fun _ U o U' => ∃ v L, o = .returned v ∧ Q_rmW Z w1 h0 n0 v U'.heap L ∧ FrameEnd U o U' L ({ frames := 0, cells := 0, slots := 0, locals := 0 } : Room).cells ({ frames := 0, cells := 0, slots := 0, locals := 0 } : Room).slots) := by
  refine MetFree.of_bodySF (plainFor_of_name pn_0) hisR ?_
  intro p e s m args below meth c s₁ Bd hml0 hP hK
  obtain ⟨rfl, hZ, hh⟩ := hP
  have hx := Bd.exec
  have hby := Bd.bytes
  have hml : c.maxLocals = 2 := hml0
  have hown : s.vm.findClass "com/example/kinhash/kinhash/BitVote" = some m.cls := findClass_of_methodNamed Bd.named
  have hnm := (name_of_methodNamed Bd.named Bd.method).1
  have X0 : Stand p l e ({ frames := 0, cells := 0, slots := 0, locals := 0 } : Room) s m #[(.double w1)] below meth c s₁ [] 0 0 := Stand.of_body Bd
  have e0 : s₁.heap = h0 := by rw [← hh, Bd.state]; rfl
  have N0 := Fr.nil n0
  have P0 : Rch p e below (s₁.setTop (entryFrame m #[(.double w1)] 2)) (s₁.setTop (mkF m 0 #[.val (.double w1), .second] [])) := fun t k => castTop (by first | (simp [entryFrame, mkF, argsToLocals, Value.category]; done) | rfl) k
  obtain ⟨x1, hx1⟩ : ∃ z : Int32, z = (cmpValue (FP.dcmp w1 (0 : UInt64)) .l) := ⟨_, rfl⟩
  have P2 : Rch p e below (s₁.setTop (entryFrame m #[(.double w1)] 2)) (s₁.setTop (mkF m 3 #[.val (.double w1), .second] [(.int x1)])) := fun t k => P0 t (by
    subst hx1
    show Steps p.tables e below (s₁.setTop (mkF m 0 #[.val (.double w1), .second] [])) t
    refine XS.dloadN X0.here hx rfl (hb hby d1_0) rfl ?_
    show Steps p.tables e below (s₁.setTop (mkF m 1 #[.val (.double w1), .second] [(.double w1)])) t
    refine XS.dconst0 X0.here hx rfl (hb hby d1_1) (v := (0 : UInt64)) rfl ?_
    show Steps p.tables e below (s₁.setTop (mkF m 2 #[.val (.double w1), .second] [(.double (0 : UInt64)), (.double w1)])) t
    refine XS.dcmpS X0.here hx rfl (hb hby d1_2) rfl rfl ?_
    exact k)
  obtain ⟨v5, hv5, P6⟩ : ∃ (v5 : Int32), v5 = (if (0 : Int32) < x1 then (if (cmpValue (FP.dcmp w1 (9218868437227405312 : UInt64)) .g) < (0 : Int32) then (1 : Int32) else (0 : Int32)) else (0 : Int32)) ∧ Rch p e below (s₁.setTop (entryFrame m #[(.double w1)] 2)) (s₁.setTop (mkF m 19 #[.val (.double w1), .second] [(.int v5)])) := by
    by_cases c3 : (0 : Int32) < x1
    · by_cases c4 : (cmpValue (FP.dcmp w1 (9218868437227405312 : UInt64)) .g) < (0 : Int32)
      · refine ⟨(1 : Int32), (by first | rw [if_pos c3, if_pos c4] | simp only [if_pos c3, if_pos c4] | rfl), fun t k => P2 t ?_⟩
        show Steps p.tables e below (s₁.setTop (mkF m 3 #[.val (.double w1), .second] [(.int x1)])) t
        refine XS.ifNo X0.here hx rfl (hb hby d1_3) rfl ((if0 _ _).trans (tlt c3).2.2.2) ?_
        show Steps p.tables e below (s₁.setTop (mkF m 6 #[.val (.double w1), .second] [])) t
        refine XS.dloadN X0.here hx rfl (hb hby d1_6) rfl ?_
        show Steps p.tables e below (s₁.setTop (mkF m 7 #[.val (.double w1), .second] [(.double w1)])) t
        refine X0.ldc2DoubleC hx hown (mvT hZ (hw _ (List.mem_of_getElem? (i := 4) rfl))) (g := (mkF m 7 #[.val (.double w1), .second] [(.double w1)])) rfl (hb hby d1_7) _ ?_
        show Steps p.tables e below (s₁.setTop (mkF m 10 #[.val (.double w1), .second] [(.double (9218868437227405312 : UInt64)), (.double w1)])) t
        refine XS.dcmpS X0.here hx rfl (hb hby d1_10) rfl rfl ?_
        show Steps p.tables e below (s₁.setTop (mkF m 11 #[.val (.double w1), .second] [(.int (cmpValue (FP.dcmp w1 (9218868437227405312 : UInt64)) .g))])) t
        refine XS.ifNo X0.here hx rfl (hb hby d1_11) rfl ((if0 _ _).trans (tlt c4).2.1) ?_
        show Steps p.tables e below (s₁.setTop (mkF m 14 #[.val (.double w1), .second] [])) t
        refine XS.iconst X0.here hx rfl (hb hby d1_14) ?_
        show Steps p.tables e below (s₁.setTop (mkF m 15 #[.val (.double w1), .second] [(.int (1 : Int32))])) t
        refine XS.goto X0.here hx rfl (pc0 := 15) (pc' := 19) rfl (hb hby d1_15) (by decide) (by decide) ?_
        exact k
      · refine ⟨(0 : Int32), (by first | rw [if_pos c3, if_neg c4] | simp only [if_pos c3, if_neg c4] | rfl), fun t k => P2 t ?_⟩
        show Steps p.tables e below (s₁.setTop (mkF m 3 #[.val (.double w1), .second] [(.int x1)])) t
        refine XS.ifNo X0.here hx rfl (hb hby d1_3) rfl ((if0 _ _).trans (tlt c3).2.2.2) ?_
        show Steps p.tables e below (s₁.setTop (mkF m 6 #[.val (.double w1), .second] [])) t
        refine XS.dloadN X0.here hx rfl (hb hby d1_6) rfl ?_
        show Steps p.tables e below (s₁.setTop (mkF m 7 #[.val (.double w1), .second] [(.double w1)])) t
        refine X0.ldc2DoubleC hx hown (mvT hZ (hw _ (List.mem_of_getElem? (i := 4) rfl))) (g := (mkF m 7 #[.val (.double w1), .second] [(.double w1)])) rfl (hb hby d1_7) _ ?_
        show Steps p.tables e below (s₁.setTop (mkF m 10 #[.val (.double w1), .second] [(.double (9218868437227405312 : UInt64)), (.double w1)])) t
        refine XS.dcmpS X0.here hx rfl (hb hby d1_10) rfl rfl ?_
        show Steps p.tables e below (s₁.setTop (mkF m 11 #[.val (.double w1), .second] [(.int (cmpValue (FP.dcmp w1 (9218868437227405312 : UInt64)) .g))])) t
        refine XS.ifYes X0.here hx rfl (pc0 := 11) (pc' := 18) rfl (hb hby d1_11) rfl ((if0 _ _).trans (flt c4).2.1) (by decide) (by decide) ?_
        show Steps p.tables e below (s₁.setTop (mkF m 18 #[.val (.double w1), .second] [])) t
        refine XS.iconst X0.here hx rfl (hb hby d1_18) ?_
        exact k
    · refine ⟨(0 : Int32), (by first | rw [if_neg c3] | simp only [if_neg c3] | rfl), fun t k => P2 t ?_⟩
      show Steps p.tables e below (s₁.setTop (mkF m 3 #[.val (.double w1), .second] [(.int x1)])) t
      refine XS.ifYes X0.here hx rfl (pc0 := 3) (pc' := 18) rfl (hb hby d1_3) rfl ((if0 _ _).trans (flt c3).2.2.2) (by decide) (by decide) ?_
      show Steps p.tables e below (s₁.setTop (mkF m 18 #[.val (.double w1), .second] [])) t
      refine XS.iconst X0.here hx rfl (hb hby d1_18) ?_
      exact k
  have hz7 : nar .boolean v5 = v5 := by rw [hv5]; (repeat' split) <;> rfl
  obtain ⟨fs, hr, hrun, hended, hW, hsame⟩ := X0.leave (v := some (.int (nar .boolean v5))) (fun h => by rw [Bd.returns] at h; cases h)
  refine ⟨_, _, P6 _ ?_, hrun, hended, _, _, rfl, ?_, ⟨_, rfl⟩, hW, hsame.mono (by decide) (by decide)⟩
  · exact retN X0 hx (t := .boolean) Bd.returns (by simp) (hb hby d1_19) hr
  · show Q_rmW Z w1 h0 n0 _ s₁.heap _
    rw [e0]
    exact ⟨(by rw [hz7]; unfold own_iw; subst hv5 hx1; first | rfl | rw [] | simp only [] | simp [*]), N0, rfl⟩
theorem own_iw1 {a : UInt64} (h : FP.Core.dcmp a 0 = some .gt ∧ FP.Core.dcmp a 9218868437227405312 = some .lt) : own_iw a = 1 := by
  unfold own_iw
  rw [if_pos ((own_cl a).mpr h.1), if_pos ((own_cg a).mpr h.2)]
theorem own_iw0 {a : UInt64} (h : ¬ (FP.Core.dcmp a 0 = some .gt ∧ FP.Core.dcmp a 9218868437227405312 = some .lt)) : own_iw a = 0 := by
  unfold own_iw
  by_cases h1 : FP.Core.dcmp a 0 = some .gt
  · rw [if_pos ((own_cl a).mpr h1), if_neg (fun q => h ⟨h1, (own_cg a).mp q⟩)]
  · rw [if_neg (fun q => h1 ((own_cl a).mp q))]
theorem own_p64 (x : Int64) : (0 : Int64) < x ↔ 0 < x.toInt := Int64.lt_iff_toInt_lt
theorem own_p32 (x : Int32) : (0 : Int32) < x ↔ 0 < x.toInt := Int32.lt_iff_toInt_lt
theorem own_law0 (x : Int64) : own_iw (FP.l2d x) = (if (0 : Int64) < x then (1 : Int32) else (0 : Int32)) := by
  by_cases h : (0 : Int64) < x
  · rw [if_pos h]
    exact own_iw1 ((own_m0 x).mpr ((own_p64 x).mp h))
  · rw [if_neg h]
    exact own_iw0 (fun q => h ((own_p64 x).mpr ((own_m0 x).mp q)))
theorem own_law1 (x : Int64) (y : Int32) : own_iw (FP.ddiv (FP.l2d x) (FP.i2d (y ||| (1 : Int32)))) = (if x = (0 : Int64) then (0 : Int32) else (if (0 : Int64) < x then (if (0 : Int32) < (y ||| (1 : Int32)) then (1 : Int32) else (0 : Int32)) else (if (0 : Int32) < (y ||| (1 : Int32)) then (0 : Int32) else (1 : Int32)))) := by
  have m := own_m1 x (y ||| 1) (own_or1 y)
  generalize y ||| (1 : Int32) = q at m ⊢
  rw [← own_p64, ← own_p32] at m
  by_cases h0 : x = 0
  · rw [if_pos h0]
    subst h0
    exact own_iw0 (fun z => (m.mp z).1 rfl)
  · rw [if_neg h0]
    have hx := FP.Core.int64_ne h0
    by_cases h1 : (0 : Int64) < x
    · rw [if_pos h1]
      by_cases h2 : (0 : Int32) < q
      · rw [if_pos h2]
        exact own_iw1 (m.mpr ⟨hx, iff_of_true h1 h2⟩)
      · rw [if_neg h2]
        exact own_iw0 (fun z => h2 ((m.mp z).2.mp h1))
    · rw [if_neg h1]
      by_cases h2 : (0 : Int32) < q
      · rw [if_pos h2]
        exact own_iw0 (fun z => h1 ((m.mp z).2.mpr h2))
      · rw [if_neg h2]
        exact own_iw1 (m.mpr ⟨hx, iff_of_false h1 h2⟩)
theorem own_law2 (x : Int64) : own_iw (FP.dmul (FP.dmul (FP.l2d x) (9094988921128908188 : UInt64)) (9094988921128908188 : UInt64)) = (0 : Int32) := own_iw0 (own_m2 x)
theorem own_law3 (x : Int64) : own_iw (FP.dmul (FP.dmul (FP.l2d x) (118622047889322841 : UInt64)) (4307583784117748259 : UInt64)) = (if (0 : Int64) < x then (1 : Int32) else (0 : Int32)) := by
  by_cases h : (0 : Int64) < x
  · rw [if_pos h]
    exact own_iw1 ((own_m3 x).mpr ((own_p64 x).mp h))
  · rw [if_neg h]
    exact own_iw0 (fun q => h ((own_p64 x).mpr ((own_m3 x).mp q)))

def Q_rm0 (Z : State) (q1 : Int64) (p2 : Int32) (p3 : Int32) (h0 : Heap) (n0 : Nat) (v : Option Value) (h : Heap) (L : List Loc) : Prop := v = some (.int (1 : Int32)) ∧ Fr n0 L
set_option maxRecDepth 65536 in
set_option maxHeartbeats 40000000 in
theorem rm0 (l : Launch) (Z : State) (a0 : Array Value) (hw : ∀ d ∈ tables_1, d.before a0 Z = true) (ws : List Jvm.Cond) (q1 : Int64) (p2 : Int32) (p3 : Int32) (h0 : Heap) (n0 : Nat) (Z0 : n0 ≤ h0.size) :
    MetFree l x (head1 (Jvm.Cond.code x code maxLocals ret :: ws) room_1) (fun a U => a = #[(.long q1), (.int p2), (.int p3)] ∧ Z.Warmed39 U.vm ∧ U.heap = h0) (fun _ _ _ _ _ => True) (fun _ U o U' => ∃ v L, o = .returned v ∧ Q_rm0 Z q1 p2 p3 h0 n0 v U'.heap L ∧ FrameEnd U o U' L room_1.cells room_1.slots) := by
  refine MetFree.of_bodySF (plainFor_of_name pn_1) hisR ?_
  intro p e s m args below meth c s₁ Bd hml0 hP hK
  obtain ⟨rfl, hZ, hh⟩ := hP
  have hx := Bd.exec
  have hby := Bd.bytes
  have hml : c.maxLocals = 9 := hml0
  have hown : s.vm.findClass "com/example/kinhash/kinhash/BitVoteIsWeightPinLaw" = some m.cls := findClass_of_methodNamed Bd.named
  have hnm := (name_of_methodNamed Bd.named Bd.method).1
  have X0 : Stand p l e room_1 s m #[(.long q1), (.int p2), (.int p3)] below meth c s₁ [] 0 0 := Stand.of_body Bd
  have e0 : s₁.heap = h0 := by rw [← hh, Bd.state]; rfl
  have N0 := Fr.nil n0
  have P0 : Rch p e below (s₁.setTop (entryFrame m #[(.long q1), (.int p2), (.int p3)] maxLocals)) (s₁.setTop (mkF m 0 #[.val (.long q1), .second, .val (.int p2), .val (.int p3), .unset, .unset, .unset, .unset, .unset] [])) := fun t k => castTop (by first | (simp [entryFrame, mkF, argsToLocals, Value.category, maxLocals]; done) | rfl) k
  obtain ⟨x1, hx1⟩ : ∃ z : Int32, z = (p3 &&& (3 : Int32)) := ⟨_, rfl⟩
  have P2 : Rch p e below (s₁.setTop (entryFrame m #[(.long q1), (.int p2), (.int p3)] maxLocals)) (s₁.setTop (mkF m 7 #[.val (.long q1), .second, .val (.int p2), .val (.int p3), .val (.int x1), .unset, .unset, .unset, .unset] [(.int x1)])) := fun t k => P0 t (by
    subst hx1
    show Steps p.tables e below (s₁.setTop (mkF m 0 #[.val (.long q1), .second, .val (.int p2), .val (.int p3), .unset, .unset, .unset, .unset, .unset] [])) t
    refine XS.iloadN X0.here hx rfl (hb hby at_0) rfl ?_
    show Steps p.tables e below (s₁.setTop (mkF m 1 #[.val (.long q1), .second, .val (.int p2), .val (.int p3), .unset, .unset, .unset, .unset, .unset] [(.int p3)])) t
    refine XS.iconst X0.here hx rfl (hb hby at_1) ?_
    show Steps p.tables e below (s₁.setTop (mkF m 2 #[.val (.long q1), .second, .val (.int p2), .val (.int p3), .unset, .unset, .unset, .unset, .unset] [(.int (3 : Int32)), (.int p3)])) t
    refine XS.iand X0.here hx rfl (hb hby at_2) rfl ?_
    show Steps p.tables e below (s₁.setTop (mkF m 3 #[.val (.long q1), .second, .val (.int p2), .val (.int p3), .unset, .unset, .unset, .unset, .unset] [(.int (p3 &&& (3 : Int32)))])) t
    refine XS.istore X0.here hx rfl (hb hby at_3) rfl (l' := #[.val (.long q1), .second, .val (.int p2), .val (.int p3), .val (.int (p3 &&& (3 : Int32))), .unset, .unset, .unset, .unset]) rfl ?_
    show Steps p.tables e below (s₁.setTop (mkF m 5 #[.val (.long q1), .second, .val (.int p2), .val (.int p3), .val (.int (p3 &&& (3 : Int32))), .unset, .unset, .unset, .unset] [])) t
    refine XS.iload X0.here hx rfl (hb hby at_5) rfl ?_
    exact k)
  by_cases c3 : x1 = (0 : Int32)
  · have P4 : Rch p e below (s₁.setTop (entryFrame m #[(.long q1), (.int p2), (.int p3)] maxLocals)) (s₁.setTop (mkF m 17 #[.val (.long q1), .second, .val (.int p2), .val (.int p3), .val (.int x1), .val (.double (FP.l2d q1)), .second, .unset, .unset] [(.int (lcmpW q1 (0 : Int64)))])) := fun t k => P2 t (by
      show Steps p.tables e below (s₁.setTop (mkF m 7 #[.val (.long q1), .second, .val (.int p2), .val (.int p3), .val (.int x1), .unset, .unset, .unset, .unset] [(.int x1)])) t
      refine XS.ifNo X0.here hx rfl (hb hby at_7) rfl ((if0 _ _).trans (teq c3).2) ?_
      show Steps p.tables e below (s₁.setTop (mkF m 10 #[.val (.long q1), .second, .val (.int p2), .val (.int p3), .val (.int x1), .unset, .unset, .unset, .unset] [])) t
      refine XS.lloadN X0.here hx rfl (hb hby at_10) rfl ?_
      show Steps p.tables e below (s₁.setTop (mkF m 11 #[.val (.long q1), .second, .val (.int p2), .val (.int p3), .val (.int x1), .unset, .unset, .unset, .unset] [(.long q1)])) t
      refine XS.l2dS X0.here hx rfl (hb hby at_11) rfl rfl ?_
      show Steps p.tables e below (s₁.setTop (mkF m 12 #[.val (.long q1), .second, .val (.int p2), .val (.int p3), .val (.int x1), .unset, .unset, .unset, .unset] [(.double (FP.l2d q1))])) t
      refine XS.dstore X0.here hx rfl (hb hby at_12) rfl (l' := #[.val (.long q1), .second, .val (.int p2), .val (.int p3), .val (.int x1), .val (.double (FP.l2d q1)), .second, .unset, .unset]) rfl ?_
      show Steps p.tables e below (s₁.setTop (mkF m 14 #[.val (.long q1), .second, .val (.int p2), .val (.int p3), .val (.int x1), .val (.double (FP.l2d q1)), .second, .unset, .unset] [])) t
      refine XS.lloadN X0.here hx rfl (hb hby at_14) rfl ?_
      show Steps p.tables e below (s₁.setTop (mkF m 15 #[.val (.long q1), .second, .val (.int p2), .val (.int p3), .val (.int x1), .val (.double (FP.l2d q1)), .second, .unset, .unset] [(.long q1)])) t
      refine XS.lconst X0.here hx rfl (hb hby at_15) ?_
      show Steps p.tables e below (s₁.setTop (mkF m 16 #[.val (.long q1), .second, .val (.int p2), .val (.int p3), .val (.int x1), .val (.double (FP.l2d q1)), .second, .unset, .unset] [(.long (0 : Int64)), (.long q1)])) t
      refine XS.lcmp X0.here hx rfl (hb hby at_16) rfl ?_
      exact k)
    obtain ⟨v6, hv6, P7⟩ : ∃ (v6 : Int32), v6 = (if (0 : Int64) < q1 then (1 : Int32) else (0 : Int32)) ∧ Rch p e below (s₁.setTop (entryFrame m #[(.long q1), (.int p2), (.int p3)] maxLocals)) (s₁.setTop (mkF m 25 #[.val (.long q1), .second, .val (.int p2), .val (.int p3), .val (.int x1), .val (.double (FP.l2d q1)), .second, .unset, .unset] [(.int v6)])) := by
      by_cases c5 : (0 : Int64) < q1
      · refine ⟨(1 : Int32), (by first | rw [if_pos c5] | simp only [if_pos c5] | rfl), fun t k => P4 t ?_⟩
        show Steps p.tables e below (s₁.setTop (mkF m 17 #[.val (.long q1), .second, .val (.int p2), .val (.int p3), .val (.int x1), .val (.double (FP.l2d q1)), .second, .unset, .unset] [(.int (lcmpW q1 (0 : Int64)))])) t
        refine XS.ifNo X0.here hx rfl (hb hby at_17) rfl ((if0 _ _).trans (tlt ((lw_gt q1 (0 : Int64)).mpr c5)).2.2.2) ?_
        show Steps p.tables e below (s₁.setTop (mkF m 20 #[.val (.long q1), .second, .val (.int p2), .val (.int p3), .val (.int x1), .val (.double (FP.l2d q1)), .second, .unset, .unset] [])) t
        refine XS.iconst X0.here hx rfl (hb hby at_20) ?_
        show Steps p.tables e below (s₁.setTop (mkF m 21 #[.val (.long q1), .second, .val (.int p2), .val (.int p3), .val (.int x1), .val (.double (FP.l2d q1)), .second, .unset, .unset] [(.int (1 : Int32))])) t
        refine XS.goto X0.here hx rfl (pc0 := 21) (pc' := 25) rfl (hb hby at_21) (by decide) (by decide) ?_
        exact k
      · refine ⟨(0 : Int32), (by first | rw [if_neg c5] | simp only [if_neg c5] | rfl), fun t k => P4 t ?_⟩
        show Steps p.tables e below (s₁.setTop (mkF m 17 #[.val (.long q1), .second, .val (.int p2), .val (.int p3), .val (.int x1), .val (.double (FP.l2d q1)), .second, .unset, .unset] [(.int (lcmpW q1 (0 : Int64)))])) t
        refine XS.ifYes X0.here hx rfl (pc0 := 17) (pc' := 24) rfl (hb hby at_17) rfl ((if0 _ _).trans (flt (fun q_ => c5 ((lw_gt q1 (0 : Int64)).mp q_))).2.2.2) (by decide) (by decide) ?_
        show Steps p.tables e below (s₁.setTop (mkF m 24 #[.val (.long q1), .second, .val (.int p2), .val (.int p3), .val (.int x1), .val (.double (FP.l2d q1)), .second, .unset, .unset] [])) t
        refine XS.iconst X0.here hx rfl (hb hby at_24) ?_
        exact k
    have P8 : Rch p e below (s₁.setTop (entryFrame m #[(.long q1), (.int p2), (.int p3)] maxLocals)) (s₁.setTop (mkF m 140 #[.val (.long q1), .second, .val (.int p2), .val (.int p3), .val (.int x1), .val (.double (FP.l2d q1)), .second, .val (.int v6), .unset] [(.double (FP.l2d q1))])) := fun t k => P7 t (by
      show Steps p.tables e below (s₁.setTop (mkF m 25 #[.val (.long q1), .second, .val (.int p2), .val (.int p3), .val (.int x1), .val (.double (FP.l2d q1)), .second, .unset, .unset] [(.int v6)])) t
      refine XS.istore X0.here hx rfl (hb hby at_25) rfl (l' := #[.val (.long q1), .second, .val (.int p2), .val (.int p3), .val (.int x1), .val (.double (FP.l2d q1)), .second, .val (.int v6), .unset]) rfl ?_
      show Steps p.tables e below (s₁.setTop (mkF m 27 #[.val (.long q1), .second, .val (.int p2), .val (.int p3), .val (.int x1), .val (.double (FP.l2d q1)), .second, .val (.int v6), .unset] [])) t
      refine XS.goto X0.here hx rfl (pc0 := 27) (pc' := 138) rfl (hb hby at_27) (by decide) (by decide) ?_
      show Steps p.tables e below (s₁.setTop (mkF m 138 #[.val (.long q1), .second, .val (.int p2), .val (.int p3), .val (.int x1), .val (.double (FP.l2d q1)), .second, .val (.int v6), .unset] [])) t
      refine XS.dload X0.here hx rfl (hb hby at_138) rfl ?_
      exact k)
    obtain ⟨_, _, ⟨T9, L9, k9, n9⟩, -, X9, ⟨Lc9, hQ9, l9, y9, z9⟩, st9⟩ := Jvm.LawKit.callS X0 hx (y := (⟨"com/example/kinhash/kinhash/BitVote", "isWeight", "(D)Z"⟩ : MethodName)) hown (mvT hZ (hw _ (List.mem_of_getElem? (i := 0) rfl))) (mvT hZ (hw _ (List.mem_of_getElem? (i := 1) rfl))) (mvT hZ (hw _ (List.mem_of_getElem? (i := 2) rfl))) (mvT hZ (hw _ (List.mem_of_getElem? (i := 3) rfl))) (by decide) (backOf (W := 0) (rmW l Z a0 hw [] (FP.l2d q1) h0 n0 Z0 ) hZ (hw _ (List.mem_of_getElem? (i := 3) rfl)) (hw _ (List.mem_of_getElem? (i := 2) rfl)) (by decide) (by decide)) (g := (mkF m 140 #[.val (.long q1), .second, .val (.int p2), .val (.int p3), .val (.int x1), .val (.double (FP.l2d q1)), .second, .val (.int v6), .unset] [(.double (FP.l2d q1))])) rfl (by rw [hml]; rfl) (argsL := [(.double (FP.l2d q1))]) (rest := []) (lenOf pd_0 rfl) rfl (by show 2 * 0 + _ ≤ _; exact Nat.le_of_eq rfl) (hb hby at_140) (fun _ _ => ⟨rfl, e0, (by decide : 0 + 0 ≤ _), (by decide : 0 + 0 ≤ _)⟩)
    dsimp only [Pt.U, Pt.locs, Pt.cells, Pt.slots] at X9 l9 y9 z9 st9 hQ9
    subst y9 z9
    obtain ⟨rfl, N9q, e9⟩ := hQ9
    have N9 : Fr n0 L9 := by rw [l9]; exact Fr.app N0 N9q
    have P10 : Rch p e below (s₁.setTop (entryFrame m #[(.long q1), (.int p2), (.int p3)] maxLocals)) (T9.setTop (mkF m 143 #[.val (.long q1), .second, .val (.int p2), .val (.int p3), .val (.int x1), .val (.double (FP.l2d q1)), .second, .val (.int v6), .unset] [(.int (own_iw (FP.l2d q1)))])) := fun t k => P8 t (st9 t k)
    obtain ⟨x11, hx11⟩ : ∃ z : Int32, z = (own_iw (FP.l2d q1)) := ⟨_, rfl⟩
    rw [← hx11] at P10
    have P12 : Rch p e below (s₁.setTop (entryFrame m #[(.long q1), (.int p2), (.int p3)] maxLocals)) (T9.setTop (mkF m 145 #[.val (.long q1), .second, .val (.int p2), .val (.int p3), .val (.int x1), .val (.double (FP.l2d q1)), .second, .val (.int v6), .unset] [(.int v6), (.int x11)])) := fun t k => P10 t (by
      show Steps p.tables e below (T9.setTop (mkF m 143 #[.val (.long q1), .second, .val (.int p2), .val (.int p3), .val (.int x1), .val (.double (FP.l2d q1)), .second, .val (.int v6), .unset] [(.int x11)])) t
      refine XS.iload X9.here hx rfl (hb hby at_143) rfl ?_
      exact k)
    obtain ⟨v14, hv14, P15⟩ : ∃ (v14 : Int32), v14 = (if x11 = v6 then (1 : Int32) else (0 : Int32)) ∧ Rch p e below (s₁.setTop (entryFrame m #[(.long q1), (.int p2), (.int p3)] maxLocals)) (T9.setTop (mkF m 153 #[.val (.long q1), .second, .val (.int p2), .val (.int p3), .val (.int x1), .val (.double (FP.l2d q1)), .second, .val (.int v6), .unset] [(.int v14)])) := by
      by_cases c13 : x11 = v6
      · refine ⟨(1 : Int32), (by first | rw [if_pos c13] | simp only [if_pos c13] | rfl), fun t k => P12 t ?_⟩
        show Steps p.tables e below (T9.setTop (mkF m 145 #[.val (.long q1), .second, .val (.int p2), .val (.int p3), .val (.int x1), .val (.double (FP.l2d q1)), .second, .val (.int v6), .unset] [(.int v6), (.int x11)])) t
        refine XS.icmpNo X9.here hx rfl (hb hby at_145) rfl (teq c13).2 ?_
        show Steps p.tables e below (T9.setTop (mkF m 148 #[.val (.long q1), .second, .val (.int p2), .val (.int p3), .val (.int x1), .val (.double (FP.l2d q1)), .second, .val (.int v6), .unset] [])) t
        refine XS.iconst X9.here hx rfl (hb hby at_148) ?_
        show Steps p.tables e below (T9.setTop (mkF m 149 #[.val (.long q1), .second, .val (.int p2), .val (.int p3), .val (.int x1), .val (.double (FP.l2d q1)), .second, .val (.int v6), .unset] [(.int (1 : Int32))])) t
        refine XS.goto X9.here hx rfl (pc0 := 149) (pc' := 153) rfl (hb hby at_149) (by decide) (by decide) ?_
        exact k
      · refine ⟨(0 : Int32), (by first | rw [if_neg c13] | simp only [if_neg c13] | rfl), fun t k => P12 t ?_⟩
        show Steps p.tables e below (T9.setTop (mkF m 145 #[.val (.long q1), .second, .val (.int p2), .val (.int p3), .val (.int x1), .val (.double (FP.l2d q1)), .second, .val (.int v6), .unset] [(.int v6), (.int x11)])) t
        refine XS.icmpYes X9.here hx rfl (pc0 := 145) (pc' := 152) rfl (hb hby at_145) rfl (feq c13).2 (by decide) (by decide) ?_
        show Steps p.tables e below (T9.setTop (mkF m 152 #[.val (.long q1), .second, .val (.int p2), .val (.int p3), .val (.int x1), .val (.double (FP.l2d q1)), .second, .val (.int v6), .unset] [])) t
        refine XS.iconst X9.here hx rfl (hb hby at_152) ?_
        exact k
    have hfin : v14 = (1 : Int32) := by
      subst hv14 hx11 hv6 hx1
      exact if_pos (own_law0 q1)
    have P16 : Rch p e below (s₁.setTop (entryFrame m #[(.long q1), (.int p2), (.int p3)] maxLocals)) (T9.setTop (mkF m 153 #[.val (.long q1), .second, .val (.int p2), .val (.int p3), .val (.int x1), .val (.double (FP.l2d q1)), .second, .val (.int v6), .unset] [(.int (1 : Int32))])) := by have q_ := P15; rw [hfin] at q_; exact q_
    obtain ⟨fs, hr, hrun, hended, hW, hsame⟩ := X9.leave (v := some (.int (1 : Int32))) (fun h => by rw [Bd.returns] at h; cases h)
    refine ⟨_, _, P16 _ ?_, hrun, hended, _, _, rfl, ?_, ⟨_, rfl⟩, hW, hsame.mono (by decide) (by decide)⟩
    · exact retN X9 hx (t := .boolean) Bd.returns (by simp) (hb hby at_153) hr
    · show Q_rm0 Z q1 p2 p3 h0 n0 _ T9.heap _
      rw [e9]
      exact ⟨rfl, N9⟩
  · have P17 : Rch p e below (s₁.setTop (entryFrame m #[(.long q1), (.int p2), (.int p3)] maxLocals)) (s₁.setTop (mkF m 33 #[.val (.long q1), .second, .val (.int p2), .val (.int p3), .val (.int x1), .unset, .unset, .unset, .unset] [(.int (1 : Int32)), (.int x1)])) := fun t k => P2 t (by
      show Steps p.tables e below (s₁.setTop (mkF m 7 #[.val (.long q1), .second, .val (.int p2), .val (.int p3), .val (.int x1), .unset, .unset, .unset, .unset] [(.int x1)])) t
      refine XS.ifYes X0.here hx rfl (pc0 := 7) (pc' := 30) rfl (hb hby at_7) rfl ((if0 _ _).trans (feq c3).2) (by decide) (by decide) ?_
      show Steps p.tables e below (s₁.setTop (mkF m 30 #[.val (.long q1), .second, .val (.int p2), .val (.int p3), .val (.int x1), .unset, .unset, .unset, .unset] [])) t
      refine XS.iload X0.here hx rfl (hb hby at_30) rfl ?_
      show Steps p.tables e below (s₁.setTop (mkF m 32 #[.val (.long q1), .second, .val (.int p2), .val (.int p3), .val (.int x1), .unset, .unset, .unset, .unset] [(.int x1)])) t
      refine XS.iconst X0.here hx rfl (hb hby at_32) ?_
      exact k)
    by_cases c18 : x1 = (1 : Int32)
    · obtain ⟨x19, hx19⟩ : ∃ z : Int32, z = (p2 ||| (1 : Int32)) := ⟨_, rfl⟩
      have P20 : Rch p e below (s₁.setTop (entryFrame m #[(.long q1), (.int p2), (.int p3)] maxLocals)) (s₁.setTop (mkF m 52 #[.val (.long q1), .second, .val (.int p2), .val (.int p3), .val (.int x1), .val (.double (FP.ddiv (FP.l2d q1) (FP.i2d (p2 ||| (1 : Int32))))), .second, .unset, .val (.int x19)] [(.int (lcmpW q1 (0 : Int64)))])) := fun t k => P17 t (by
        subst hx19
        show Steps p.tables e below (s₁.setTop (mkF m 33 #[.val (.long q1), .second, .val (.int p2), .val (.int p3), .val (.int x1), .unset, .unset, .unset, .unset] [(.int (1 : Int32)), (.int x1)])) t
        refine XS.icmpNo X0.here hx rfl (hb hby at_33) rfl (teq c18).2 ?_
        show Steps p.tables e below (s₁.setTop (mkF m 36 #[.val (.long q1), .second, .val (.int p2), .val (.int p3), .val (.int x1), .unset, .unset, .unset, .unset] [])) t
        refine XS.iloadN X0.here hx rfl (hb hby at_36) rfl ?_
        show Steps p.tables e below (s₁.setTop (mkF m 37 #[.val (.long q1), .second, .val (.int p2), .val (.int p3), .val (.int x1), .unset, .unset, .unset, .unset] [(.int p2)])) t
        refine XS.iconst X0.here hx rfl (hb hby at_37) ?_
        show Steps p.tables e below (s₁.setTop (mkF m 38 #[.val (.long q1), .second, .val (.int p2), .val (.int p3), .val (.int x1), .unset, .unset, .unset, .unset] [(.int (1 : Int32)), (.int p2)])) t
        refine XS.ior X0.here hx rfl (hb hby at_38) rfl ?_
        show Steps p.tables e below (s₁.setTop (mkF m 39 #[.val (.long q1), .second, .val (.int p2), .val (.int p3), .val (.int x1), .unset, .unset, .unset, .unset] [(.int (p2 ||| (1 : Int32)))])) t
        refine XS.istore X0.here hx rfl (hb hby at_39) rfl (l' := #[.val (.long q1), .second, .val (.int p2), .val (.int p3), .val (.int x1), .unset, .unset, .unset, .val (.int (p2 ||| (1 : Int32)))]) rfl ?_
        show Steps p.tables e below (s₁.setTop (mkF m 41 #[.val (.long q1), .second, .val (.int p2), .val (.int p3), .val (.int x1), .unset, .unset, .unset, .val (.int (p2 ||| (1 : Int32)))] [])) t
        refine XS.lloadN X0.here hx rfl (hb hby at_41) rfl ?_
        show Steps p.tables e below (s₁.setTop (mkF m 42 #[.val (.long q1), .second, .val (.int p2), .val (.int p3), .val (.int x1), .unset, .unset, .unset, .val (.int (p2 ||| (1 : Int32)))] [(.long q1)])) t
        refine XS.l2dS X0.here hx rfl (hb hby at_42) rfl rfl ?_
        show Steps p.tables e below (s₁.setTop (mkF m 43 #[.val (.long q1), .second, .val (.int p2), .val (.int p3), .val (.int x1), .unset, .unset, .unset, .val (.int (p2 ||| (1 : Int32)))] [(.double (FP.l2d q1))])) t
        refine XS.iload X0.here hx rfl (hb hby at_43) rfl ?_
        show Steps p.tables e below (s₁.setTop (mkF m 45 #[.val (.long q1), .second, .val (.int p2), .val (.int p3), .val (.int x1), .unset, .unset, .unset, .val (.int (p2 ||| (1 : Int32)))] [(.int (p2 ||| (1 : Int32))), (.double (FP.l2d q1))])) t
        refine XS.i2dS X0.here hx rfl (hb hby at_45) rfl rfl ?_
        show Steps p.tables e below (s₁.setTop (mkF m 46 #[.val (.long q1), .second, .val (.int p2), .val (.int p3), .val (.int x1), .unset, .unset, .unset, .val (.int (p2 ||| (1 : Int32)))] [(.double (FP.i2d (p2 ||| (1 : Int32)))), (.double (FP.l2d q1))])) t
        refine XS.ddivS X0.here hx rfl (hb hby at_46) rfl (own_nn1 _ _) rfl ?_
        show Steps p.tables e below (s₁.setTop (mkF m 47 #[.val (.long q1), .second, .val (.int p2), .val (.int p3), .val (.int x1), .unset, .unset, .unset, .val (.int (p2 ||| (1 : Int32)))] [(.double (FP.ddiv (FP.l2d q1) (FP.i2d (p2 ||| (1 : Int32)))))])) t
        refine XS.dstore X0.here hx rfl (hb hby at_47) rfl (l' := #[.val (.long q1), .second, .val (.int p2), .val (.int p3), .val (.int x1), .val (.double (FP.ddiv (FP.l2d q1) (FP.i2d (p2 ||| (1 : Int32))))), .second, .unset, .val (.int (p2 ||| (1 : Int32)))]) rfl ?_
        show Steps p.tables e below (s₁.setTop (mkF m 49 #[.val (.long q1), .second, .val (.int p2), .val (.int p3), .val (.int x1), .val (.double (FP.ddiv (FP.l2d q1) (FP.i2d (p2 ||| (1 : Int32))))), .second, .unset, .val (.int (p2 ||| (1 : Int32)))] [])) t
        refine XS.lloadN X0.here hx rfl (hb hby at_49) rfl ?_
        show Steps p.tables e below (s₁.setTop (mkF m 50 #[.val (.long q1), .second, .val (.int p2), .val (.int p3), .val (.int x1), .val (.double (FP.ddiv (FP.l2d q1) (FP.i2d (p2 ||| (1 : Int32))))), .second, .unset, .val (.int (p2 ||| (1 : Int32)))] [(.long q1)])) t
        refine XS.lconst X0.here hx rfl (hb hby at_50) ?_
        show Steps p.tables e below (s₁.setTop (mkF m 51 #[.val (.long q1), .second, .val (.int p2), .val (.int p3), .val (.int x1), .val (.double (FP.ddiv (FP.l2d q1) (FP.i2d (p2 ||| (1 : Int32))))), .second, .unset, .val (.int (p2 ||| (1 : Int32)))] [(.long (0 : Int64)), (.long q1)])) t
        refine XS.lcmp X0.here hx rfl (hb hby at_51) rfl ?_
        exact k)
      obtain ⟨v25, hv25, P26⟩ : ∃ (v25 : Int32), v25 = (if q1 = (0 : Int64) then (0 : Int32) else (if (0 : Int64) < q1 then (if (0 : Int32) < x19 then (1 : Int32) else (0 : Int32)) else (if (0 : Int32) < x19 then (0 : Int32) else (1 : Int32)))) ∧ Rch p e below (s₁.setTop (entryFrame m #[(.long q1), (.int p2), (.int p3)] maxLocals)) (s₁.setTop (mkF m 84 #[.val (.long q1), .second, .val (.int p2), .val (.int p3), .val (.int x1), .val (.double (FP.ddiv (FP.l2d q1) (FP.i2d (p2 ||| (1 : Int32))))), .second, .unset, .val (.int x19)] [(.int v25)])) := by
        by_cases c21 : q1 = (0 : Int64)
        · refine ⟨(0 : Int32), (by first | rw [if_pos c21] | simp only [if_pos c21] | rfl), fun t k => P20 t ?_⟩
          show Steps p.tables e below (s₁.setTop (mkF m 52 #[.val (.long q1), .second, .val (.int p2), .val (.int p3), .val (.int x1), .val (.double (FP.ddiv (FP.l2d q1) (FP.i2d (p2 ||| (1 : Int32))))), .second, .unset, .val (.int x19)] [(.int (lcmpW q1 (0 : Int64)))])) t
          refine XS.ifYes X0.here hx rfl (pc0 := 52) (pc' := 83) rfl (hb hby at_52) rfl ((if0 _ _).trans (teq ((lw_eq q1 (0 : Int64)).mpr c21)).1) (by decide) (by decide) ?_
          show Steps p.tables e below (s₁.setTop (mkF m 83 #[.val (.long q1), .second, .val (.int p2), .val (.int p3), .val (.int x1), .val (.double (FP.ddiv (FP.l2d q1) (FP.i2d (p2 ||| (1 : Int32))))), .second, .unset, .val (.int x19)] [])) t
          refine XS.iconst X0.here hx rfl (hb hby at_83) ?_
          exact k
        · by_cases c22 : (0 : Int64) < q1
          · by_cases c23 : (0 : Int32) < x19
            · refine ⟨(1 : Int32), (by first | rw [if_neg c21, if_pos c22, if_pos c23] | simp only [if_neg c21, if_pos c22, if_pos c23] | rfl), fun t k => P20 t ?_⟩
              show Steps p.tables e below (s₁.setTop (mkF m 52 #[.val (.long q1), .second, .val (.int p2), .val (.int p3), .val (.int x1), .val (.double (FP.ddiv (FP.l2d q1) (FP.i2d (p2 ||| (1 : Int32))))), .second, .unset, .val (.int x19)] [(.int (lcmpW q1 (0 : Int64)))])) t
              refine XS.ifNo X0.here hx rfl (hb hby at_52) rfl ((if0 _ _).trans (feq (fun q_ => c21 ((lw_eq q1 (0 : Int64)).mp q_))).1) ?_
              show Steps p.tables e below (s₁.setTop (mkF m 55 #[.val (.long q1), .second, .val (.int p2), .val (.int p3), .val (.int x1), .val (.double (FP.ddiv (FP.l2d q1) (FP.i2d (p2 ||| (1 : Int32))))), .second, .unset, .val (.int x19)] [])) t
              refine XS.lloadN X0.here hx rfl (hb hby at_55) rfl ?_
              show Steps p.tables e below (s₁.setTop (mkF m 56 #[.val (.long q1), .second, .val (.int p2), .val (.int p3), .val (.int x1), .val (.double (FP.ddiv (FP.l2d q1) (FP.i2d (p2 ||| (1 : Int32))))), .second, .unset, .val (.int x19)] [(.long q1)])) t
              refine XS.lconst X0.here hx rfl (hb hby at_56) ?_
              show Steps p.tables e below (s₁.setTop (mkF m 57 #[.val (.long q1), .second, .val (.int p2), .val (.int p3), .val (.int x1), .val (.double (FP.ddiv (FP.l2d q1) (FP.i2d (p2 ||| (1 : Int32))))), .second, .unset, .val (.int x19)] [(.long (0 : Int64)), (.long q1)])) t
              refine XS.lcmp X0.here hx rfl (hb hby at_57) rfl ?_
              show Steps p.tables e below (s₁.setTop (mkF m 58 #[.val (.long q1), .second, .val (.int p2), .val (.int p3), .val (.int x1), .val (.double (FP.ddiv (FP.l2d q1) (FP.i2d (p2 ||| (1 : Int32))))), .second, .unset, .val (.int x19)] [(.int (lcmpW q1 (0 : Int64)))])) t
              refine XS.ifNo X0.here hx rfl (hb hby at_58) rfl ((if0 _ _).trans (tlt ((lw_gt q1 (0 : Int64)).mpr c22)).2.2.2) ?_
              show Steps p.tables e below (s₁.setTop (mkF m 61 #[.val (.long q1), .second, .val (.int p2), .val (.int p3), .val (.int x1), .val (.double (FP.ddiv (FP.l2d q1) (FP.i2d (p2 ||| (1 : Int32))))), .second, .unset, .val (.int x19)] [])) t
              refine XS.iconst X0.here hx rfl (hb hby at_61) ?_
              show Steps p.tables e below (s₁.setTop (mkF m 62 #[.val (.long q1), .second, .val (.int p2), .val (.int p3), .val (.int x1), .val (.double (FP.ddiv (FP.l2d q1) (FP.i2d (p2 ||| (1 : Int32))))), .second, .unset, .val (.int x19)] [(.int (1 : Int32))])) t
              refine XS.goto X0.here hx rfl (pc0 := 62) (pc' := 66) rfl (hb hby at_62) (by decide) (by decide) ?_
              show Steps p.tables e below (s₁.setTop (mkF m 66 #[.val (.long q1), .second, .val (.int p2), .val (.int p3), .val (.int x1), .val (.double (FP.ddiv (FP.l2d q1) (FP.i2d (p2 ||| (1 : Int32))))), .second, .unset, .val (.int x19)] [(.int (1 : Int32))])) t
              refine XS.iload X0.here hx rfl (hb hby at_66) rfl ?_
              show Steps p.tables e below (s₁.setTop (mkF m 68 #[.val (.long q1), .second, .val (.int p2), .val (.int p3), .val (.int x1), .val (.double (FP.ddiv (FP.l2d q1) (FP.i2d (p2 ||| (1 : Int32))))), .second, .unset, .val (.int x19)] [(.int x19), (.int (1 : Int32))])) t
              refine XS.ifNo X0.here hx rfl (hb hby at_68) rfl ((if0 _ _).trans (tlt c23).2.2.2) ?_
              show Steps p.tables e below (s₁.setTop (mkF m 71 #[.val (.long q1), .second, .val (.int p2), .val (.int p3), .val (.int x1), .val (.double (FP.ddiv (FP.l2d q1) (FP.i2d (p2 ||| (1 : Int32))))), .second, .unset, .val (.int x19)] [(.int (1 : Int32))])) t
              refine XS.iconst X0.here hx rfl (hb hby at_71) ?_
              show Steps p.tables e below (s₁.setTop (mkF m 72 #[.val (.long q1), .second, .val (.int p2), .val (.int p3), .val (.int x1), .val (.double (FP.ddiv (FP.l2d q1) (FP.i2d (p2 ||| (1 : Int32))))), .second, .unset, .val (.int x19)] [(.int (1 : Int32)), (.int (1 : Int32))])) t
              refine XS.goto X0.here hx rfl (pc0 := 72) (pc' := 76) rfl (hb hby at_72) (by decide) (by decide) ?_
              show Steps p.tables e below (s₁.setTop (mkF m 76 #[.val (.long q1), .second, .val (.int p2), .val (.int p3), .val (.int x1), .val (.double (FP.ddiv (FP.l2d q1) (FP.i2d (p2 ||| (1 : Int32))))), .second, .unset, .val (.int x19)] [(.int (1 : Int32)), (.int (1 : Int32))])) t
              refine XS.icmpNo X0.here hx rfl (hb hby at_76) rfl (teq (by decide)).2 ?_
              show Steps p.tables e below (s₁.setTop (mkF m 79 #[.val (.long q1), .second, .val (.int p2), .val (.int p3), .val (.int x1), .val (.double (FP.ddiv (FP.l2d q1) (FP.i2d (p2 ||| (1 : Int32))))), .second, .unset, .val (.int x19)] [])) t
              refine XS.iconst X0.here hx rfl (hb hby at_79) ?_
              show Steps p.tables e below (s₁.setTop (mkF m 80 #[.val (.long q1), .second, .val (.int p2), .val (.int p3), .val (.int x1), .val (.double (FP.ddiv (FP.l2d q1) (FP.i2d (p2 ||| (1 : Int32))))), .second, .unset, .val (.int x19)] [(.int (1 : Int32))])) t
              refine XS.goto X0.here hx rfl (pc0 := 80) (pc' := 84) rfl (hb hby at_80) (by decide) (by decide) ?_
              exact k
            · refine ⟨(0 : Int32), (by first | rw [if_neg c21, if_pos c22, if_neg c23] | simp only [if_neg c21, if_pos c22, if_neg c23] | rfl), fun t k => P20 t ?_⟩
              show Steps p.tables e below (s₁.setTop (mkF m 52 #[.val (.long q1), .second, .val (.int p2), .val (.int p3), .val (.int x1), .val (.double (FP.ddiv (FP.l2d q1) (FP.i2d (p2 ||| (1 : Int32))))), .second, .unset, .val (.int x19)] [(.int (lcmpW q1 (0 : Int64)))])) t
              refine XS.ifNo X0.here hx rfl (hb hby at_52) rfl ((if0 _ _).trans (feq (fun q_ => c21 ((lw_eq q1 (0 : Int64)).mp q_))).1) ?_
              show Steps p.tables e below (s₁.setTop (mkF m 55 #[.val (.long q1), .second, .val (.int p2), .val (.int p3), .val (.int x1), .val (.double (FP.ddiv (FP.l2d q1) (FP.i2d (p2 ||| (1 : Int32))))), .second, .unset, .val (.int x19)] [])) t
              refine XS.lloadN X0.here hx rfl (hb hby at_55) rfl ?_
              show Steps p.tables e below (s₁.setTop (mkF m 56 #[.val (.long q1), .second, .val (.int p2), .val (.int p3), .val (.int x1), .val (.double (FP.ddiv (FP.l2d q1) (FP.i2d (p2 ||| (1 : Int32))))), .second, .unset, .val (.int x19)] [(.long q1)])) t
              refine XS.lconst X0.here hx rfl (hb hby at_56) ?_
              show Steps p.tables e below (s₁.setTop (mkF m 57 #[.val (.long q1), .second, .val (.int p2), .val (.int p3), .val (.int x1), .val (.double (FP.ddiv (FP.l2d q1) (FP.i2d (p2 ||| (1 : Int32))))), .second, .unset, .val (.int x19)] [(.long (0 : Int64)), (.long q1)])) t
              refine XS.lcmp X0.here hx rfl (hb hby at_57) rfl ?_
              show Steps p.tables e below (s₁.setTop (mkF m 58 #[.val (.long q1), .second, .val (.int p2), .val (.int p3), .val (.int x1), .val (.double (FP.ddiv (FP.l2d q1) (FP.i2d (p2 ||| (1 : Int32))))), .second, .unset, .val (.int x19)] [(.int (lcmpW q1 (0 : Int64)))])) t
              refine XS.ifNo X0.here hx rfl (hb hby at_58) rfl ((if0 _ _).trans (tlt ((lw_gt q1 (0 : Int64)).mpr c22)).2.2.2) ?_
              show Steps p.tables e below (s₁.setTop (mkF m 61 #[.val (.long q1), .second, .val (.int p2), .val (.int p3), .val (.int x1), .val (.double (FP.ddiv (FP.l2d q1) (FP.i2d (p2 ||| (1 : Int32))))), .second, .unset, .val (.int x19)] [])) t
              refine XS.iconst X0.here hx rfl (hb hby at_61) ?_
              show Steps p.tables e below (s₁.setTop (mkF m 62 #[.val (.long q1), .second, .val (.int p2), .val (.int p3), .val (.int x1), .val (.double (FP.ddiv (FP.l2d q1) (FP.i2d (p2 ||| (1 : Int32))))), .second, .unset, .val (.int x19)] [(.int (1 : Int32))])) t
              refine XS.goto X0.here hx rfl (pc0 := 62) (pc' := 66) rfl (hb hby at_62) (by decide) (by decide) ?_
              show Steps p.tables e below (s₁.setTop (mkF m 66 #[.val (.long q1), .second, .val (.int p2), .val (.int p3), .val (.int x1), .val (.double (FP.ddiv (FP.l2d q1) (FP.i2d (p2 ||| (1 : Int32))))), .second, .unset, .val (.int x19)] [(.int (1 : Int32))])) t
              refine XS.iload X0.here hx rfl (hb hby at_66) rfl ?_
              show Steps p.tables e below (s₁.setTop (mkF m 68 #[.val (.long q1), .second, .val (.int p2), .val (.int p3), .val (.int x1), .val (.double (FP.ddiv (FP.l2d q1) (FP.i2d (p2 ||| (1 : Int32))))), .second, .unset, .val (.int x19)] [(.int x19), (.int (1 : Int32))])) t
              refine XS.ifYes X0.here hx rfl (pc0 := 68) (pc' := 75) rfl (hb hby at_68) rfl ((if0 _ _).trans (flt c23).2.2.2) (by decide) (by decide) ?_
              show Steps p.tables e below (s₁.setTop (mkF m 75 #[.val (.long q1), .second, .val (.int p2), .val (.int p3), .val (.int x1), .val (.double (FP.ddiv (FP.l2d q1) (FP.i2d (p2 ||| (1 : Int32))))), .second, .unset, .val (.int x19)] [(.int (1 : Int32))])) t
              refine XS.iconst X0.here hx rfl (hb hby at_75) ?_
              show Steps p.tables e below (s₁.setTop (mkF m 76 #[.val (.long q1), .second, .val (.int p2), .val (.int p3), .val (.int x1), .val (.double (FP.ddiv (FP.l2d q1) (FP.i2d (p2 ||| (1 : Int32))))), .second, .unset, .val (.int x19)] [(.int (0 : Int32)), (.int (1 : Int32))])) t
              refine XS.icmpYes X0.here hx rfl (pc0 := 76) (pc' := 83) rfl (hb hby at_76) rfl (feq (by decide)).2 (by decide) (by decide) ?_
              show Steps p.tables e below (s₁.setTop (mkF m 83 #[.val (.long q1), .second, .val (.int p2), .val (.int p3), .val (.int x1), .val (.double (FP.ddiv (FP.l2d q1) (FP.i2d (p2 ||| (1 : Int32))))), .second, .unset, .val (.int x19)] [])) t
              refine XS.iconst X0.here hx rfl (hb hby at_83) ?_
              exact k
          · by_cases c24 : (0 : Int32) < x19
            · refine ⟨(0 : Int32), (by first | rw [if_neg c21, if_neg c22, if_pos c24] | simp only [if_neg c21, if_neg c22, if_pos c24] | rfl), fun t k => P20 t ?_⟩
              show Steps p.tables e below (s₁.setTop (mkF m 52 #[.val (.long q1), .second, .val (.int p2), .val (.int p3), .val (.int x1), .val (.double (FP.ddiv (FP.l2d q1) (FP.i2d (p2 ||| (1 : Int32))))), .second, .unset, .val (.int x19)] [(.int (lcmpW q1 (0 : Int64)))])) t
              refine XS.ifNo X0.here hx rfl (hb hby at_52) rfl ((if0 _ _).trans (feq (fun q_ => c21 ((lw_eq q1 (0 : Int64)).mp q_))).1) ?_
              show Steps p.tables e below (s₁.setTop (mkF m 55 #[.val (.long q1), .second, .val (.int p2), .val (.int p3), .val (.int x1), .val (.double (FP.ddiv (FP.l2d q1) (FP.i2d (p2 ||| (1 : Int32))))), .second, .unset, .val (.int x19)] [])) t
              refine XS.lloadN X0.here hx rfl (hb hby at_55) rfl ?_
              show Steps p.tables e below (s₁.setTop (mkF m 56 #[.val (.long q1), .second, .val (.int p2), .val (.int p3), .val (.int x1), .val (.double (FP.ddiv (FP.l2d q1) (FP.i2d (p2 ||| (1 : Int32))))), .second, .unset, .val (.int x19)] [(.long q1)])) t
              refine XS.lconst X0.here hx rfl (hb hby at_56) ?_
              show Steps p.tables e below (s₁.setTop (mkF m 57 #[.val (.long q1), .second, .val (.int p2), .val (.int p3), .val (.int x1), .val (.double (FP.ddiv (FP.l2d q1) (FP.i2d (p2 ||| (1 : Int32))))), .second, .unset, .val (.int x19)] [(.long (0 : Int64)), (.long q1)])) t
              refine XS.lcmp X0.here hx rfl (hb hby at_57) rfl ?_
              show Steps p.tables e below (s₁.setTop (mkF m 58 #[.val (.long q1), .second, .val (.int p2), .val (.int p3), .val (.int x1), .val (.double (FP.ddiv (FP.l2d q1) (FP.i2d (p2 ||| (1 : Int32))))), .second, .unset, .val (.int x19)] [(.int (lcmpW q1 (0 : Int64)))])) t
              refine XS.ifYes X0.here hx rfl (pc0 := 58) (pc' := 65) rfl (hb hby at_58) rfl ((if0 _ _).trans (flt (fun q_ => c22 ((lw_gt q1 (0 : Int64)).mp q_))).2.2.2) (by decide) (by decide) ?_
              show Steps p.tables e below (s₁.setTop (mkF m 65 #[.val (.long q1), .second, .val (.int p2), .val (.int p3), .val (.int x1), .val (.double (FP.ddiv (FP.l2d q1) (FP.i2d (p2 ||| (1 : Int32))))), .second, .unset, .val (.int x19)] [])) t
              refine XS.iconst X0.here hx rfl (hb hby at_65) ?_
              show Steps p.tables e below (s₁.setTop (mkF m 66 #[.val (.long q1), .second, .val (.int p2), .val (.int p3), .val (.int x1), .val (.double (FP.ddiv (FP.l2d q1) (FP.i2d (p2 ||| (1 : Int32))))), .second, .unset, .val (.int x19)] [(.int (0 : Int32))])) t
              refine XS.iload X0.here hx rfl (hb hby at_66) rfl ?_
              show Steps p.tables e below (s₁.setTop (mkF m 68 #[.val (.long q1), .second, .val (.int p2), .val (.int p3), .val (.int x1), .val (.double (FP.ddiv (FP.l2d q1) (FP.i2d (p2 ||| (1 : Int32))))), .second, .unset, .val (.int x19)] [(.int x19), (.int (0 : Int32))])) t
              refine XS.ifNo X0.here hx rfl (hb hby at_68) rfl ((if0 _ _).trans (tlt c24).2.2.2) ?_
              show Steps p.tables e below (s₁.setTop (mkF m 71 #[.val (.long q1), .second, .val (.int p2), .val (.int p3), .val (.int x1), .val (.double (FP.ddiv (FP.l2d q1) (FP.i2d (p2 ||| (1 : Int32))))), .second, .unset, .val (.int x19)] [(.int (0 : Int32))])) t
              refine XS.iconst X0.here hx rfl (hb hby at_71) ?_
              show Steps p.tables e below (s₁.setTop (mkF m 72 #[.val (.long q1), .second, .val (.int p2), .val (.int p3), .val (.int x1), .val (.double (FP.ddiv (FP.l2d q1) (FP.i2d (p2 ||| (1 : Int32))))), .second, .unset, .val (.int x19)] [(.int (1 : Int32)), (.int (0 : Int32))])) t
              refine XS.goto X0.here hx rfl (pc0 := 72) (pc' := 76) rfl (hb hby at_72) (by decide) (by decide) ?_
              show Steps p.tables e below (s₁.setTop (mkF m 76 #[.val (.long q1), .second, .val (.int p2), .val (.int p3), .val (.int x1), .val (.double (FP.ddiv (FP.l2d q1) (FP.i2d (p2 ||| (1 : Int32))))), .second, .unset, .val (.int x19)] [(.int (1 : Int32)), (.int (0 : Int32))])) t
              refine XS.icmpYes X0.here hx rfl (pc0 := 76) (pc' := 83) rfl (hb hby at_76) rfl (feq (by decide)).2 (by decide) (by decide) ?_
              show Steps p.tables e below (s₁.setTop (mkF m 83 #[.val (.long q1), .second, .val (.int p2), .val (.int p3), .val (.int x1), .val (.double (FP.ddiv (FP.l2d q1) (FP.i2d (p2 ||| (1 : Int32))))), .second, .unset, .val (.int x19)] [])) t
              refine XS.iconst X0.here hx rfl (hb hby at_83) ?_
              exact k
            · refine ⟨(1 : Int32), (by first | rw [if_neg c21, if_neg c22, if_neg c24] | simp only [if_neg c21, if_neg c22, if_neg c24] | rfl), fun t k => P20 t ?_⟩
              show Steps p.tables e below (s₁.setTop (mkF m 52 #[.val (.long q1), .second, .val (.int p2), .val (.int p3), .val (.int x1), .val (.double (FP.ddiv (FP.l2d q1) (FP.i2d (p2 ||| (1 : Int32))))), .second, .unset, .val (.int x19)] [(.int (lcmpW q1 (0 : Int64)))])) t
              refine XS.ifNo X0.here hx rfl (hb hby at_52) rfl ((if0 _ _).trans (feq (fun q_ => c21 ((lw_eq q1 (0 : Int64)).mp q_))).1) ?_
              show Steps p.tables e below (s₁.setTop (mkF m 55 #[.val (.long q1), .second, .val (.int p2), .val (.int p3), .val (.int x1), .val (.double (FP.ddiv (FP.l2d q1) (FP.i2d (p2 ||| (1 : Int32))))), .second, .unset, .val (.int x19)] [])) t
              refine XS.lloadN X0.here hx rfl (hb hby at_55) rfl ?_
              show Steps p.tables e below (s₁.setTop (mkF m 56 #[.val (.long q1), .second, .val (.int p2), .val (.int p3), .val (.int x1), .val (.double (FP.ddiv (FP.l2d q1) (FP.i2d (p2 ||| (1 : Int32))))), .second, .unset, .val (.int x19)] [(.long q1)])) t
              refine XS.lconst X0.here hx rfl (hb hby at_56) ?_
              show Steps p.tables e below (s₁.setTop (mkF m 57 #[.val (.long q1), .second, .val (.int p2), .val (.int p3), .val (.int x1), .val (.double (FP.ddiv (FP.l2d q1) (FP.i2d (p2 ||| (1 : Int32))))), .second, .unset, .val (.int x19)] [(.long (0 : Int64)), (.long q1)])) t
              refine XS.lcmp X0.here hx rfl (hb hby at_57) rfl ?_
              show Steps p.tables e below (s₁.setTop (mkF m 58 #[.val (.long q1), .second, .val (.int p2), .val (.int p3), .val (.int x1), .val (.double (FP.ddiv (FP.l2d q1) (FP.i2d (p2 ||| (1 : Int32))))), .second, .unset, .val (.int x19)] [(.int (lcmpW q1 (0 : Int64)))])) t
              refine XS.ifYes X0.here hx rfl (pc0 := 58) (pc' := 65) rfl (hb hby at_58) rfl ((if0 _ _).trans (flt (fun q_ => c22 ((lw_gt q1 (0 : Int64)).mp q_))).2.2.2) (by decide) (by decide) ?_
              show Steps p.tables e below (s₁.setTop (mkF m 65 #[.val (.long q1), .second, .val (.int p2), .val (.int p3), .val (.int x1), .val (.double (FP.ddiv (FP.l2d q1) (FP.i2d (p2 ||| (1 : Int32))))), .second, .unset, .val (.int x19)] [])) t
              refine XS.iconst X0.here hx rfl (hb hby at_65) ?_
              show Steps p.tables e below (s₁.setTop (mkF m 66 #[.val (.long q1), .second, .val (.int p2), .val (.int p3), .val (.int x1), .val (.double (FP.ddiv (FP.l2d q1) (FP.i2d (p2 ||| (1 : Int32))))), .second, .unset, .val (.int x19)] [(.int (0 : Int32))])) t
              refine XS.iload X0.here hx rfl (hb hby at_66) rfl ?_
              show Steps p.tables e below (s₁.setTop (mkF m 68 #[.val (.long q1), .second, .val (.int p2), .val (.int p3), .val (.int x1), .val (.double (FP.ddiv (FP.l2d q1) (FP.i2d (p2 ||| (1 : Int32))))), .second, .unset, .val (.int x19)] [(.int x19), (.int (0 : Int32))])) t
              refine XS.ifYes X0.here hx rfl (pc0 := 68) (pc' := 75) rfl (hb hby at_68) rfl ((if0 _ _).trans (flt c24).2.2.2) (by decide) (by decide) ?_
              show Steps p.tables e below (s₁.setTop (mkF m 75 #[.val (.long q1), .second, .val (.int p2), .val (.int p3), .val (.int x1), .val (.double (FP.ddiv (FP.l2d q1) (FP.i2d (p2 ||| (1 : Int32))))), .second, .unset, .val (.int x19)] [(.int (0 : Int32))])) t
              refine XS.iconst X0.here hx rfl (hb hby at_75) ?_
              show Steps p.tables e below (s₁.setTop (mkF m 76 #[.val (.long q1), .second, .val (.int p2), .val (.int p3), .val (.int x1), .val (.double (FP.ddiv (FP.l2d q1) (FP.i2d (p2 ||| (1 : Int32))))), .second, .unset, .val (.int x19)] [(.int (0 : Int32)), (.int (0 : Int32))])) t
              refine XS.icmpNo X0.here hx rfl (hb hby at_76) rfl (teq (by decide)).2 ?_
              show Steps p.tables e below (s₁.setTop (mkF m 79 #[.val (.long q1), .second, .val (.int p2), .val (.int p3), .val (.int x1), .val (.double (FP.ddiv (FP.l2d q1) (FP.i2d (p2 ||| (1 : Int32))))), .second, .unset, .val (.int x19)] [])) t
              refine XS.iconst X0.here hx rfl (hb hby at_79) ?_
              show Steps p.tables e below (s₁.setTop (mkF m 80 #[.val (.long q1), .second, .val (.int p2), .val (.int p3), .val (.int x1), .val (.double (FP.ddiv (FP.l2d q1) (FP.i2d (p2 ||| (1 : Int32))))), .second, .unset, .val (.int x19)] [(.int (1 : Int32))])) t
              refine XS.goto X0.here hx rfl (pc0 := 80) (pc' := 84) rfl (hb hby at_80) (by decide) (by decide) ?_
              exact k
      have P27 : Rch p e below (s₁.setTop (entryFrame m #[(.long q1), (.int p2), (.int p3)] maxLocals)) (s₁.setTop (mkF m 140 #[.val (.long q1), .second, .val (.int p2), .val (.int p3), .val (.int x1), .val (.double (FP.ddiv (FP.l2d q1) (FP.i2d (p2 ||| (1 : Int32))))), .second, .val (.int v25), .val (.int x19)] [(.double (FP.ddiv (FP.l2d q1) (FP.i2d (p2 ||| (1 : Int32)))))])) := fun t k => P26 t (by
        show Steps p.tables e below (s₁.setTop (mkF m 84 #[.val (.long q1), .second, .val (.int p2), .val (.int p3), .val (.int x1), .val (.double (FP.ddiv (FP.l2d q1) (FP.i2d (p2 ||| (1 : Int32))))), .second, .unset, .val (.int x19)] [(.int v25)])) t
        refine XS.istore X0.here hx rfl (hb hby at_84) rfl (l' := #[.val (.long q1), .second, .val (.int p2), .val (.int p3), .val (.int x1), .val (.double (FP.ddiv (FP.l2d q1) (FP.i2d (p2 ||| (1 : Int32))))), .second, .val (.int v25), .val (.int x19)]) rfl ?_
        show Steps p.tables e below (s₁.setTop (mkF m 86 #[.val (.long q1), .second, .val (.int p2), .val (.int p3), .val (.int x1), .val (.double (FP.ddiv (FP.l2d q1) (FP.i2d (p2 ||| (1 : Int32))))), .second, .val (.int v25), .val (.int x19)] [])) t
        refine XS.goto X0.here hx rfl (pc0 := 86) (pc' := 138) rfl (hb hby at_86) (by decide) (by decide) ?_
        show Steps p.tables e below (s₁.setTop (mkF m 138 #[.val (.long q1), .second, .val (.int p2), .val (.int p3), .val (.int x1), .val (.double (FP.ddiv (FP.l2d q1) (FP.i2d (p2 ||| (1 : Int32))))), .second, .val (.int v25), .val (.int x19)] [])) t
        refine XS.dload X0.here hx rfl (hb hby at_138) rfl ?_
        exact k)
      obtain ⟨_, _, ⟨T28, L28, k28, n28⟩, -, X28, ⟨Lc28, hQ28, l28, y28, z28⟩, st28⟩ := Jvm.LawKit.callS X0 hx (y := (⟨"com/example/kinhash/kinhash/BitVote", "isWeight", "(D)Z"⟩ : MethodName)) hown (mvT hZ (hw _ (List.mem_of_getElem? (i := 0) rfl))) (mvT hZ (hw _ (List.mem_of_getElem? (i := 1) rfl))) (mvT hZ (hw _ (List.mem_of_getElem? (i := 2) rfl))) (mvT hZ (hw _ (List.mem_of_getElem? (i := 3) rfl))) (by decide) (backOf (W := 0) (rmW l Z a0 hw [] (FP.ddiv (FP.l2d q1) (FP.i2d (p2 ||| (1 : Int32)))) h0 n0 Z0 ) hZ (hw _ (List.mem_of_getElem? (i := 3) rfl)) (hw _ (List.mem_of_getElem? (i := 2) rfl)) (by decide) (by decide)) (g := (mkF m 140 #[.val (.long q1), .second, .val (.int p2), .val (.int p3), .val (.int x1), .val (.double (FP.ddiv (FP.l2d q1) (FP.i2d (p2 ||| (1 : Int32))))), .second, .val (.int v25), .val (.int x19)] [(.double (FP.ddiv (FP.l2d q1) (FP.i2d (p2 ||| (1 : Int32)))))])) rfl (by rw [hml]; rfl) (argsL := [(.double (FP.ddiv (FP.l2d q1) (FP.i2d (p2 ||| (1 : Int32)))))]) (rest := []) (lenOf pd_0 rfl) rfl (by show 2 * 0 + _ ≤ _; exact Nat.le_of_eq rfl) (hb hby at_140) (fun _ _ => ⟨rfl, e0, (by decide : 0 + 0 ≤ _), (by decide : 0 + 0 ≤ _)⟩)
      dsimp only [Pt.U, Pt.locs, Pt.cells, Pt.slots] at X28 l28 y28 z28 st28 hQ28
      subst y28 z28
      obtain ⟨rfl, N28q, e28⟩ := hQ28
      have N28 : Fr n0 L28 := by rw [l28]; exact Fr.app N0 N28q
      have P29 : Rch p e below (s₁.setTop (entryFrame m #[(.long q1), (.int p2), (.int p3)] maxLocals)) (T28.setTop (mkF m 143 #[.val (.long q1), .second, .val (.int p2), .val (.int p3), .val (.int x1), .val (.double (FP.ddiv (FP.l2d q1) (FP.i2d (p2 ||| (1 : Int32))))), .second, .val (.int v25), .val (.int x19)] [(.int (own_iw (FP.ddiv (FP.l2d q1) (FP.i2d (p2 ||| (1 : Int32))))))])) := fun t k => P27 t (st28 t k)
      obtain ⟨x30, hx30⟩ : ∃ z : Int32, z = (own_iw (FP.ddiv (FP.l2d q1) (FP.i2d (p2 ||| (1 : Int32))))) := ⟨_, rfl⟩
      rw [← hx30] at P29
      have P31 : Rch p e below (s₁.setTop (entryFrame m #[(.long q1), (.int p2), (.int p3)] maxLocals)) (T28.setTop (mkF m 145 #[.val (.long q1), .second, .val (.int p2), .val (.int p3), .val (.int x1), .val (.double (FP.ddiv (FP.l2d q1) (FP.i2d (p2 ||| (1 : Int32))))), .second, .val (.int v25), .val (.int x19)] [(.int v25), (.int x30)])) := fun t k => P29 t (by
        show Steps p.tables e below (T28.setTop (mkF m 143 #[.val (.long q1), .second, .val (.int p2), .val (.int p3), .val (.int x1), .val (.double (FP.ddiv (FP.l2d q1) (FP.i2d (p2 ||| (1 : Int32))))), .second, .val (.int v25), .val (.int x19)] [(.int x30)])) t
        refine XS.iload X28.here hx rfl (hb hby at_143) rfl ?_
        exact k)
      obtain ⟨v33, hv33, P34⟩ : ∃ (v33 : Int32), v33 = (if x30 = v25 then (1 : Int32) else (0 : Int32)) ∧ Rch p e below (s₁.setTop (entryFrame m #[(.long q1), (.int p2), (.int p3)] maxLocals)) (T28.setTop (mkF m 153 #[.val (.long q1), .second, .val (.int p2), .val (.int p3), .val (.int x1), .val (.double (FP.ddiv (FP.l2d q1) (FP.i2d (p2 ||| (1 : Int32))))), .second, .val (.int v25), .val (.int x19)] [(.int v33)])) := by
        by_cases c32 : x30 = v25
        · refine ⟨(1 : Int32), (by first | rw [if_pos c32] | simp only [if_pos c32] | rfl), fun t k => P31 t ?_⟩
          show Steps p.tables e below (T28.setTop (mkF m 145 #[.val (.long q1), .second, .val (.int p2), .val (.int p3), .val (.int x1), .val (.double (FP.ddiv (FP.l2d q1) (FP.i2d (p2 ||| (1 : Int32))))), .second, .val (.int v25), .val (.int x19)] [(.int v25), (.int x30)])) t
          refine XS.icmpNo X28.here hx rfl (hb hby at_145) rfl (teq c32).2 ?_
          show Steps p.tables e below (T28.setTop (mkF m 148 #[.val (.long q1), .second, .val (.int p2), .val (.int p3), .val (.int x1), .val (.double (FP.ddiv (FP.l2d q1) (FP.i2d (p2 ||| (1 : Int32))))), .second, .val (.int v25), .val (.int x19)] [])) t
          refine XS.iconst X28.here hx rfl (hb hby at_148) ?_
          show Steps p.tables e below (T28.setTop (mkF m 149 #[.val (.long q1), .second, .val (.int p2), .val (.int p3), .val (.int x1), .val (.double (FP.ddiv (FP.l2d q1) (FP.i2d (p2 ||| (1 : Int32))))), .second, .val (.int v25), .val (.int x19)] [(.int (1 : Int32))])) t
          refine XS.goto X28.here hx rfl (pc0 := 149) (pc' := 153) rfl (hb hby at_149) (by decide) (by decide) ?_
          exact k
        · refine ⟨(0 : Int32), (by first | rw [if_neg c32] | simp only [if_neg c32] | rfl), fun t k => P31 t ?_⟩
          show Steps p.tables e below (T28.setTop (mkF m 145 #[.val (.long q1), .second, .val (.int p2), .val (.int p3), .val (.int x1), .val (.double (FP.ddiv (FP.l2d q1) (FP.i2d (p2 ||| (1 : Int32))))), .second, .val (.int v25), .val (.int x19)] [(.int v25), (.int x30)])) t
          refine XS.icmpYes X28.here hx rfl (pc0 := 145) (pc' := 152) rfl (hb hby at_145) rfl (feq c32).2 (by decide) (by decide) ?_
          show Steps p.tables e below (T28.setTop (mkF m 152 #[.val (.long q1), .second, .val (.int p2), .val (.int p3), .val (.int x1), .val (.double (FP.ddiv (FP.l2d q1) (FP.i2d (p2 ||| (1 : Int32))))), .second, .val (.int v25), .val (.int x19)] [])) t
          refine XS.iconst X28.here hx rfl (hb hby at_152) ?_
          exact k
      have hfin : v33 = (1 : Int32) := by
        subst hv33 hx30 hv25 hx19 hx1
        exact if_pos (own_law1 q1 p2)
      have P35 : Rch p e below (s₁.setTop (entryFrame m #[(.long q1), (.int p2), (.int p3)] maxLocals)) (T28.setTop (mkF m 153 #[.val (.long q1), .second, .val (.int p2), .val (.int p3), .val (.int x1), .val (.double (FP.ddiv (FP.l2d q1) (FP.i2d (p2 ||| (1 : Int32))))), .second, .val (.int v25), .val (.int x19)] [(.int (1 : Int32))])) := by have q_ := P34; rw [hfin] at q_; exact q_
      obtain ⟨fs, hr, hrun, hended, hW, hsame⟩ := X28.leave (v := some (.int (1 : Int32))) (fun h => by rw [Bd.returns] at h; cases h)
      refine ⟨_, _, P35 _ ?_, hrun, hended, _, _, rfl, ?_, ⟨_, rfl⟩, hW, hsame.mono (by decide) (by decide)⟩
      · exact retN X28 hx (t := .boolean) Bd.returns (by simp) (hb hby at_153) hr
      · show Q_rm0 Z q1 p2 p3 h0 n0 _ T28.heap _
        rw [e28]
        exact ⟨rfl, N28⟩
    · have P36 : Rch p e below (s₁.setTop (entryFrame m #[(.long q1), (.int p2), (.int p3)] maxLocals)) (s₁.setTop (mkF m 92 #[.val (.long q1), .second, .val (.int p2), .val (.int p3), .val (.int x1), .unset, .unset, .unset, .unset] [(.int (2 : Int32)), (.int x1)])) := fun t k => P17 t (by
        show Steps p.tables e below (s₁.setTop (mkF m 33 #[.val (.long q1), .second, .val (.int p2), .val (.int p3), .val (.int x1), .unset, .unset, .unset, .unset] [(.int (1 : Int32)), (.int x1)])) t
        refine XS.icmpYes X0.here hx rfl (pc0 := 33) (pc' := 89) rfl (hb hby at_33) rfl (feq c18).2 (by decide) (by decide) ?_
        show Steps p.tables e below (s₁.setTop (mkF m 89 #[.val (.long q1), .second, .val (.int p2), .val (.int p3), .val (.int x1), .unset, .unset, .unset, .unset] [])) t
        refine XS.iload X0.here hx rfl (hb hby at_89) rfl ?_
        show Steps p.tables e below (s₁.setTop (mkF m 91 #[.val (.long q1), .second, .val (.int p2), .val (.int p3), .val (.int x1), .unset, .unset, .unset, .unset] [(.int x1)])) t
        refine XS.iconst X0.here hx rfl (hb hby at_91) ?_
        exact k)
      by_cases c37 : x1 = (2 : Int32)
      · have P38 : Rch p e below (s₁.setTop (entryFrame m #[(.long q1), (.int p2), (.int p3)] maxLocals)) (s₁.setTop (mkF m 140 #[.val (.long q1), .second, .val (.int p2), .val (.int p3), .val (.int x1), .val (.double (FP.dmul (FP.dmul (FP.l2d q1) (9094988921128908188 : UInt64)) (9094988921128908188 : UInt64))), .second, .val (.int (0 : Int32)), .unset] [(.double (FP.dmul (FP.dmul (FP.l2d q1) (9094988921128908188 : UInt64)) (9094988921128908188 : UInt64)))])) := fun t k => P36 t (by
          show Steps p.tables e below (s₁.setTop (mkF m 92 #[.val (.long q1), .second, .val (.int p2), .val (.int p3), .val (.int x1), .unset, .unset, .unset, .unset] [(.int (2 : Int32)), (.int x1)])) t
          refine XS.icmpNo X0.here hx rfl (hb hby at_92) rfl (teq c37).2 ?_
          show Steps p.tables e below (s₁.setTop (mkF m 95 #[.val (.long q1), .second, .val (.int p2), .val (.int p3), .val (.int x1), .unset, .unset, .unset, .unset] [])) t
          refine XS.lloadN X0.here hx rfl (hb hby at_95) rfl ?_
          show Steps p.tables e below (s₁.setTop (mkF m 96 #[.val (.long q1), .second, .val (.int p2), .val (.int p3), .val (.int x1), .unset, .unset, .unset, .unset] [(.long q1)])) t
          refine XS.l2dS X0.here hx rfl (hb hby at_96) rfl rfl ?_
          show Steps p.tables e below (s₁.setTop (mkF m 97 #[.val (.long q1), .second, .val (.int p2), .val (.int p3), .val (.int x1), .unset, .unset, .unset, .unset] [(.double (FP.l2d q1))])) t
          refine X0.ldc2DoubleC hx hown (mvT hZ (hw _ (List.mem_of_getElem? (i := 7) rfl))) (g := (mkF m 97 #[.val (.long q1), .second, .val (.int p2), .val (.int p3), .val (.int x1), .unset, .unset, .unset, .unset] [(.double (FP.l2d q1))])) rfl (hb hby at_97) _ ?_
          show Steps p.tables e below (s₁.setTop (mkF m 100 #[.val (.long q1), .second, .val (.int p2), .val (.int p3), .val (.int x1), .unset, .unset, .unset, .unset] [(.double (9094988921128908188 : UInt64)), (.double (FP.l2d q1))])) t
          refine XS.dmulS X0.here hx rfl (hb hby at_100) rfl (own_nn2 _) rfl ?_
          show Steps p.tables e below (s₁.setTop (mkF m 101 #[.val (.long q1), .second, .val (.int p2), .val (.int p3), .val (.int x1), .unset, .unset, .unset, .unset] [(.double (FP.dmul (FP.l2d q1) (9094988921128908188 : UInt64)))])) t
          refine X0.ldc2DoubleC hx hown (mvT hZ (hw _ (List.mem_of_getElem? (i := 7) rfl))) (g := (mkF m 101 #[.val (.long q1), .second, .val (.int p2), .val (.int p3), .val (.int x1), .unset, .unset, .unset, .unset] [(.double (FP.dmul (FP.l2d q1) (9094988921128908188 : UInt64)))])) rfl (hb hby at_101) _ ?_
          show Steps p.tables e below (s₁.setTop (mkF m 104 #[.val (.long q1), .second, .val (.int p2), .val (.int p3), .val (.int x1), .unset, .unset, .unset, .unset] [(.double (9094988921128908188 : UInt64)), (.double (FP.dmul (FP.l2d q1) (9094988921128908188 : UInt64)))])) t
          refine XS.dmulS X0.here hx rfl (hb hby at_104) rfl (own_nn3 _) rfl ?_
          show Steps p.tables e below (s₁.setTop (mkF m 105 #[.val (.long q1), .second, .val (.int p2), .val (.int p3), .val (.int x1), .unset, .unset, .unset, .unset] [(.double (FP.dmul (FP.dmul (FP.l2d q1) (9094988921128908188 : UInt64)) (9094988921128908188 : UInt64)))])) t
          refine XS.dstore X0.here hx rfl (hb hby at_105) rfl (l' := #[.val (.long q1), .second, .val (.int p2), .val (.int p3), .val (.int x1), .val (.double (FP.dmul (FP.dmul (FP.l2d q1) (9094988921128908188 : UInt64)) (9094988921128908188 : UInt64))), .second, .unset, .unset]) rfl ?_
          show Steps p.tables e below (s₁.setTop (mkF m 107 #[.val (.long q1), .second, .val (.int p2), .val (.int p3), .val (.int x1), .val (.double (FP.dmul (FP.dmul (FP.l2d q1) (9094988921128908188 : UInt64)) (9094988921128908188 : UInt64))), .second, .unset, .unset] [])) t
          refine XS.iconst X0.here hx rfl (hb hby at_107) ?_
          show Steps p.tables e below (s₁.setTop (mkF m 108 #[.val (.long q1), .second, .val (.int p2), .val (.int p3), .val (.int x1), .val (.double (FP.dmul (FP.dmul (FP.l2d q1) (9094988921128908188 : UInt64)) (9094988921128908188 : UInt64))), .second, .unset, .unset] [(.int (0 : Int32))])) t
          refine XS.istore X0.here hx rfl (hb hby at_108) rfl (l' := #[.val (.long q1), .second, .val (.int p2), .val (.int p3), .val (.int x1), .val (.double (FP.dmul (FP.dmul (FP.l2d q1) (9094988921128908188 : UInt64)) (9094988921128908188 : UInt64))), .second, .val (.int (0 : Int32)), .unset]) rfl ?_
          show Steps p.tables e below (s₁.setTop (mkF m 110 #[.val (.long q1), .second, .val (.int p2), .val (.int p3), .val (.int x1), .val (.double (FP.dmul (FP.dmul (FP.l2d q1) (9094988921128908188 : UInt64)) (9094988921128908188 : UInt64))), .second, .val (.int (0 : Int32)), .unset] [])) t
          refine XS.goto X0.here hx rfl (pc0 := 110) (pc' := 138) rfl (hb hby at_110) (by decide) (by decide) ?_
          show Steps p.tables e below (s₁.setTop (mkF m 138 #[.val (.long q1), .second, .val (.int p2), .val (.int p3), .val (.int x1), .val (.double (FP.dmul (FP.dmul (FP.l2d q1) (9094988921128908188 : UInt64)) (9094988921128908188 : UInt64))), .second, .val (.int (0 : Int32)), .unset] [])) t
          refine XS.dload X0.here hx rfl (hb hby at_138) rfl ?_
          exact k)
        obtain ⟨_, _, ⟨T39, L39, k39, n39⟩, -, X39, ⟨Lc39, hQ39, l39, y39, z39⟩, st39⟩ := Jvm.LawKit.callS X0 hx (y := (⟨"com/example/kinhash/kinhash/BitVote", "isWeight", "(D)Z"⟩ : MethodName)) hown (mvT hZ (hw _ (List.mem_of_getElem? (i := 0) rfl))) (mvT hZ (hw _ (List.mem_of_getElem? (i := 1) rfl))) (mvT hZ (hw _ (List.mem_of_getElem? (i := 2) rfl))) (mvT hZ (hw _ (List.mem_of_getElem? (i := 3) rfl))) (by decide) (backOf (W := 0) (rmW l Z a0 hw [] (FP.dmul (FP.dmul (FP.l2d q1) (9094988921128908188 : UInt64)) (9094988921128908188 : UInt64)) h0 n0 Z0 ) hZ (hw _ (List.mem_of_getElem? (i := 3) rfl)) (hw _ (List.mem_of_getElem? (i := 2) rfl)) (by decide) (by decide)) (g := (mkF m 140 #[.val (.long q1), .second, .val (.int p2), .val (.int p3), .val (.int x1), .val (.double (FP.dmul (FP.dmul (FP.l2d q1) (9094988921128908188 : UInt64)) (9094988921128908188 : UInt64))), .second, .val (.int (0 : Int32)), .unset] [(.double (FP.dmul (FP.dmul (FP.l2d q1) (9094988921128908188 : UInt64)) (9094988921128908188 : UInt64)))])) rfl (by rw [hml]; rfl) (argsL := [(.double (FP.dmul (FP.dmul (FP.l2d q1) (9094988921128908188 : UInt64)) (9094988921128908188 : UInt64)))]) (rest := []) (lenOf pd_0 rfl) rfl (by show 2 * 0 + _ ≤ _; exact Nat.le_of_eq rfl) (hb hby at_140) (fun _ _ => ⟨rfl, e0, (by decide : 0 + 0 ≤ _), (by decide : 0 + 0 ≤ _)⟩)
        dsimp only [Pt.U, Pt.locs, Pt.cells, Pt.slots] at X39 l39 y39 z39 st39 hQ39
        subst y39 z39
        obtain ⟨rfl, N39q, e39⟩ := hQ39
        have N39 : Fr n0 L39 := by rw [l39]; exact Fr.app N0 N39q
        have P40 : Rch p e below (s₁.setTop (entryFrame m #[(.long q1), (.int p2), (.int p3)] maxLocals)) (T39.setTop (mkF m 143 #[.val (.long q1), .second, .val (.int p2), .val (.int p3), .val (.int x1), .val (.double (FP.dmul (FP.dmul (FP.l2d q1) (9094988921128908188 : UInt64)) (9094988921128908188 : UInt64))), .second, .val (.int (0 : Int32)), .unset] [(.int (own_iw (FP.dmul (FP.dmul (FP.l2d q1) (9094988921128908188 : UInt64)) (9094988921128908188 : UInt64))))])) := fun t k => P38 t (st39 t k)
        obtain ⟨x41, hx41⟩ : ∃ z : Int32, z = (own_iw (FP.dmul (FP.dmul (FP.l2d q1) (9094988921128908188 : UInt64)) (9094988921128908188 : UInt64))) := ⟨_, rfl⟩
        rw [← hx41] at P40
        have P42 : Rch p e below (s₁.setTop (entryFrame m #[(.long q1), (.int p2), (.int p3)] maxLocals)) (T39.setTop (mkF m 145 #[.val (.long q1), .second, .val (.int p2), .val (.int p3), .val (.int x1), .val (.double (FP.dmul (FP.dmul (FP.l2d q1) (9094988921128908188 : UInt64)) (9094988921128908188 : UInt64))), .second, .val (.int (0 : Int32)), .unset] [(.int (0 : Int32)), (.int x41)])) := fun t k => P40 t (by
          show Steps p.tables e below (T39.setTop (mkF m 143 #[.val (.long q1), .second, .val (.int p2), .val (.int p3), .val (.int x1), .val (.double (FP.dmul (FP.dmul (FP.l2d q1) (9094988921128908188 : UInt64)) (9094988921128908188 : UInt64))), .second, .val (.int (0 : Int32)), .unset] [(.int x41)])) t
          refine XS.iload X39.here hx rfl (hb hby at_143) rfl ?_
          exact k)
        obtain ⟨v44, hv44, P45⟩ : ∃ (v44 : Int32), v44 = (if x41 = (0 : Int32) then (1 : Int32) else (0 : Int32)) ∧ Rch p e below (s₁.setTop (entryFrame m #[(.long q1), (.int p2), (.int p3)] maxLocals)) (T39.setTop (mkF m 153 #[.val (.long q1), .second, .val (.int p2), .val (.int p3), .val (.int x1), .val (.double (FP.dmul (FP.dmul (FP.l2d q1) (9094988921128908188 : UInt64)) (9094988921128908188 : UInt64))), .second, .val (.int (0 : Int32)), .unset] [(.int v44)])) := by
          by_cases c43 : x41 = (0 : Int32)
          · refine ⟨(1 : Int32), (by first | rw [if_pos c43] | simp only [if_pos c43] | rfl), fun t k => P42 t ?_⟩
            show Steps p.tables e below (T39.setTop (mkF m 145 #[.val (.long q1), .second, .val (.int p2), .val (.int p3), .val (.int x1), .val (.double (FP.dmul (FP.dmul (FP.l2d q1) (9094988921128908188 : UInt64)) (9094988921128908188 : UInt64))), .second, .val (.int (0 : Int32)), .unset] [(.int (0 : Int32)), (.int x41)])) t
            refine XS.icmpNo X39.here hx rfl (hb hby at_145) rfl (teq c43).2 ?_
            show Steps p.tables e below (T39.setTop (mkF m 148 #[.val (.long q1), .second, .val (.int p2), .val (.int p3), .val (.int x1), .val (.double (FP.dmul (FP.dmul (FP.l2d q1) (9094988921128908188 : UInt64)) (9094988921128908188 : UInt64))), .second, .val (.int (0 : Int32)), .unset] [])) t
            refine XS.iconst X39.here hx rfl (hb hby at_148) ?_
            show Steps p.tables e below (T39.setTop (mkF m 149 #[.val (.long q1), .second, .val (.int p2), .val (.int p3), .val (.int x1), .val (.double (FP.dmul (FP.dmul (FP.l2d q1) (9094988921128908188 : UInt64)) (9094988921128908188 : UInt64))), .second, .val (.int (0 : Int32)), .unset] [(.int (1 : Int32))])) t
            refine XS.goto X39.here hx rfl (pc0 := 149) (pc' := 153) rfl (hb hby at_149) (by decide) (by decide) ?_
            exact k
          · refine ⟨(0 : Int32), (by first | rw [if_neg c43] | simp only [if_neg c43] | rfl), fun t k => P42 t ?_⟩
            show Steps p.tables e below (T39.setTop (mkF m 145 #[.val (.long q1), .second, .val (.int p2), .val (.int p3), .val (.int x1), .val (.double (FP.dmul (FP.dmul (FP.l2d q1) (9094988921128908188 : UInt64)) (9094988921128908188 : UInt64))), .second, .val (.int (0 : Int32)), .unset] [(.int (0 : Int32)), (.int x41)])) t
            refine XS.icmpYes X39.here hx rfl (pc0 := 145) (pc' := 152) rfl (hb hby at_145) rfl (feq c43).2 (by decide) (by decide) ?_
            show Steps p.tables e below (T39.setTop (mkF m 152 #[.val (.long q1), .second, .val (.int p2), .val (.int p3), .val (.int x1), .val (.double (FP.dmul (FP.dmul (FP.l2d q1) (9094988921128908188 : UInt64)) (9094988921128908188 : UInt64))), .second, .val (.int (0 : Int32)), .unset] [])) t
            refine XS.iconst X39.here hx rfl (hb hby at_152) ?_
            exact k
        have hfin : v44 = (1 : Int32) := by
          subst hv44 hx41 hx1
          exact if_pos (own_law2 q1)
        have P46 : Rch p e below (s₁.setTop (entryFrame m #[(.long q1), (.int p2), (.int p3)] maxLocals)) (T39.setTop (mkF m 153 #[.val (.long q1), .second, .val (.int p2), .val (.int p3), .val (.int x1), .val (.double (FP.dmul (FP.dmul (FP.l2d q1) (9094988921128908188 : UInt64)) (9094988921128908188 : UInt64))), .second, .val (.int (0 : Int32)), .unset] [(.int (1 : Int32))])) := by have q_ := P45; rw [hfin] at q_; exact q_
        obtain ⟨fs, hr, hrun, hended, hW, hsame⟩ := X39.leave (v := some (.int (1 : Int32))) (fun h => by rw [Bd.returns] at h; cases h)
        refine ⟨_, _, P46 _ ?_, hrun, hended, _, _, rfl, ?_, ⟨_, rfl⟩, hW, hsame.mono (by decide) (by decide)⟩
        · exact retN X39 hx (t := .boolean) Bd.returns (by simp) (hb hby at_153) hr
        · show Q_rm0 Z q1 p2 p3 h0 n0 _ T39.heap _
          rw [e39]
          exact ⟨rfl, N39⟩
      · have P47 : Rch p e below (s₁.setTop (entryFrame m #[(.long q1), (.int p2), (.int p3)] maxLocals)) (s₁.setTop (mkF m 128 #[.val (.long q1), .second, .val (.int p2), .val (.int p3), .val (.int x1), .val (.double (FP.dmul (FP.dmul (FP.l2d q1) (118622047889322841 : UInt64)) (4307583784117748259 : UInt64))), .second, .unset, .unset] [(.int (lcmpW q1 (0 : Int64)))])) := fun t k => P36 t (by
          show Steps p.tables e below (s₁.setTop (mkF m 92 #[.val (.long q1), .second, .val (.int p2), .val (.int p3), .val (.int x1), .unset, .unset, .unset, .unset] [(.int (2 : Int32)), (.int x1)])) t
          refine XS.icmpYes X0.here hx rfl (pc0 := 92) (pc' := 113) rfl (hb hby at_92) rfl (feq c37).2 (by decide) (by decide) ?_
          show Steps p.tables e below (s₁.setTop (mkF m 113 #[.val (.long q1), .second, .val (.int p2), .val (.int p3), .val (.int x1), .unset, .unset, .unset, .unset] [])) t
          refine XS.lloadN X0.here hx rfl (hb hby at_113) rfl ?_
          show Steps p.tables e below (s₁.setTop (mkF m 114 #[.val (.long q1), .second, .val (.int p2), .val (.int p3), .val (.int x1), .unset, .unset, .unset, .unset] [(.long q1)])) t
          refine XS.l2dS X0.here hx rfl (hb hby at_114) rfl rfl ?_
          show Steps p.tables e below (s₁.setTop (mkF m 115 #[.val (.long q1), .second, .val (.int p2), .val (.int p3), .val (.int x1), .unset, .unset, .unset, .unset] [(.double (FP.l2d q1))])) t
          refine X0.ldc2DoubleC hx hown (mvT hZ (hw _ (List.mem_of_getElem? (i := 5) rfl))) (g := (mkF m 115 #[.val (.long q1), .second, .val (.int p2), .val (.int p3), .val (.int x1), .unset, .unset, .unset, .unset] [(.double (FP.l2d q1))])) rfl (hb hby at_115) _ ?_
          show Steps p.tables e below (s₁.setTop (mkF m 118 #[.val (.long q1), .second, .val (.int p2), .val (.int p3), .val (.int x1), .unset, .unset, .unset, .unset] [(.double (118622047889322841 : UInt64)), (.double (FP.l2d q1))])) t
          refine XS.dmulS X0.here hx rfl (hb hby at_118) rfl (own_nn4 _) rfl ?_
          show Steps p.tables e below (s₁.setTop (mkF m 119 #[.val (.long q1), .second, .val (.int p2), .val (.int p3), .val (.int x1), .unset, .unset, .unset, .unset] [(.double (FP.dmul (FP.l2d q1) (118622047889322841 : UInt64)))])) t
          refine X0.ldc2DoubleC hx hown (mvT hZ (hw _ (List.mem_of_getElem? (i := 6) rfl))) (g := (mkF m 119 #[.val (.long q1), .second, .val (.int p2), .val (.int p3), .val (.int x1), .unset, .unset, .unset, .unset] [(.double (FP.dmul (FP.l2d q1) (118622047889322841 : UInt64)))])) rfl (hb hby at_119) _ ?_
          show Steps p.tables e below (s₁.setTop (mkF m 122 #[.val (.long q1), .second, .val (.int p2), .val (.int p3), .val (.int x1), .unset, .unset, .unset, .unset] [(.double (4307583784117748259 : UInt64)), (.double (FP.dmul (FP.l2d q1) (118622047889322841 : UInt64)))])) t
          refine XS.dmulS X0.here hx rfl (hb hby at_122) rfl (own_nn5 _) rfl ?_
          show Steps p.tables e below (s₁.setTop (mkF m 123 #[.val (.long q1), .second, .val (.int p2), .val (.int p3), .val (.int x1), .unset, .unset, .unset, .unset] [(.double (FP.dmul (FP.dmul (FP.l2d q1) (118622047889322841 : UInt64)) (4307583784117748259 : UInt64)))])) t
          refine XS.dstore X0.here hx rfl (hb hby at_123) rfl (l' := #[.val (.long q1), .second, .val (.int p2), .val (.int p3), .val (.int x1), .val (.double (FP.dmul (FP.dmul (FP.l2d q1) (118622047889322841 : UInt64)) (4307583784117748259 : UInt64))), .second, .unset, .unset]) rfl ?_
          show Steps p.tables e below (s₁.setTop (mkF m 125 #[.val (.long q1), .second, .val (.int p2), .val (.int p3), .val (.int x1), .val (.double (FP.dmul (FP.dmul (FP.l2d q1) (118622047889322841 : UInt64)) (4307583784117748259 : UInt64))), .second, .unset, .unset] [])) t
          refine XS.lloadN X0.here hx rfl (hb hby at_125) rfl ?_
          show Steps p.tables e below (s₁.setTop (mkF m 126 #[.val (.long q1), .second, .val (.int p2), .val (.int p3), .val (.int x1), .val (.double (FP.dmul (FP.dmul (FP.l2d q1) (118622047889322841 : UInt64)) (4307583784117748259 : UInt64))), .second, .unset, .unset] [(.long q1)])) t
          refine XS.lconst X0.here hx rfl (hb hby at_126) ?_
          show Steps p.tables e below (s₁.setTop (mkF m 127 #[.val (.long q1), .second, .val (.int p2), .val (.int p3), .val (.int x1), .val (.double (FP.dmul (FP.dmul (FP.l2d q1) (118622047889322841 : UInt64)) (4307583784117748259 : UInt64))), .second, .unset, .unset] [(.long (0 : Int64)), (.long q1)])) t
          refine XS.lcmp X0.here hx rfl (hb hby at_127) rfl ?_
          exact k)
        obtain ⟨v49, hv49, P50⟩ : ∃ (v49 : Int32), v49 = (if (0 : Int64) < q1 then (1 : Int32) else (0 : Int32)) ∧ Rch p e below (s₁.setTop (entryFrame m #[(.long q1), (.int p2), (.int p3)] maxLocals)) (s₁.setTop (mkF m 136 #[.val (.long q1), .second, .val (.int p2), .val (.int p3), .val (.int x1), .val (.double (FP.dmul (FP.dmul (FP.l2d q1) (118622047889322841 : UInt64)) (4307583784117748259 : UInt64))), .second, .unset, .unset] [(.int v49)])) := by
          by_cases c48 : (0 : Int64) < q1
          · refine ⟨(1 : Int32), (by first | rw [if_pos c48] | simp only [if_pos c48] | rfl), fun t k => P47 t ?_⟩
            show Steps p.tables e below (s₁.setTop (mkF m 128 #[.val (.long q1), .second, .val (.int p2), .val (.int p3), .val (.int x1), .val (.double (FP.dmul (FP.dmul (FP.l2d q1) (118622047889322841 : UInt64)) (4307583784117748259 : UInt64))), .second, .unset, .unset] [(.int (lcmpW q1 (0 : Int64)))])) t
            refine XS.ifNo X0.here hx rfl (hb hby at_128) rfl ((if0 _ _).trans (tlt ((lw_gt q1 (0 : Int64)).mpr c48)).2.2.2) ?_
            show Steps p.tables e below (s₁.setTop (mkF m 131 #[.val (.long q1), .second, .val (.int p2), .val (.int p3), .val (.int x1), .val (.double (FP.dmul (FP.dmul (FP.l2d q1) (118622047889322841 : UInt64)) (4307583784117748259 : UInt64))), .second, .unset, .unset] [])) t
            refine XS.iconst X0.here hx rfl (hb hby at_131) ?_
            show Steps p.tables e below (s₁.setTop (mkF m 132 #[.val (.long q1), .second, .val (.int p2), .val (.int p3), .val (.int x1), .val (.double (FP.dmul (FP.dmul (FP.l2d q1) (118622047889322841 : UInt64)) (4307583784117748259 : UInt64))), .second, .unset, .unset] [(.int (1 : Int32))])) t
            refine XS.goto X0.here hx rfl (pc0 := 132) (pc' := 136) rfl (hb hby at_132) (by decide) (by decide) ?_
            exact k
          · refine ⟨(0 : Int32), (by first | rw [if_neg c48] | simp only [if_neg c48] | rfl), fun t k => P47 t ?_⟩
            show Steps p.tables e below (s₁.setTop (mkF m 128 #[.val (.long q1), .second, .val (.int p2), .val (.int p3), .val (.int x1), .val (.double (FP.dmul (FP.dmul (FP.l2d q1) (118622047889322841 : UInt64)) (4307583784117748259 : UInt64))), .second, .unset, .unset] [(.int (lcmpW q1 (0 : Int64)))])) t
            refine XS.ifYes X0.here hx rfl (pc0 := 128) (pc' := 135) rfl (hb hby at_128) rfl ((if0 _ _).trans (flt (fun q_ => c48 ((lw_gt q1 (0 : Int64)).mp q_))).2.2.2) (by decide) (by decide) ?_
            show Steps p.tables e below (s₁.setTop (mkF m 135 #[.val (.long q1), .second, .val (.int p2), .val (.int p3), .val (.int x1), .val (.double (FP.dmul (FP.dmul (FP.l2d q1) (118622047889322841 : UInt64)) (4307583784117748259 : UInt64))), .second, .unset, .unset] [])) t
            refine XS.iconst X0.here hx rfl (hb hby at_135) ?_
            exact k
        have P51 : Rch p e below (s₁.setTop (entryFrame m #[(.long q1), (.int p2), (.int p3)] maxLocals)) (s₁.setTop (mkF m 140 #[.val (.long q1), .second, .val (.int p2), .val (.int p3), .val (.int x1), .val (.double (FP.dmul (FP.dmul (FP.l2d q1) (118622047889322841 : UInt64)) (4307583784117748259 : UInt64))), .second, .val (.int v49), .unset] [(.double (FP.dmul (FP.dmul (FP.l2d q1) (118622047889322841 : UInt64)) (4307583784117748259 : UInt64)))])) := fun t k => P50 t (by
          show Steps p.tables e below (s₁.setTop (mkF m 136 #[.val (.long q1), .second, .val (.int p2), .val (.int p3), .val (.int x1), .val (.double (FP.dmul (FP.dmul (FP.l2d q1) (118622047889322841 : UInt64)) (4307583784117748259 : UInt64))), .second, .unset, .unset] [(.int v49)])) t
          refine XS.istore X0.here hx rfl (hb hby at_136) rfl (l' := #[.val (.long q1), .second, .val (.int p2), .val (.int p3), .val (.int x1), .val (.double (FP.dmul (FP.dmul (FP.l2d q1) (118622047889322841 : UInt64)) (4307583784117748259 : UInt64))), .second, .val (.int v49), .unset]) rfl ?_
          show Steps p.tables e below (s₁.setTop (mkF m 138 #[.val (.long q1), .second, .val (.int p2), .val (.int p3), .val (.int x1), .val (.double (FP.dmul (FP.dmul (FP.l2d q1) (118622047889322841 : UInt64)) (4307583784117748259 : UInt64))), .second, .val (.int v49), .unset] [])) t
          refine XS.dload X0.here hx rfl (hb hby at_138) rfl ?_
          exact k)
        obtain ⟨_, _, ⟨T52, L52, k52, n52⟩, -, X52, ⟨Lc52, hQ52, l52, y52, z52⟩, st52⟩ := Jvm.LawKit.callS X0 hx (y := (⟨"com/example/kinhash/kinhash/BitVote", "isWeight", "(D)Z"⟩ : MethodName)) hown (mvT hZ (hw _ (List.mem_of_getElem? (i := 0) rfl))) (mvT hZ (hw _ (List.mem_of_getElem? (i := 1) rfl))) (mvT hZ (hw _ (List.mem_of_getElem? (i := 2) rfl))) (mvT hZ (hw _ (List.mem_of_getElem? (i := 3) rfl))) (by decide) (backOf (W := 0) (rmW l Z a0 hw [] (FP.dmul (FP.dmul (FP.l2d q1) (118622047889322841 : UInt64)) (4307583784117748259 : UInt64)) h0 n0 Z0 ) hZ (hw _ (List.mem_of_getElem? (i := 3) rfl)) (hw _ (List.mem_of_getElem? (i := 2) rfl)) (by decide) (by decide)) (g := (mkF m 140 #[.val (.long q1), .second, .val (.int p2), .val (.int p3), .val (.int x1), .val (.double (FP.dmul (FP.dmul (FP.l2d q1) (118622047889322841 : UInt64)) (4307583784117748259 : UInt64))), .second, .val (.int v49), .unset] [(.double (FP.dmul (FP.dmul (FP.l2d q1) (118622047889322841 : UInt64)) (4307583784117748259 : UInt64)))])) rfl (by rw [hml]; rfl) (argsL := [(.double (FP.dmul (FP.dmul (FP.l2d q1) (118622047889322841 : UInt64)) (4307583784117748259 : UInt64)))]) (rest := []) (lenOf pd_0 rfl) rfl (by show 2 * 0 + _ ≤ _; exact Nat.le_of_eq rfl) (hb hby at_140) (fun _ _ => ⟨rfl, e0, (by decide : 0 + 0 ≤ _), (by decide : 0 + 0 ≤ _)⟩)
        dsimp only [Pt.U, Pt.locs, Pt.cells, Pt.slots] at X52 l52 y52 z52 st52 hQ52
        subst y52 z52
        obtain ⟨rfl, N52q, e52⟩ := hQ52
        have N52 : Fr n0 L52 := by rw [l52]; exact Fr.app N0 N52q
        have P53 : Rch p e below (s₁.setTop (entryFrame m #[(.long q1), (.int p2), (.int p3)] maxLocals)) (T52.setTop (mkF m 143 #[.val (.long q1), .second, .val (.int p2), .val (.int p3), .val (.int x1), .val (.double (FP.dmul (FP.dmul (FP.l2d q1) (118622047889322841 : UInt64)) (4307583784117748259 : UInt64))), .second, .val (.int v49), .unset] [(.int (own_iw (FP.dmul (FP.dmul (FP.l2d q1) (118622047889322841 : UInt64)) (4307583784117748259 : UInt64))))])) := fun t k => P51 t (st52 t k)
        obtain ⟨x54, hx54⟩ : ∃ z : Int32, z = (own_iw (FP.dmul (FP.dmul (FP.l2d q1) (118622047889322841 : UInt64)) (4307583784117748259 : UInt64))) := ⟨_, rfl⟩
        rw [← hx54] at P53
        have P55 : Rch p e below (s₁.setTop (entryFrame m #[(.long q1), (.int p2), (.int p3)] maxLocals)) (T52.setTop (mkF m 145 #[.val (.long q1), .second, .val (.int p2), .val (.int p3), .val (.int x1), .val (.double (FP.dmul (FP.dmul (FP.l2d q1) (118622047889322841 : UInt64)) (4307583784117748259 : UInt64))), .second, .val (.int v49), .unset] [(.int v49), (.int x54)])) := fun t k => P53 t (by
          show Steps p.tables e below (T52.setTop (mkF m 143 #[.val (.long q1), .second, .val (.int p2), .val (.int p3), .val (.int x1), .val (.double (FP.dmul (FP.dmul (FP.l2d q1) (118622047889322841 : UInt64)) (4307583784117748259 : UInt64))), .second, .val (.int v49), .unset] [(.int x54)])) t
          refine XS.iload X52.here hx rfl (hb hby at_143) rfl ?_
          exact k)
        obtain ⟨v57, hv57, P58⟩ : ∃ (v57 : Int32), v57 = (if x54 = v49 then (1 : Int32) else (0 : Int32)) ∧ Rch p e below (s₁.setTop (entryFrame m #[(.long q1), (.int p2), (.int p3)] maxLocals)) (T52.setTop (mkF m 153 #[.val (.long q1), .second, .val (.int p2), .val (.int p3), .val (.int x1), .val (.double (FP.dmul (FP.dmul (FP.l2d q1) (118622047889322841 : UInt64)) (4307583784117748259 : UInt64))), .second, .val (.int v49), .unset] [(.int v57)])) := by
          by_cases c56 : x54 = v49
          · refine ⟨(1 : Int32), (by first | rw [if_pos c56] | simp only [if_pos c56] | rfl), fun t k => P55 t ?_⟩
            show Steps p.tables e below (T52.setTop (mkF m 145 #[.val (.long q1), .second, .val (.int p2), .val (.int p3), .val (.int x1), .val (.double (FP.dmul (FP.dmul (FP.l2d q1) (118622047889322841 : UInt64)) (4307583784117748259 : UInt64))), .second, .val (.int v49), .unset] [(.int v49), (.int x54)])) t
            refine XS.icmpNo X52.here hx rfl (hb hby at_145) rfl (teq c56).2 ?_
            show Steps p.tables e below (T52.setTop (mkF m 148 #[.val (.long q1), .second, .val (.int p2), .val (.int p3), .val (.int x1), .val (.double (FP.dmul (FP.dmul (FP.l2d q1) (118622047889322841 : UInt64)) (4307583784117748259 : UInt64))), .second, .val (.int v49), .unset] [])) t
            refine XS.iconst X52.here hx rfl (hb hby at_148) ?_
            show Steps p.tables e below (T52.setTop (mkF m 149 #[.val (.long q1), .second, .val (.int p2), .val (.int p3), .val (.int x1), .val (.double (FP.dmul (FP.dmul (FP.l2d q1) (118622047889322841 : UInt64)) (4307583784117748259 : UInt64))), .second, .val (.int v49), .unset] [(.int (1 : Int32))])) t
            refine XS.goto X52.here hx rfl (pc0 := 149) (pc' := 153) rfl (hb hby at_149) (by decide) (by decide) ?_
            exact k
          · refine ⟨(0 : Int32), (by first | rw [if_neg c56] | simp only [if_neg c56] | rfl), fun t k => P55 t ?_⟩
            show Steps p.tables e below (T52.setTop (mkF m 145 #[.val (.long q1), .second, .val (.int p2), .val (.int p3), .val (.int x1), .val (.double (FP.dmul (FP.dmul (FP.l2d q1) (118622047889322841 : UInt64)) (4307583784117748259 : UInt64))), .second, .val (.int v49), .unset] [(.int v49), (.int x54)])) t
            refine XS.icmpYes X52.here hx rfl (pc0 := 145) (pc' := 152) rfl (hb hby at_145) rfl (feq c56).2 (by decide) (by decide) ?_
            show Steps p.tables e below (T52.setTop (mkF m 152 #[.val (.long q1), .second, .val (.int p2), .val (.int p3), .val (.int x1), .val (.double (FP.dmul (FP.dmul (FP.l2d q1) (118622047889322841 : UInt64)) (4307583784117748259 : UInt64))), .second, .val (.int v49), .unset] [])) t
            refine XS.iconst X52.here hx rfl (hb hby at_152) ?_
            exact k
        have hfin : v57 = (1 : Int32) := by
          subst hv57 hx54 hv49 hx1
          exact if_pos (own_law3 q1)
        have P59 : Rch p e below (s₁.setTop (entryFrame m #[(.long q1), (.int p2), (.int p3)] maxLocals)) (T52.setTop (mkF m 153 #[.val (.long q1), .second, .val (.int p2), .val (.int p3), .val (.int x1), .val (.double (FP.dmul (FP.dmul (FP.l2d q1) (118622047889322841 : UInt64)) (4307583784117748259 : UInt64))), .second, .val (.int v49), .unset] [(.int (1 : Int32))])) := by have q_ := P58; rw [hfin] at q_; exact q_
        obtain ⟨fs, hr, hrun, hended, hW, hsame⟩ := X52.leave (v := some (.int (1 : Int32))) (fun h => by rw [Bd.returns] at h; cases h)
        refine ⟨_, _, P59 _ ?_, hrun, hended, _, _, rfl, ?_, ⟨_, rfl⟩, hW, hsame.mono (by decide) (by decide)⟩
        · exact retN X52 hx (t := .boolean) Bd.returns (by simp) (hb hby at_153) hr
        · show Q_rm0 Z q1 p2 p3 h0 n0 _ T52.heap _
          rw [e52]
          exact ⟨rfl, N52⟩
set_option maxRecDepth 65536 in
set_option maxHeartbeats 40000000 in
theorem comes_1 {Post : Tables → Env → Array Value → State → Outcome → State → Prop} (hpost : ∀ tb e args s v u, (limb_1_1.after args s (.returned v) u = true ∧ limb_1_2.after args s (.returned v) u = true ∧ True) → FrameEnd s (.returned v) u (Jvm.fieldLocs frame_1_writes args s ++ Jvm.arrayLocs frame_1_arrays args s ++ Jvm.staticLocs frame_1_statics s) 0 0 → Post tb e args s (.returned v) u) :
    ArmFor flags0 classFile x code maxLocals ret World_1 tables_1 room_1 Calls_1 rest_1 Pre_1 Post := by
  intro l hfl _ _ p e ha hc hk s m args below hf hA hF happ hP
  obtain ⟨hcalls, hrest, hpre⟩ := hP
  obtain ⟨-, -, -, hnamed, -, -, -, hat⟩ := (Spec.applies_iff hf).mp happ
  obtain ⟨hg, hn⟩ := and_e (Cond.before_iff.mp (show (Jvm.Cond.and given_1 narrow_1).before args s = true from hpre))
  obtain ⟨gc, gr0⟩ := and_e hg
  obtain ⟨ga0, gr1⟩ := and_e gr0
  obtain ⟨ga1, gr2⟩ := and_e gr1
  obtain ⟨w0, w1, w2, rfl⟩ : ∃ w0 w1 w2 : Value, args = #[w0, w1, w2] := by
    have hs : args.size = 3 := by simpa [Cond.value, given_1] using gc
    obtain ⟨L⟩ := args
    match L, hs with
    | [w0, w1, w2], _ => exact ⟨w0, w1, w2, rfl⟩
  have hw := fun d (hd : d ∈ tables_1) => atoms_spec (ws := Jvm.Cond.code x code maxLocals ret :: tables_1) hat d (List.mem_cons_of_mem _ hd)
  have hfit : Fit s := fun {y c} hc i hi => by
    obtain ⟨ha, rfl⟩ := Array.getElem?_eq_some_iff.mp hc
    have q := List.all_eq_true.mp ((Array.all_eq_true_iff_forall_mem.mp hF) _ (Array.getElem_mem ha)) i (List.mem_range.mpr hi)
    simpa [Array.getElem?_eq_getElem hi] using q
  obtain ⟨i0, ei0⟩ := isL_v ga0
  obtain rfl : w0 = (.long i0) := Option.some.inj ei0
  obtain ⟨i1, ei1⟩ := is_v ga1
  obtain rfl : w1 = (.int i1) := Option.some.inj ei1
  obtain ⟨i2, ei2⟩ := is_v gr2
  obtain rfl : w2 = (.int i2) := Option.some.inj ei2
  obtain ⟨n, o, h1, h2, h3, _, L, rfl, ⟨rfl, N⟩, hq⟩ := rm0 l s _ hw tables_1 i0 i1 i2 s.heap s.heap.size (Nat.le_refl _)  p e ha hc hk s m _ below hf ((Spec.applies_iff_loose hf).mp happ).1 ⟨rfl, State.Warmed39.refl s, rfl⟩ trivial
  refine ⟨n, _, h1, h2, h3, hpost _ _ _ _ _ _ ⟨Cond.after_iff.mpr rfl, Cond.after_iff.mpr (eq_i res_at (Term.int_eval (1)) rfl), trivial⟩ ⟨hq.1, hq.2.1, (hq.2.2.sift fun y hy => Or.inr (N y hy)).mono (by decide) (by decide)⟩⟩
theorem main_1_1 : Claimed_1_1 := comes_1 fun _ _ _ _ _ _ h hF => ⟨h.1, hF⟩
theorem main_1_2 : Claimed_1_2 := comes_1 fun _ _ _ _ _ _ h hF => ⟨h.2.1, hF⟩
end Jvm.Pilot.@@N@@
namespace Jvm.Pilot.@@N@@
open Jvm Jvm.ClassFile Sem Op Lib Jvm.Free Jvm.Stand Jvm.Pilot.@@N@@.Jvm.D
/-! MADE BY PROGRAM (witnessworld.py) out of the Statement's table words and the real class files: 7 classes; the members and pool entries that the words name. The judged class is class 1, her method 1. -/
namespace start1
open Jvm.ClassFile
def u (s : String) : CpInfo := .utf8 (stringToUtf16 s)
/-- a pool by its gaps: so many unusable entries, then the entry; so many at the end -/
def gap : Nat → List CpInfo → List CpInfo
  | 0, r => r
  | n + 1, r => .unusable :: gap n r
def poolList (es : List (Nat × CpInfo)) (last : Nat) : List CpInfo := es.foldr (fun e r => gap e.1 (e.2 :: r)) (gap last [])
def pool (es : List (Nat × CpInfo)) (last : Nat) : Array CpInfo := ⟨poolList es last⟩
def fileOf (pool : Array CpInfo) (this : Nat) (attrs : Array Attribute := #[]) (ms : Array MethodInfo := #[]) (fl : Nat := 33) (sup : Nat := 0) (ifs : Array Nat := #[]) (fds : Array FieldInfo := #[]) : ClassFile where
  minorVersion := 0
  majorVersion := 65
  constantPool := pool
  accessFlags := fl
  thisClass := this
  superClass := sup
  interfaces := ifs
  fields := fds
  methods := ms
  attributes := attrs
def plain (name : String) (sup : Option ClassId) : Class where
  name := name
  kind := .ordinary
  loader := none
  accessFlags := 33
  super := sup
  interfaces := #[]
  cf := none
  fields := #[]
  methods := #[]
  instanceTypes := #[]
  staticTypes := #[]
  resolved := #[]
  callSites := []
  init := .initialized
  statics := none
  mirror := none

def pool0 : Array CpInfo := pool [(5, u "<init>"), (0, u "()V"), (1, .class_ 10), (1, u "java/lang/Object")] 113

def k0m0 : Method := { name := "<init>", desc := "()V", sig := { parameters := [], returnType := none }, accessFlags := 1, code := none }
/-- java/lang/Object -/
def k0 : Class := { plain "java/lang/Object" none with
  accessFlags := 33
  interfaces := #[]
  cf := some (fileOf pool0 8 #[] #[{ accessFlags := 1, nameIndex := 5, descriptorIndex := 6, attributes := #[] }] 33 0 #[] #[])
  fields := #[]
  methods := #[k0m0]
  instanceTypes := #[]
  staticTypes := #[]
  resolved := Array.replicate 124 none
  statics := none }

def pool1 : Array CpInfo := pool [(2, .class_ 4), (1, u "java/lang/Object"), (0, u "<init>"), (0, u "()V"), (0, .double 9094988921128908188), (1, .double 118622047889322841), (1, .double 4307583784117748259), (1, .methodref 14 15), (0, .class_ 16), (0, .nameAndType 17 18), (0, u "com/example/kinhash/kinhash/BitVote"), (0, u "isWeight"), (0, u "(D)Z"), (0, .class_ 20), (0, u "com/example/kinhash/kinhash/BitVoteIsWeightPinLaw"), (2, u "law"), (0, u "(JII)Z")] 3

def k1m0 : Method := { name := "<init>", desc := "()V", sig := { parameters := [], returnType := none }, accessFlags := 1, code := none }
def k1c1 : Code := { maxStack := 4, maxLocals := 9, code := code, exceptionTable := #[], attributes := #[] }
def k1m1 : Method := { name := "law", desc := "(JII)Z", sig := { parameters := [.long, .int, .int], returnType := some .boolean }, accessFlags := 9, code := some k1c1 }
/-- com/example/kinhash/kinhash/BitVoteIsWeightPinLaw -/
def k1 : Class := { plain "com/example/kinhash/kinhash/BitVoteIsWeightPinLaw" (some 0) with
  accessFlags := 49
  interfaces := #[]
  cf := some (fileOf pool1 19 #[] #[{ accessFlags := 1, nameIndex := 5, descriptorIndex := 6, attributes := #[] }, { accessFlags := 9, nameIndex := 23, descriptorIndex := 24, attributes := #[] }] 49 2 #[] #[])
  fields := #[]
  methods := #[k1m0, k1m1]
  instanceTypes := #[]
  staticTypes := #[]
  resolved := Array.replicate 28 none
  statics := none }

def pool2 : Array CpInfo := pool [(2, .class_ 4), (1, u "java/lang/Object"), (0, u "<init>"), (0, u "()V"), (3, .class_ 12), (1, u "com/example/kinhash/kinhash/BitVote"), (0, u "weightOfBit"), (0, u "[D"), (2, .double 9218868437227405312), (11, u "total"), (0, u "D"), (11, u "isWeight"), (0, u "(D)Z")] 23

def k2m0 : Method := { name := "<init>", desc := "()V", sig := { parameters := [], returnType := none }, accessFlags := 0, code := none }
def k2c1 : Code := { maxStack := 4, maxLocals := 2, code := prog_1_method_2_code, exceptionTable := #[], attributes := #[] }
def k2m1 : Method := { name := "isWeight", desc := "(D)Z", sig := { parameters := [.double], returnType := some .boolean }, accessFlags := 8, code := some k2c1 }
/-- com/example/kinhash/kinhash/BitVote -/
def k2 : Class := { plain "com/example/kinhash/kinhash/BitVote" (some 0) with
  accessFlags := 48
  interfaces := #[]
  cf := some (fileOf pool2 10 #[] #[{ accessFlags := 0, nameIndex := 5, descriptorIndex := 6, attributes := #[] }, { accessFlags := 8, nameIndex := 42, descriptorIndex := 43, attributes := #[] }] 48 2 #[] #[{ accessFlags := 18, nameIndex := 13, descriptorIndex := 14, attributes := #[] }, { accessFlags := 2, nameIndex := 29, descriptorIndex := 30, attributes := #[] }])
  fields := #[{ name := "weightOfBit", type := (.array .double), accessFlags := 18, slot := 0, constantValue := 0 }, { name := "total", type := .double, accessFlags := 2, slot := 1, constantValue := 0 }]
  methods := #[k2m0, k2m1]
  instanceTypes := #[(.array .double), .double]
  staticTypes := #[]
  resolved := Array.replicate 67 none
  statics := none }

def pool3 : Array CpInfo := pool [(1, u "java/lang/Cloneable"), (0, .class_ 1), (0, u "java/lang/Object"), (0, .class_ 3)] 3

/-- java/lang/Cloneable -/
def k3 : Class := { plain "java/lang/Cloneable" (some 0) with
  accessFlags := 1537
  interfaces := #[]
  cf := some (fileOf pool3 2 #[] #[] 1537 4 #[] #[])
  fields := #[]
  methods := #[]
  instanceTypes := #[]
  staticTypes := #[]
  resolved := Array.replicate 8 none
  statics := none }

def pool4 : Array CpInfo := pool [(1, u "java/io/Serializable"), (0, .class_ 1), (0, u "java/lang/Object"), (0, .class_ 3)] 3

/-- java/io/Serializable -/
def k4 : Class := { plain "java/io/Serializable" (some 0) with
  accessFlags := 1537
  interfaces := #[]
  cf := some (fileOf pool4 2 #[] #[] 1537 4 #[] #[])
  fields := #[]
  methods := #[]
  instanceTypes := #[]
  staticTypes := #[]
  resolved := Array.replicate 8 none
  statics := none }

/-- the primitive byte -/
def k5 : Class := { plain "byte" none with kind := .primitive 'B', accessFlags := 0x411 }
/-- [B -/
def k6 : Class := { plain "[B" (some 0) with kind := .array 5 .byte, interfaces := #[3, 4], accessFlags := 1041 }

def heap : Heap := #[]
def classes : Array Class := #[k0, k1, k2, k3, k4, k5, k6]
def interned : List (Array UInt16 × Addr) := []
def slotsUsed : Nat := 0
def theMethod : MethodId := ⟨1, 1⟩
def args0 : Array Value := #[.long 5, .int 3, .int 1]
def aboutOver (below : List Frame) : State where
  vm := { classes := classes, interned := interned.toArray }
  heap := heap
  slotsUsed := slotsUsed
  threads := #[{ frames := .invoking theMethod args0 :: below }]
def below0 : List Frame := [.native { method := ⟨0, 0⟩, args := #[] }]
def about1 : State := aboutOver below0
def p0 : Program := .bare "" "" ""
def e0 : Env := launch0.env 0 0 0
theorem w_frames : about1.frames = Frame.invoking theMethod args0 :: below0 := rfl
set_option maxRecDepth 65536 in
theorem w_args : argsFit about1.vm theMethod args0 = true := by decide +kernel
set_option maxRecDepth 65536 in
theorem w_heap : heapFits about1 = true := by decide +kernel
set_option maxRecDepth 65536 in
theorem w_runnable : about1.curStatus? = some .runnable := by decide +kernel
set_option maxRecDepth 65536 in
theorem w_alone : about1.alone = true := by decide +kernel
set_option maxRecDepth 65536 in
theorem w_named : about1.methodNamed? x = some theMethod := by decide +kernel
set_option maxRecDepth 65536 in
theorem w_hears : about1.hears theMethod below0 = true := by decide +kernel
set_option maxRecDepth 65536 in
theorem w_ripe : about1.ripe theMethod args0 below0 = true := by decide +kernel
theorem w_running : about1.status = .running := rfl
set_option maxRecDepth 65536 in
theorem w_room : about1.hasRoom e0.platform room_1 = true :=
  launch0.hasRoom_least _ room_1 (by decide +kernel) (by decide +kernel) (by decide +kernel) (by decide +kernel) (by decide +kernel) (by decide +kernel)
theorem allAtoms_all (ts : List Jvm.Cond) (a : Array Jvm.Value) (st : Jvm.State) : (allAtoms ts).before a st = ts.all (fun c => c.before a st) := by
  induction ts with
  | nil => rfl
  | cons c t ih =>
    show (Jvm.Cond.and c (allAtoms t)).before a st = _
    rw [Jvm.Cond.before_and, ih, List.all_cons]
def words1 : List Jvm.Cond := Jvm.Cond.code x code maxLocals ret :: tables_1
/-- a 'code' word, met by the world's own term for the bytes: nothing is compared byte by byte -/
theorem code_word {y : MethodName} {bytes : ByteArray} {mx : Nat} {rt : Option FieldType} {a : Array Value} {s : State} {m : MethodId} {meth : Method} {c : Code} (h1 : s.methodNamed? y = some m) (h2 : s.vm.method? m = some meth) (h3 : meth.code = some c) (h4 : c.code = bytes)
    (h5 : (c.maxLocals == mx && c.exceptionTable.isEmpty && decide (c.maxStack ≤ mostOperands) && decide (meth.sig.returnType = rt) && !meth.locks && decide (parseMethodDescriptor y.desc = some meth.sig)) = true) : (Jvm.Cond.code y bytes mx rt).before a s = true := by
  simp only [Bool.and_eq_true, beq_iff_eq, Bool.not_eq_true', decide_eq_true_eq] at h5
  obtain ⟨⟨⟨⟨⟨g1, g2⟩, g3⟩, g4⟩, g5⟩, g6⟩ := h5
  simp [Cond.before, Cond.holds, Cond.value, h1, h2, h3, h4, g1, g2, g3, g4, g5, g6]
def isCode : Jvm.Cond → Bool
  | .code _ _ _ _ => true
  | _ => false
theorem all_split {L : List Jvm.Cond} {P : Jvm.Cond → Bool} (h1 : L.all (fun c => isCode c || P c) = true) (h2 : ∀ c ∈ L.filter isCode, P c = true) : L.all P = true := by
  refine List.all_eq_true.mpr fun c hc => ?_
  have h := List.all_eq_true.mp h1 c hc
  rcases Bool.eq_false_or_eq_true (isCode c) with hi | hi
  · exact h2 c (List.mem_filter.mpr ⟨hc, hi⟩)
  · simpa [hi] using h
set_option maxRecDepth 65536 in
theorem w_c0 : (Jvm.Cond.code x code maxLocals ret).before args0 about1 = true := code_word (m := ⟨1, 1⟩) (meth := k1m1) (c := k1c1) (by decide +kernel) rfl rfl rfl (by decide +kernel)
set_option maxRecDepth 65536 in
theorem w_c1 : (Jvm.Cond.code ({ cls := "com/example/kinhash/kinhash/BitVote", name := "isWeight", desc := "(D)Z" } : Jvm.MethodName) prog_1_method_2_code (2 : Nat) (Option.some Jvm.ClassFile.FieldType.boolean)).before args0 about1 = true := code_word (m := ⟨2, 1⟩) (meth := k2m1) (c := k2c1) (by decide +kernel) rfl rfl rfl (by decide +kernel)
def codes1 : List Jvm.Cond := [Jvm.Cond.code x code maxLocals ret, Jvm.Cond.code ({ cls := "com/example/kinhash/kinhash/BitVote", name := "isWeight", desc := "(D)Z" } : Jvm.MethodName) prog_1_method_2_code (2 : Nat) (Option.some Jvm.ClassFile.FieldType.boolean)]
set_option maxRecDepth 65536 in
theorem codes_eq : words1.filter isCode = codes1 := rfl
theorem w_codes : ∀ c ∈ words1.filter isCode, c.before args0 about1 = true := by
  rw [codes_eq]
  intro c hc
  simp only [codes1, List.mem_cons, List.not_mem_nil, or_false] at hc
  rcases hc with rfl | rfl
  · exact w_c0
  · exact w_c1
set_option maxRecDepth 65536 in
theorem w_t1 : words1.all (fun c => isCode c || c.before args0 about1) = true := by decide +kernel
theorem w_tables : (allAtoms (Jvm.Cond.code x code maxLocals ret :: tables_1)).before args0 about1 = true := by
  rw [allAtoms_all]
  show words1.all (fun c => c.before args0 about1) = true
  refine all_split ?_ w_codes
  rw [w_t1]
set_option maxRecDepth 65536 in
theorem w_case : (Jvm.Cond.and given_1 narrow_1).before args0 about1 = true := by decide +kernel
theorem w_applies : (headSpec (Jvm.Cond.code x code maxLocals ret :: tables_1) room_1).applies x e0.platform about1 = true :=
  (Spec.applies_iff w_frames).mpr ⟨w_running, w_runnable, w_alone, w_named, w_hears, w_ripe, w_room, w_tables⟩
theorem atStart : AtStart classFile x code maxLocals ret World_1 tables_1 room_1 Calls_1 rest_1 Pre_1 launch0 p0 e0 about1 theMethod args0 below0 :=
  ⟨lists_1, trivial, launch0.admits_env _ _ _, launch0.least_env, fairChoices_fair.cas, fairChoices_fair.clock, w_frames, w_args, w_heap, w_applies, trivial, trivial, w_case⟩
end start1
theorem witness_1 : WitnessClaimed_1 := ⟨start1.p0, start1.e0, start1.about1, start1.theMethod, start1.args0, start1.below0, start1.atStart⟩
end Jvm.Pilot.@@N@@
