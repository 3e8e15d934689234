import JvmDerived
import JvmDerived.Pilot.@@N@@Statement
import JvmDerived.Pilot.@@N@@Code
set_option linter.unusedVariables false
set_option linter.unusedSimpArgs false
namespace Jvm.RoadKit
open Sem ClassFile Op Lib Jvm.Stand Jvm.Free Jvm.LawKit
section New
variable {p : Program} {l : Launch} {e : Env} {R : Room} {s : State} {m : MethodId} {args : Array Value} {below : List Frame} {meth : Method} {c : Code} {T : State} {locs : List Loc} {cells slots : Nat}
theorem retI (X : Stand p l e R s m args below meth c T locs cells slots) (hx : p.tables.exec = Jvm.exec) {pc : Nat} {Ls : Array Slot} {z : Int32} {rest : List Value} (hret : meth.sig.returnType = some .int) (hd : decode c.code pc = .ok (.ireturn, 1)) {fs : List Frame}
    (hl : ∀ (f : JFrame) (acts : List Action), f.method = m → f.locked = none → f.entered = [] → (doReturn e (T.setTop f) acts (some (.int z))).1 = T.setFrames fs) : Steps p.tables e below (T.setTop (mkF m pc Ls (.int z :: rest))) (T.setFrames fs) := by
  have hm' : T.vm.method? m = some meth := X.method'
  have hn : narrow .int (.int z) = .int z := rfl
  show Steps p.tables e below (T.setTop { method := m, pc := pc, locals := Ls, stack := _ :: rest, locked := none }) _
  jvm_step X.here [X.here.top, hx, hd, hm', hret, hn]
  first | (intro acts; rw [hl _ acts rfl rfl rfl]) | rw [hl _ _ rfl rfl rfl]
  exact Steps.refl _
end New
end Jvm.RoadKit
namespace Jvm.Pilot.@@N@@
open Jvm Jvm.ClassFile Sem Op Lib Jvm.Free Jvm.Stand Jvm.LawKit Jvm.RoadKit Bundle Jvm.Pilot.@@N@@.Jvm.D
theorem own_more {p : Program} {l : Launch} {e : Env} {R : Room} {s : State} {m : MethodId} {args : Array Value} {below : List Frame} {meth : Method} {c : Code} {T : State} {locs : List Loc} {k n k' n' : Nat} (X : Stand p l e R s m args below meth c T locs k n) (hk : k ≤ k') (hn : n ≤ n') : Stand p l e R s m args below meth c T locs k' n' := { X with same := X.same.mono hk hn }
theorem own_nar {t : FieldType} {v : Value} (h : v.isRef = true) (ht : t.isReference = true := by rfl) : narrow t v = v := by
  rcases ref_cases h with rfl | ⟨a, rfl⟩ <;> cases t <;> first | rfl | (cases ht; done)
theorem own_fit {t : FieldType} {v : Value} (h : v.isRef = true) (ht : t.isReference = true := by rfl) : fits t v = true := by
  rcases ref_cases h with rfl | ⟨a, rfl⟩ <;> cases t <;> first | rfl | (cases ht; done)
theorem own_cat {v : Value} (h : v.isRef = true) : v.category = 1 := by rcases ref_cases h with rfl | ⟨a, rfl⟩ <;> rfl
abbrev Rch (p : Program) (e : Env) (below : List Frame) (A B : State) : Prop := ∀ t, Steps p.tables e below B t → Steps p.tables e below A t

theorem own_finN (N : Nat) (hN : N ≤ 65536) (f : Int32 → Prop) (h : ∀ i : Fin N, f (Int32.ofNat i.1)) (c : Int32) (h0 : 0 ≤ c.toInt) (h1 : c.toInt < N) : f c := by
  have e : c = Int32.ofNat c.toInt.toNat := by
    apply Int32.toInt_inj.mp
    rw [Int32.toInt_ofNat_of_lt (by omega)]; omega
  have := h ⟨c.toInt.toNat, by omega⟩
  rw [e]; exact this
def own_v (c : Int32) : Int32 := (if (if c < (48 : Int32) then (if c < (97 : Int32) then (if c < (65 : Int32) then (0 : Int32) else (if (70 : Int32) < c then (0 : Int32) else (1 : Int32))) else (if (102 : Int32) < c then (if c < (65 : Int32) then (0 : Int32) else (if (70 : Int32) < c then (0 : Int32) else (1 : Int32))) else (1 : Int32))) else (if (57 : Int32) < c then (if c < (97 : Int32) then (if c < (65 : Int32) then (0 : Int32) else (if (70 : Int32) < c then (0 : Int32) else (1 : Int32))) else (if (102 : Int32) < c then (if c < (65 : Int32) then (0 : Int32) else (if (70 : Int32) < c then (0 : Int32) else (1 : Int32))) else (1 : Int32))) else (1 : Int32))) = (if (if (c - (48 : Int32)) < (0 : Int32) then (0 : Int32) else (if (c - (48 : Int32)) < (10 : Int32) then (1 : Int32) else (0 : Int32))) = (0 : Int32) then (if (if ((c ||| (32 : Int32)) - (97 : Int32)) < (0 : Int32) then (0 : Int32) else (if ((c ||| (32 : Int32)) - (97 : Int32)) < (6 : Int32) then (1 : Int32) else (0 : Int32))) = (0 : Int32) then (0 : Int32) else (1 : Int32)) else (1 : Int32)) then (1 : Int32) else (0 : Int32))
theorem own_eq (c : Int32) (h0 : 0 ≤ c.toInt) (h2 : c.toInt < 65536) : own_v c = 1 := by
  by_cases h1 : c.toInt < 128
  · exact own_finN 128 (by decide) (fun c => own_v c = 1) (by decide +kernel) c h0 h1
  · have i0 : (32 : Int32).toInt = 32 := rfl
    have o := (c_or0 c 32 h0 (by omega)).1
    have o2 := (c_orS c 32).1 h0 (by omega)
    have s1 := c_isub c 48
    have s2 := c_isub (c ||| 32) 97
    have r1 := rng32 (c - 48)
    have r2 := rng32 ((c ||| 32) - 97)
    have r3 := rng32 (c ||| 32)
    have j1 : (48 : Int32).toInt = 48 := rfl
    have j2 : (97 : Int32).toInt = 97 := rfl
    have g1 : ¬ (c < 48) := by rw [Int32.lt_iff_toInt_lt]; omega
    have g2 : (57 : Int32) < c := by rw [Int32.lt_iff_toInt_lt]; show (57 : Int) < _; omega
    have g3 : ¬ (c < 97) := by rw [Int32.lt_iff_toInt_lt]; omega
    have g4 : (102 : Int32) < c := by rw [Int32.lt_iff_toInt_lt]; show (102 : Int) < _; omega
    have g5 : ¬ (c < 65) := by rw [Int32.lt_iff_toInt_lt]; show ¬ _ < (65 : Int); omega
    have g6 : (70 : Int32) < c := by rw [Int32.lt_iff_toInt_lt]; show (70 : Int) < _; omega
    have k1 : ¬ (c - 48 < 0) := by rw [Int32.lt_iff_toInt_lt]; show ¬ _ < (0 : Int); omega
    have k2 : ¬ (c - 48 < 10) := by rw [Int32.lt_iff_toInt_lt]; show ¬ _ < (10 : Int); omega
    have k3 : ¬ ((c ||| 32) - 97 < 6) := by rw [Int32.lt_iff_toInt_lt]; show ¬ _ < (6 : Int); omega
    simp [own_v, g1, g2, g3, g4, g5, g6, k1, k2, k3]
theorem own_law (p1 : Int32) : own_v (p1.toUInt32.toUInt16.toUInt32.toInt32) = 1 := own_eq _ (c_i2c p1).2.1 (c_i2c p1).2.2

theorem d1_0 : decode prog_161_method_4_code 0 = .ok (.iload_n 0, 1) := by decide +kernel
theorem d1_1 : decode prog_161_method_4_code 1 = .ok (.bipush 48, 2) := by decide +kernel
theorem d1_3 : decode prog_161_method_4_code 3 = .ok (.if_icmp .lt 9, 3) := by decide +kernel
theorem d1_12 : decode prog_161_method_4_code 12 = .ok (.iload_n 0, 1) := by decide +kernel
theorem d1_13 : decode prog_161_method_4_code 13 = .ok (.bipush 97, 2) := by decide +kernel
theorem d1_15 : decode prog_161_method_4_code 15 = .ok (.if_icmp .lt 9, 3) := by decide +kernel
theorem d1_24 : decode prog_161_method_4_code 24 = .ok (.iload_n 0, 1) := by decide +kernel
theorem d1_25 : decode prog_161_method_4_code 25 = .ok (.bipush 65, 2) := by decide +kernel
theorem d1_27 : decode prog_161_method_4_code 27 = .ok (.if_icmp .lt 13, 3) := by decide +kernel
theorem d1_40 : decode prog_161_method_4_code 40 = .ok (.iconst 0, 1) := by decide +kernel
theorem d1_30 : decode prog_161_method_4_code 30 = .ok (.iload_n 0, 1) := by decide +kernel
theorem d1_31 : decode prog_161_method_4_code 31 = .ok (.bipush 70, 2) := by decide +kernel
theorem d1_33 : decode prog_161_method_4_code 33 = .ok (.if_icmp .gt 7, 3) := by decide +kernel
theorem d1_36 : decode prog_161_method_4_code 36 = .ok (.iconst 1, 1) := by decide +kernel
theorem d1_37 : decode prog_161_method_4_code 37 = .ok (.goto 4, 3) := by decide +kernel
theorem d1_18 : decode prog_161_method_4_code 18 = .ok (.iload_n 0, 1) := by decide +kernel
theorem d1_19 : decode prog_161_method_4_code 19 = .ok (.bipush 102, 2) := by decide +kernel
theorem d1_21 : decode prog_161_method_4_code 21 = .ok (.if_icmp .le 15, 3) := by decide +kernel
theorem d1_6 : decode prog_161_method_4_code 6 = .ok (.iload_n 0, 1) := by decide +kernel
theorem d1_7 : decode prog_161_method_4_code 7 = .ok (.bipush 57, 2) := by decide +kernel
theorem d1_9 : decode prog_161_method_4_code 9 = .ok (.if_icmp .le 27, 3) := by decide +kernel
theorem d1_41 : decode prog_161_method_4_code 41 = .ok (.ireturn, 1) := by decide +kernel
theorem pn_0 : plainName "com/example/rapid_pdp/rapidpdp/model/Octets" = true := by first | (simp [plainName, overriddenIn]; done) | decide +kernel
theorem pn_1 : plainName "com/example/rapid_pdp/rapidpdp/model/OctetsIsHexDigitPinLaw" = true := by first | (simp [plainName, overriddenIn]; done) | decide +kernel
theorem pd_0 : parseMethodDescriptor "(C)Z" = some ⟨[.char], some .boolean⟩ := by decide +kernel
def Q_rmH (Z : State) (p1 : Int32) (h0 : Heap) (n0 : Nat) (v : Option Value) (h : Heap) (L : List Loc) : Prop := v = some (.int (if p1 < (48 : Int32) then (if p1 < (97 : Int32) then (if p1 < (65 : Int32) then (0 : Int32) else (if (70 : Int32) < p1 then (0 : Int32) else (1 : Int32))) else (if (102 : Int32) < p1 then (if p1 < (65 : Int32) then (0 : Int32) else (if (70 : Int32) < p1 then (0 : Int32) else (1 : Int32))) else (1 : Int32))) else (if (57 : Int32) < p1 then (if p1 < (97 : Int32) then (if p1 < (65 : Int32) then (0 : Int32) else (if (70 : Int32) < p1 then (0 : Int32) else (1 : Int32))) else (if (102 : Int32) < p1 then (if p1 < (65 : Int32) then (0 : Int32) else (if (70 : Int32) < p1 then (0 : Int32) else (1 : Int32))) else (1 : Int32))) else (1 : Int32)))) ∧ Fr n0 L ∧ h = h0
set_option maxRecDepth 65536 in
set_option maxHeartbeats 40000000 in
theorem rmH (l : Launch) (Z : State) (a0 : Array Value) (hw : ∀ d ∈ tables_1, d.before a0 Z = true) (ws : List Jvm.Cond) (p1 : Int32) (h0 : Heap) (n0 : Nat) (Z0 : n0 ≤ h0.size) :
    MetFree l (⟨"com/example/rapid_pdp/rapidpdp/model/Octets", "isHexDigit", "(C)Z"⟩ : MethodName) (head1 (Jvm.Cond.code (⟨"com/example/rapid_pdp/rapidpdp/model/Octets", "isHexDigit", "(C)Z"⟩ : MethodName) prog_161_method_4_code 1 (some .boolean) :: ws) ({ frames := 0, cells := 0, slots := 0, locals := 0 } : Room)) (fun a U => a = #[(.int p1)] ∧ Z.Warmed39 U.vm ∧ U.heap = h0) (fun _ _ _ _ _ => True) (fun _ U o U' => ∃ v L, o = .returned v ∧ Q_rmH Z p1 h0 n0 v U'.heap L ∧ FrameEnd U o U' L ({ frames := 0, cells := 0, slots := 0, locals := 0 } : Room).cells ({ frames := 0, cells := 0, slots := 0, locals := 0 } : Room).slots) := by
  refine MetFree.of_bodySF (plainFor_of_name pn_0) hisR ?_
  intro p e s m args below meth c s₁ Bd hml0 hP hK
  obtain ⟨rfl, hZ, hh⟩ := hP
  have hx := Bd.exec
  have hby := Bd.bytes
  have hml : c.maxLocals = 1 := hml0
  have hown : s.vm.findClass "com/example/rapid_pdp/rapidpdp/model/Octets" = some m.cls := findClass_of_methodNamed Bd.named
  have hnm := (name_of_methodNamed Bd.named Bd.method).1
  have X0 : Stand p l e ({ frames := 0, cells := 0, slots := 0, locals := 0 } : Room) s m #[(.int p1)] below meth c s₁ [] 0 0 := Stand.of_body Bd
  have e0 : s₁.heap = h0 := by rw [← hh, Bd.state]; rfl
  have N0 := Fr.nil n0
  have P0 : Rch p e below (s₁.setTop (entryFrame m #[(.int p1)] 1)) (s₁.setTop (mkF m 0 #[.val (.int p1)] [])) := fun t k => castTop (by first | rfl | (simp [entryFrame, mkF, argsToLocals, Value.category]; done)) k
  have P1 : Rch p e below (s₁.setTop (entryFrame m #[(.int p1)] 1)) (s₁.setTop (mkF m 3 #[.val (.int p1)] [(.int (48 : Int32)), (.int p1)])) := fun t k => P0 t (by
    show Steps p.tables e below (s₁.setTop (mkF m 0 #[.val (.int p1)] [])) t
    refine XS.iloadN X0.here hx rfl (hb hby d1_0) rfl ?_
    show Steps p.tables e below (s₁.setTop (mkF m 1 #[.val (.int p1)] [(.int p1)])) t
    refine XS.bipush X0.here hx rfl (hb hby d1_1) ?_
    exact k)
  obtain ⟨v16, hv16, P17⟩ : ∃ (v16 : Int32), v16 = (if p1 < (48 : Int32) then (if p1 < (97 : Int32) then (if p1 < (65 : Int32) then (0 : Int32) else (if (70 : Int32) < p1 then (0 : Int32) else (1 : Int32))) else (if (102 : Int32) < p1 then (if p1 < (65 : Int32) then (0 : Int32) else (if (70 : Int32) < p1 then (0 : Int32) else (1 : Int32))) else (1 : Int32))) else (if (57 : Int32) < p1 then (if p1 < (97 : Int32) then (if p1 < (65 : Int32) then (0 : Int32) else (if (70 : Int32) < p1 then (0 : Int32) else (1 : Int32))) else (if (102 : Int32) < p1 then (if p1 < (65 : Int32) then (0 : Int32) else (if (70 : Int32) < p1 then (0 : Int32) else (1 : Int32))) else (1 : Int32))) else (1 : Int32))) ∧ Rch p e below (s₁.setTop (entryFrame m #[(.int p1)] 1)) (s₁.setTop (mkF m 41 #[.val (.int p1)] [(.int v16)])) := by
    by_cases c2 : p1 < (48 : Int32)
    · by_cases c3 : p1 < (97 : Int32)
      · by_cases c4 : p1 < (65 : Int32)
        · refine ⟨(0 : Int32), (by first | rfl | rw [if_pos c2, if_pos c3, if_pos c4] | simp only [if_pos c2, if_pos c3, if_pos c4]), fun t k => P1 t ?_⟩
          show Steps p.tables e below (s₁.setTop (mkF m 3 #[.val (.int p1)] [(.int (48 : Int32)), (.int p1)])) t
          refine XS.icmpYes X0.here hx rfl (pc0 := 3) (pc' := 12) rfl (hb hby d1_3) rfl (tlt c2).1 (by decide) (by decide) ?_
          show Steps p.tables e below (s₁.setTop (mkF m 12 #[.val (.int p1)] [])) t
          refine XS.iloadN X0.here hx rfl (hb hby d1_12) rfl ?_
          show Steps p.tables e below (s₁.setTop (mkF m 13 #[.val (.int p1)] [(.int p1)])) t
          refine XS.bipush X0.here hx rfl (hb hby d1_13) ?_
          show Steps p.tables e below (s₁.setTop (mkF m 15 #[.val (.int p1)] [(.int (97 : Int32)), (.int p1)])) t
          refine XS.icmpYes X0.here hx rfl (pc0 := 15) (pc' := 24) rfl (hb hby d1_15) rfl (tlt c3).1 (by decide) (by decide) ?_
          show Steps p.tables e below (s₁.setTop (mkF m 24 #[.val (.int p1)] [])) t
          refine XS.iloadN X0.here hx rfl (hb hby d1_24) rfl ?_
          show Steps p.tables e below (s₁.setTop (mkF m 25 #[.val (.int p1)] [(.int p1)])) t
          refine XS.bipush X0.here hx rfl (hb hby d1_25) ?_
          show Steps p.tables e below (s₁.setTop (mkF m 27 #[.val (.int p1)] [(.int (65 : Int32)), (.int p1)])) t
          refine XS.icmpYes X0.here hx rfl (pc0 := 27) (pc' := 40) rfl (hb hby d1_27) rfl (tlt c4).1 (by decide) (by decide) ?_
          show Steps p.tables e below (s₁.setTop (mkF m 40 #[.val (.int p1)] [])) t
          refine XS.iconst X0.here hx rfl (hb hby d1_40) ?_
          exact k
        · by_cases c5 : (70 : Int32) < p1
          · refine ⟨(0 : Int32), (by first | rfl | rw [if_pos c2, if_pos c3, if_neg c4, if_pos c5] | simp only [if_pos c2, if_pos c3, if_neg c4, if_pos c5]), fun t k => P1 t ?_⟩
            show Steps p.tables e below (s₁.setTop (mkF m 3 #[.val (.int p1)] [(.int (48 : Int32)), (.int p1)])) t
            refine XS.icmpYes X0.here hx rfl (pc0 := 3) (pc' := 12) rfl (hb hby d1_3) rfl (tlt c2).1 (by decide) (by decide) ?_
            show Steps p.tables e below (s₁.setTop (mkF m 12 #[.val (.int p1)] [])) t
            refine XS.iloadN X0.here hx rfl (hb hby d1_12) rfl ?_
            show Steps p.tables e below (s₁.setTop (mkF m 13 #[.val (.int p1)] [(.int p1)])) t
            refine XS.bipush X0.here hx rfl (hb hby d1_13) ?_
            show Steps p.tables e below (s₁.setTop (mkF m 15 #[.val (.int p1)] [(.int (97 : Int32)), (.int p1)])) t
            refine XS.icmpYes X0.here hx rfl (pc0 := 15) (pc' := 24) rfl (hb hby d1_15) rfl (tlt c3).1 (by decide) (by decide) ?_
            show Steps p.tables e below (s₁.setTop (mkF m 24 #[.val (.int p1)] [])) t
            refine XS.iloadN X0.here hx rfl (hb hby d1_24) rfl ?_
            show Steps p.tables e below (s₁.setTop (mkF m 25 #[.val (.int p1)] [(.int p1)])) t
            refine XS.bipush X0.here hx rfl (hb hby d1_25) ?_
            show Steps p.tables e below (s₁.setTop (mkF m 27 #[.val (.int p1)] [(.int (65 : Int32)), (.int p1)])) t
            refine XS.icmpNo X0.here hx rfl (hb hby d1_27) rfl (flt c4).1 ?_
            show Steps p.tables e below (s₁.setTop (mkF m 30 #[.val (.int p1)] [])) t
            refine XS.iloadN X0.here hx rfl (hb hby d1_30) rfl ?_
            show Steps p.tables e below (s₁.setTop (mkF m 31 #[.val (.int p1)] [(.int p1)])) t
            refine XS.bipush X0.here hx rfl (hb hby d1_31) ?_
            show Steps p.tables e below (s₁.setTop (mkF m 33 #[.val (.int p1)] [(.int (70 : Int32)), (.int p1)])) t
            refine XS.icmpYes X0.here hx rfl (pc0 := 33) (pc' := 40) rfl (hb hby d1_33) rfl (tlt c5).2.2.1 (by decide) (by decide) ?_
            show Steps p.tables e below (s₁.setTop (mkF m 40 #[.val (.int p1)] [])) t
            refine XS.iconst X0.here hx rfl (hb hby d1_40) ?_
            exact k
          · refine ⟨(1 : Int32), (by first | rfl | rw [if_pos c2, if_pos c3, if_neg c4, if_neg c5] | simp only [if_pos c2, if_pos c3, if_neg c4, if_neg c5]), fun t k => P1 t ?_⟩
            show Steps p.tables e below (s₁.setTop (mkF m 3 #[.val (.int p1)] [(.int (48 : Int32)), (.int p1)])) t
            refine XS.icmpYes X0.here hx rfl (pc0 := 3) (pc' := 12) rfl (hb hby d1_3) rfl (tlt c2).1 (by decide) (by decide) ?_
            show Steps p.tables e below (s₁.setTop (mkF m 12 #[.val (.int p1)] [])) t
            refine XS.iloadN X0.here hx rfl (hb hby d1_12) rfl ?_
            show Steps p.tables e below (s₁.setTop (mkF m 13 #[.val (.int p1)] [(.int p1)])) t
            refine XS.bipush X0.here hx rfl (hb hby d1_13) ?_
            show Steps p.tables e below (s₁.setTop (mkF m 15 #[.val (.int p1)] [(.int (97 : Int32)), (.int p1)])) t
            refine XS.icmpYes X0.here hx rfl (pc0 := 15) (pc' := 24) rfl (hb hby d1_15) rfl (tlt c3).1 (by decide) (by decide) ?_
            show Steps p.tables e below (s₁.setTop (mkF m 24 #[.val (.int p1)] [])) t
            refine XS.iloadN X0.here hx rfl (hb hby d1_24) rfl ?_
            show Steps p.tables e below (s₁.setTop (mkF m 25 #[.val (.int p1)] [(.int p1)])) t
            refine XS.bipush X0.here hx rfl (hb hby d1_25) ?_
            show Steps p.tables e below (s₁.setTop (mkF m 27 #[.val (.int p1)] [(.int (65 : Int32)), (.int p1)])) t
            refine XS.icmpNo X0.here hx rfl (hb hby d1_27) rfl (flt c4).1 ?_
            show Steps p.tables e below (s₁.setTop (mkF m 30 #[.val (.int p1)] [])) t
            refine XS.iloadN X0.here hx rfl (hb hby d1_30) rfl ?_
            show Steps p.tables e below (s₁.setTop (mkF m 31 #[.val (.int p1)] [(.int p1)])) t
            refine XS.bipush X0.here hx rfl (hb hby d1_31) ?_
            show Steps p.tables e below (s₁.setTop (mkF m 33 #[.val (.int p1)] [(.int (70 : Int32)), (.int p1)])) t
            refine XS.icmpNo X0.here hx rfl (hb hby d1_33) rfl (flt c5).2.2.1 ?_
            show Steps p.tables e below (s₁.setTop (mkF m 36 #[.val (.int p1)] [])) t
            refine XS.iconst X0.here hx rfl (hb hby d1_36) ?_
            show Steps p.tables e below (s₁.setTop (mkF m 37 #[.val (.int p1)] [(.int (1 : Int32))])) t
            refine XS.goto X0.here hx rfl (pc0 := 37) (pc' := 41) rfl (hb hby d1_37) (by decide) (by decide) ?_
            exact k
      · by_cases c6 : (102 : Int32) < p1
        · by_cases c7 : p1 < (65 : Int32)
          · refine ⟨(0 : Int32), (by first | rfl | rw [if_pos c2, if_neg c3, if_pos c6, if_pos c7] | simp only [if_pos c2, if_neg c3, if_pos c6, if_pos c7]), fun t k => P1 t ?_⟩
            show Steps p.tables e below (s₁.setTop (mkF m 3 #[.val (.int p1)] [(.int (48 : Int32)), (.int p1)])) t
            refine XS.icmpYes X0.here hx rfl (pc0 := 3) (pc' := 12) rfl (hb hby d1_3) rfl (tlt c2).1 (by decide) (by decide) ?_
            show Steps p.tables e below (s₁.setTop (mkF m 12 #[.val (.int p1)] [])) t
            refine XS.iloadN X0.here hx rfl (hb hby d1_12) rfl ?_
            show Steps p.tables e below (s₁.setTop (mkF m 13 #[.val (.int p1)] [(.int p1)])) t
            refine XS.bipush X0.here hx rfl (hb hby d1_13) ?_
            show Steps p.tables e below (s₁.setTop (mkF m 15 #[.val (.int p1)] [(.int (97 : Int32)), (.int p1)])) t
            refine XS.icmpNo X0.here hx rfl (hb hby d1_15) rfl (flt c3).1 ?_
            show Steps p.tables e below (s₁.setTop (mkF m 18 #[.val (.int p1)] [])) t
            refine XS.iloadN X0.here hx rfl (hb hby d1_18) rfl ?_
            show Steps p.tables e below (s₁.setTop (mkF m 19 #[.val (.int p1)] [(.int p1)])) t
            refine XS.bipush X0.here hx rfl (hb hby d1_19) ?_
            show Steps p.tables e below (s₁.setTop (mkF m 21 #[.val (.int p1)] [(.int (102 : Int32)), (.int p1)])) t
            refine XS.icmpNo X0.here hx rfl (hb hby d1_21) rfl (tlt c6).2.2.2 ?_
            show Steps p.tables e below (s₁.setTop (mkF m 24 #[.val (.int p1)] [])) t
            refine XS.iloadN X0.here hx rfl (hb hby d1_24) rfl ?_
            show Steps p.tables e below (s₁.setTop (mkF m 25 #[.val (.int p1)] [(.int p1)])) t
            refine XS.bipush X0.here hx rfl (hb hby d1_25) ?_
            show Steps p.tables e below (s₁.setTop (mkF m 27 #[.val (.int p1)] [(.int (65 : Int32)), (.int p1)])) t
            refine XS.icmpYes X0.here hx rfl (pc0 := 27) (pc' := 40) rfl (hb hby d1_27) rfl (tlt c7).1 (by decide) (by decide) ?_
            show Steps p.tables e below (s₁.setTop (mkF m 40 #[.val (.int p1)] [])) t
            refine XS.iconst X0.here hx rfl (hb hby d1_40) ?_
            exact k
          · by_cases c8 : (70 : Int32) < p1
            · refine ⟨(0 : Int32), (by first | rfl | rw [if_pos c2, if_neg c3, if_pos c6, if_neg c7, if_pos c8] | simp only [if_pos c2, if_neg c3, if_pos c6, if_neg c7, if_pos c8]), fun t k => P1 t ?_⟩
              show Steps p.tables e below (s₁.setTop (mkF m 3 #[.val (.int p1)] [(.int (48 : Int32)), (.int p1)])) t
              refine XS.icmpYes X0.here hx rfl (pc0 := 3) (pc' := 12) rfl (hb hby d1_3) rfl (tlt c2).1 (by decide) (by decide) ?_
              show Steps p.tables e below (s₁.setTop (mkF m 12 #[.val (.int p1)] [])) t
              refine XS.iloadN X0.here hx rfl (hb hby d1_12) rfl ?_
              show Steps p.tables e below (s₁.setTop (mkF m 13 #[.val (.int p1)] [(.int p1)])) t
              refine XS.bipush X0.here hx rfl (hb hby d1_13) ?_
              show Steps p.tables e below (s₁.setTop (mkF m 15 #[.val (.int p1)] [(.int (97 : Int32)), (.int p1)])) t
              refine XS.icmpNo X0.here hx rfl (hb hby d1_15) rfl (flt c3).1 ?_
              show Steps p.tables e below (s₁.setTop (mkF m 18 #[.val (.int p1)] [])) t
              refine XS.iloadN X0.here hx rfl (hb hby d1_18) rfl ?_
              show Steps p.tables e below (s₁.setTop (mkF m 19 #[.val (.int p1)] [(.int p1)])) t
              refine XS.bipush X0.here hx rfl (hb hby d1_19) ?_
              show Steps p.tables e below (s₁.setTop (mkF m 21 #[.val (.int p1)] [(.int (102 : Int32)), (.int p1)])) t
              refine XS.icmpNo X0.here hx rfl (hb hby d1_21) rfl (tlt c6).2.2.2 ?_
              show Steps p.tables e below (s₁.setTop (mkF m 24 #[.val (.int p1)] [])) t
              refine XS.iloadN X0.here hx rfl (hb hby d1_24) rfl ?_
              show Steps p.tables e below (s₁.setTop (mkF m 25 #[.val (.int p1)] [(.int p1)])) t
              refine XS.bipush X0.here hx rfl (hb hby d1_25) ?_
              show Steps p.tables e below (s₁.setTop (mkF m 27 #[.val (.int p1)] [(.int (65 : Int32)), (.int p1)])) t
              refine XS.icmpNo X0.here hx rfl (hb hby d1_27) rfl (flt c7).1 ?_
              show Steps p.tables e below (s₁.setTop (mkF m 30 #[.val (.int p1)] [])) t
              refine XS.iloadN X0.here hx rfl (hb hby d1_30) rfl ?_
              show Steps p.tables e below (s₁.setTop (mkF m 31 #[.val (.int p1)] [(.int p1)])) t
              refine XS.bipush X0.here hx rfl (hb hby d1_31) ?_
              show Steps p.tables e below (s₁.setTop (mkF m 33 #[.val (.int p1)] [(.int (70 : Int32)), (.int p1)])) t
              refine XS.icmpYes X0.here hx rfl (pc0 := 33) (pc' := 40) rfl (hb hby d1_33) rfl (tlt c8).2.2.1 (by decide) (by decide) ?_
              show Steps p.tables e below (s₁.setTop (mkF m 40 #[.val (.int p1)] [])) t
              refine XS.iconst X0.here hx rfl (hb hby d1_40) ?_
              exact k
            · refine ⟨(1 : Int32), (by first | rfl | rw [if_pos c2, if_neg c3, if_pos c6, if_neg c7, if_neg c8] | simp only [if_pos c2, if_neg c3, if_pos c6, if_neg c7, if_neg c8]), fun t k => P1 t ?_⟩
              show Steps p.tables e below (s₁.setTop (mkF m 3 #[.val (.int p1)] [(.int (48 : Int32)), (.int p1)])) t
              refine XS.icmpYes X0.here hx rfl (pc0 := 3) (pc' := 12) rfl (hb hby d1_3) rfl (tlt c2).1 (by decide) (by decide) ?_
              show Steps p.tables e below (s₁.setTop (mkF m 12 #[.val (.int p1)] [])) t
              refine XS.iloadN X0.here hx rfl (hb hby d1_12) rfl ?_
              show Steps p.tables e below (s₁.setTop (mkF m 13 #[.val (.int p1)] [(.int p1)])) t
              refine XS.bipush X0.here hx rfl (hb hby d1_13) ?_
              show Steps p.tables e below (s₁.setTop (mkF m 15 #[.val (.int p1)] [(.int (97 : Int32)), (.int p1)])) t
              refine XS.icmpNo X0.here hx rfl (hb hby d1_15) rfl (flt c3).1 ?_
              show Steps p.tables e below (s₁.setTop (mkF m 18 #[.val (.int p1)] [])) t
              refine XS.iloadN X0.here hx rfl (hb hby d1_18) rfl ?_
              show Steps p.tables e below (s₁.setTop (mkF m 19 #[.val (.int p1)] [(.int p1)])) t
              refine XS.bipush X0.here hx rfl (hb hby d1_19) ?_
              show Steps p.tables e below (s₁.setTop (mkF m 21 #[.val (.int p1)] [(.int (102 : Int32)), (.int p1)])) t
              refine XS.icmpNo X0.here hx rfl (hb hby d1_21) rfl (tlt c6).2.2.2 ?_
              show Steps p.tables e below (s₁.setTop (mkF m 24 #[.val (.int p1)] [])) t
              refine XS.iloadN X0.here hx rfl (hb hby d1_24) rfl ?_
              show Steps p.tables e below (s₁.setTop (mkF m 25 #[.val (.int p1)] [(.int p1)])) t
              refine XS.bipush X0.here hx rfl (hb hby d1_25) ?_
              show Steps p.tables e below (s₁.setTop (mkF m 27 #[.val (.int p1)] [(.int (65 : Int32)), (.int p1)])) t
              refine XS.icmpNo X0.here hx rfl (hb hby d1_27) rfl (flt c7).1 ?_
              show Steps p.tables e below (s₁.setTop (mkF m 30 #[.val (.int p1)] [])) t
              refine XS.iloadN X0.here hx rfl (hb hby d1_30) rfl ?_
              show Steps p.tables e below (s₁.setTop (mkF m 31 #[.val (.int p1)] [(.int p1)])) t
              refine XS.bipush X0.here hx rfl (hb hby d1_31) ?_
              show Steps p.tables e below (s₁.setTop (mkF m 33 #[.val (.int p1)] [(.int (70 : Int32)), (.int p1)])) t
              refine XS.icmpNo X0.here hx rfl (hb hby d1_33) rfl (flt c8).2.2.1 ?_
              show Steps p.tables e below (s₁.setTop (mkF m 36 #[.val (.int p1)] [])) t
              refine XS.iconst X0.here hx rfl (hb hby d1_36) ?_
              show Steps p.tables e below (s₁.setTop (mkF m 37 #[.val (.int p1)] [(.int (1 : Int32))])) t
              refine XS.goto X0.here hx rfl (pc0 := 37) (pc' := 41) rfl (hb hby d1_37) (by decide) (by decide) ?_
              exact k
        · refine ⟨(1 : Int32), (by first | rfl | rw [if_pos c2, if_neg c3, if_neg c6] | simp only [if_pos c2, if_neg c3, if_neg c6]), fun t k => P1 t ?_⟩
          show Steps p.tables e below (s₁.setTop (mkF m 3 #[.val (.int p1)] [(.int (48 : Int32)), (.int p1)])) t
          refine XS.icmpYes X0.here hx rfl (pc0 := 3) (pc' := 12) rfl (hb hby d1_3) rfl (tlt c2).1 (by decide) (by decide) ?_
          show Steps p.tables e below (s₁.setTop (mkF m 12 #[.val (.int p1)] [])) t
          refine XS.iloadN X0.here hx rfl (hb hby d1_12) rfl ?_
          show Steps p.tables e below (s₁.setTop (mkF m 13 #[.val (.int p1)] [(.int p1)])) t
          refine XS.bipush X0.here hx rfl (hb hby d1_13) ?_
          show Steps p.tables e below (s₁.setTop (mkF m 15 #[.val (.int p1)] [(.int (97 : Int32)), (.int p1)])) t
          refine XS.icmpNo X0.here hx rfl (hb hby d1_15) rfl (flt c3).1 ?_
          show Steps p.tables e below (s₁.setTop (mkF m 18 #[.val (.int p1)] [])) t
          refine XS.iloadN X0.here hx rfl (hb hby d1_18) rfl ?_
          show Steps p.tables e below (s₁.setTop (mkF m 19 #[.val (.int p1)] [(.int p1)])) t
          refine XS.bipush X0.here hx rfl (hb hby d1_19) ?_
          show Steps p.tables e below (s₁.setTop (mkF m 21 #[.val (.int p1)] [(.int (102 : Int32)), (.int p1)])) t
          refine XS.icmpYes X0.here hx rfl (pc0 := 21) (pc' := 36) rfl (hb hby d1_21) rfl (flt c6).2.2.2 (by decide) (by decide) ?_
          show Steps p.tables e below (s₁.setTop (mkF m 36 #[.val (.int p1)] [])) t
          refine XS.iconst X0.here hx rfl (hb hby d1_36) ?_
          show Steps p.tables e below (s₁.setTop (mkF m 37 #[.val (.int p1)] [(.int (1 : Int32))])) t
          refine XS.goto X0.here hx rfl (pc0 := 37) (pc' := 41) rfl (hb hby d1_37) (by decide) (by decide) ?_
          exact k
    · by_cases c9 : (57 : Int32) < p1
      · by_cases c10 : p1 < (97 : Int32)
        · by_cases c11 : p1 < (65 : Int32)
          · refine ⟨(0 : Int32), (by first | rfl | rw [if_neg c2, if_pos c9, if_pos c10, if_pos c11] | simp only [if_neg c2, if_pos c9, if_pos c10, if_pos c11]), fun t k => P1 t ?_⟩
            show Steps p.tables e below (s₁.setTop (mkF m 3 #[.val (.int p1)] [(.int (48 : Int32)), (.int p1)])) t
            refine XS.icmpNo X0.here hx rfl (hb hby d1_3) rfl (flt c2).1 ?_
            show Steps p.tables e below (s₁.setTop (mkF m 6 #[.val (.int p1)] [])) t
            refine XS.iloadN X0.here hx rfl (hb hby d1_6) rfl ?_
            show Steps p.tables e below (s₁.setTop (mkF m 7 #[.val (.int p1)] [(.int p1)])) t
            refine XS.bipush X0.here hx rfl (hb hby d1_7) ?_
            show Steps p.tables e below (s₁.setTop (mkF m 9 #[.val (.int p1)] [(.int (57 : Int32)), (.int p1)])) t
            refine XS.icmpNo X0.here hx rfl (hb hby d1_9) rfl (tlt c9).2.2.2 ?_
            show Steps p.tables e below (s₁.setTop (mkF m 12 #[.val (.int p1)] [])) t
            refine XS.iloadN X0.here hx rfl (hb hby d1_12) rfl ?_
            show Steps p.tables e below (s₁.setTop (mkF m 13 #[.val (.int p1)] [(.int p1)])) t
            refine XS.bipush X0.here hx rfl (hb hby d1_13) ?_
            show Steps p.tables e below (s₁.setTop (mkF m 15 #[.val (.int p1)] [(.int (97 : Int32)), (.int p1)])) t
            refine XS.icmpYes X0.here hx rfl (pc0 := 15) (pc' := 24) rfl (hb hby d1_15) rfl (tlt c10).1 (by decide) (by decide) ?_
            show Steps p.tables e below (s₁.setTop (mkF m 24 #[.val (.int p1)] [])) t
            refine XS.iloadN X0.here hx rfl (hb hby d1_24) rfl ?_
            show Steps p.tables e below (s₁.setTop (mkF m 25 #[.val (.int p1)] [(.int p1)])) t
            refine XS.bipush X0.here hx rfl (hb hby d1_25) ?_
            show Steps p.tables e below (s₁.setTop (mkF m 27 #[.val (.int p1)] [(.int (65 : Int32)), (.int p1)])) t
            refine XS.icmpYes X0.here hx rfl (pc0 := 27) (pc' := 40) rfl (hb hby d1_27) rfl (tlt c11).1 (by decide) (by decide) ?_
            show Steps p.tables e below (s₁.setTop (mkF m 40 #[.val (.int p1)] [])) t
            refine XS.iconst X0.here hx rfl (hb hby d1_40) ?_
            exact k
          · by_cases c12 : (70 : Int32) < p1
            · refine ⟨(0 : Int32), (by first | rfl | rw [if_neg c2, if_pos c9, if_pos c10, if_neg c11, if_pos c12] | simp only [if_neg c2, if_pos c9, if_pos c10, if_neg c11, if_pos c12]), fun t k => P1 t ?_⟩
              show Steps p.tables e below (s₁.setTop (mkF m 3 #[.val (.int p1)] [(.int (48 : Int32)), (.int p1)])) t
              refine XS.icmpNo X0.here hx rfl (hb hby d1_3) rfl (flt c2).1 ?_
              show Steps p.tables e below (s₁.setTop (mkF m 6 #[.val (.int p1)] [])) t
              refine XS.iloadN X0.here hx rfl (hb hby d1_6) rfl ?_
              show Steps p.tables e below (s₁.setTop (mkF m 7 #[.val (.int p1)] [(.int p1)])) t
              refine XS.bipush X0.here hx rfl (hb hby d1_7) ?_
              show Steps p.tables e below (s₁.setTop (mkF m 9 #[.val (.int p1)] [(.int (57 : Int32)), (.int p1)])) t
              refine XS.icmpNo X0.here hx rfl (hb hby d1_9) rfl (tlt c9).2.2.2 ?_
              show Steps p.tables e below (s₁.setTop (mkF m 12 #[.val (.int p1)] [])) t
              refine XS.iloadN X0.here hx rfl (hb hby d1_12) rfl ?_
              show Steps p.tables e below (s₁.setTop (mkF m 13 #[.val (.int p1)] [(.int p1)])) t
              refine XS.bipush X0.here hx rfl (hb hby d1_13) ?_
              show Steps p.tables e below (s₁.setTop (mkF m 15 #[.val (.int p1)] [(.int (97 : Int32)), (.int p1)])) t
              refine XS.icmpYes X0.here hx rfl (pc0 := 15) (pc' := 24) rfl (hb hby d1_15) rfl (tlt c10).1 (by decide) (by decide) ?_
              show Steps p.tables e below (s₁.setTop (mkF m 24 #[.val (.int p1)] [])) t
              refine XS.iloadN X0.here hx rfl (hb hby d1_24) rfl ?_
              show Steps p.tables e below (s₁.setTop (mkF m 25 #[.val (.int p1)] [(.int p1)])) t
              refine XS.bipush X0.here hx rfl (hb hby d1_25) ?_
              show Steps p.tables e below (s₁.setTop (mkF m 27 #[.val (.int p1)] [(.int (65 : Int32)), (.int p1)])) t
              refine XS.icmpNo X0.here hx rfl (hb hby d1_27) rfl (flt c11).1 ?_
              show Steps p.tables e below (s₁.setTop (mkF m 30 #[.val (.int p1)] [])) t
              refine XS.iloadN X0.here hx rfl (hb hby d1_30) rfl ?_
              show Steps p.tables e below (s₁.setTop (mkF m 31 #[.val (.int p1)] [(.int p1)])) t
              refine XS.bipush X0.here hx rfl (hb hby d1_31) ?_
              show Steps p.tables e below (s₁.setTop (mkF m 33 #[.val (.int p1)] [(.int (70 : Int32)), (.int p1)])) t
              refine XS.icmpYes X0.here hx rfl (pc0 := 33) (pc' := 40) rfl (hb hby d1_33) rfl (tlt c12).2.2.1 (by decide) (by decide) ?_
              show Steps p.tables e below (s₁.setTop (mkF m 40 #[.val (.int p1)] [])) t
              refine XS.iconst X0.here hx rfl (hb hby d1_40) ?_
              exact k
            · refine ⟨(1 : Int32), (by first | rfl | rw [if_neg c2, if_pos c9, if_pos c10, if_neg c11, if_neg c12] | simp only [if_neg c2, if_pos c9, if_pos c10, if_neg c11, if_neg c12]), fun t k => P1 t ?_⟩
              show Steps p.tables e below (s₁.setTop (mkF m 3 #[.val (.int p1)] [(.int (48 : Int32)), (.int p1)])) t
              refine XS.icmpNo X0.here hx rfl (hb hby d1_3) rfl (flt c2).1 ?_
              show Steps p.tables e below (s₁.setTop (mkF m 6 #[.val (.int p1)] [])) t
              refine XS.iloadN X0.here hx rfl (hb hby d1_6) rfl ?_
              show Steps p.tables e below (s₁.setTop (mkF m 7 #[.val (.int p1)] [(.int p1)])) t
              refine XS.bipush X0.here hx rfl (hb hby d1_7) ?_
              show Steps p.tables e below (s₁.setTop (mkF m 9 #[.val (.int p1)] [(.int (57 : Int32)), (.int p1)])) t
              refine XS.icmpNo X0.here hx rfl (hb hby d1_9) rfl (tlt c9).2.2.2 ?_
              show Steps p.tables e below (s₁.setTop (mkF m 12 #[.val (.int p1)] [])) t
              refine XS.iloadN X0.here hx rfl (hb hby d1_12) rfl ?_
              show Steps p.tables e below (s₁.setTop (mkF m 13 #[.val (.int p1)] [(.int p1)])) t
              refine XS.bipush X0.here hx rfl (hb hby d1_13) ?_
              show Steps p.tables e below (s₁.setTop (mkF m 15 #[.val (.int p1)] [(.int (97 : Int32)), (.int p1)])) t
              refine XS.icmpYes X0.here hx rfl (pc0 := 15) (pc' := 24) rfl (hb hby d1_15) rfl (tlt c10).1 (by decide) (by decide) ?_
              show Steps p.tables e below (s₁.setTop (mkF m 24 #[.val (.int p1)] [])) t
              refine XS.iloadN X0.here hx rfl (hb hby d1_24) rfl ?_
              show Steps p.tables e below (s₁.setTop (mkF m 25 #[.val (.int p1)] [(.int p1)])) t
              refine XS.bipush X0.here hx rfl (hb hby d1_25) ?_
              show Steps p.tables e below (s₁.setTop (mkF m 27 #[.val (.int p1)] [(.int (65 : Int32)), (.int p1)])) t
              refine XS.icmpNo X0.here hx rfl (hb hby d1_27) rfl (flt c11).1 ?_
              show Steps p.tables e below (s₁.setTop (mkF m 30 #[.val (.int p1)] [])) t
              refine XS.iloadN X0.here hx rfl (hb hby d1_30) rfl ?_
              show Steps p.tables e below (s₁.setTop (mkF m 31 #[.val (.int p1)] [(.int p1)])) t
              refine XS.bipush X0.here hx rfl (hb hby d1_31) ?_
              show Steps p.tables e below (s₁.setTop (mkF m 33 #[.val (.int p1)] [(.int (70 : Int32)), (.int p1)])) t
              refine XS.icmpNo X0.here hx rfl (hb hby d1_33) rfl (flt c12).2.2.1 ?_
              show Steps p.tables e below (s₁.setTop (mkF m 36 #[.val (.int p1)] [])) t
              refine XS.iconst X0.here hx rfl (hb hby d1_36) ?_
              show Steps p.tables e below (s₁.setTop (mkF m 37 #[.val (.int p1)] [(.int (1 : Int32))])) t
              refine XS.goto X0.here hx rfl (pc0 := 37) (pc' := 41) rfl (hb hby d1_37) (by decide) (by decide) ?_
              exact k
        · by_cases c13 : (102 : Int32) < p1
          · by_cases c14 : p1 < (65 : Int32)
            · refine ⟨(0 : Int32), (by first | rfl | rw [if_neg c2, if_pos c9, if_neg c10, if_pos c13, if_pos c14] | simp only [if_neg c2, if_pos c9, if_neg c10, if_pos c13, if_pos c14]), fun t k => P1 t ?_⟩
              show Steps p.tables e below (s₁.setTop (mkF m 3 #[.val (.int p1)] [(.int (48 : Int32)), (.int p1)])) t
              refine XS.icmpNo X0.here hx rfl (hb hby d1_3) rfl (flt c2).1 ?_
              show Steps p.tables e below (s₁.setTop (mkF m 6 #[.val (.int p1)] [])) t
              refine XS.iloadN X0.here hx rfl (hb hby d1_6) rfl ?_
              show Steps p.tables e below (s₁.setTop (mkF m 7 #[.val (.int p1)] [(.int p1)])) t
              refine XS.bipush X0.here hx rfl (hb hby d1_7) ?_
              show Steps p.tables e below (s₁.setTop (mkF m 9 #[.val (.int p1)] [(.int (57 : Int32)), (.int p1)])) t
              refine XS.icmpNo X0.here hx rfl (hb hby d1_9) rfl (tlt c9).2.2.2 ?_
              show Steps p.tables e below (s₁.setTop (mkF m 12 #[.val (.int p1)] [])) t
              refine XS.iloadN X0.here hx rfl (hb hby d1_12) rfl ?_
              show Steps p.tables e below (s₁.setTop (mkF m 13 #[.val (.int p1)] [(.int p1)])) t
              refine XS.bipush X0.here hx rfl (hb hby d1_13) ?_
              show Steps p.tables e below (s₁.setTop (mkF m 15 #[.val (.int p1)] [(.int (97 : Int32)), (.int p1)])) t
              refine XS.icmpNo X0.here hx rfl (hb hby d1_15) rfl (flt c10).1 ?_
              show Steps p.tables e below (s₁.setTop (mkF m 18 #[.val (.int p1)] [])) t
              refine XS.iloadN X0.here hx rfl (hb hby d1_18) rfl ?_
              show Steps p.tables e below (s₁.setTop (mkF m 19 #[.val (.int p1)] [(.int p1)])) t
              refine XS.bipush X0.here hx rfl (hb hby d1_19) ?_
              show Steps p.tables e below (s₁.setTop (mkF m 21 #[.val (.int p1)] [(.int (102 : Int32)), (.int p1)])) t
              refine XS.icmpNo X0.here hx rfl (hb hby d1_21) rfl (tlt c13).2.2.2 ?_
              show Steps p.tables e below (s₁.setTop (mkF m 24 #[.val (.int p1)] [])) t
              refine XS.iloadN X0.here hx rfl (hb hby d1_24) rfl ?_
              show Steps p.tables e below (s₁.setTop (mkF m 25 #[.val (.int p1)] [(.int p1)])) t
              refine XS.bipush X0.here hx rfl (hb hby d1_25) ?_
              show Steps p.tables e below (s₁.setTop (mkF m 27 #[.val (.int p1)] [(.int (65 : Int32)), (.int p1)])) t
              refine XS.icmpYes X0.here hx rfl (pc0 := 27) (pc' := 40) rfl (hb hby d1_27) rfl (tlt c14).1 (by decide) (by decide) ?_
              show Steps p.tables e below (s₁.setTop (mkF m 40 #[.val (.int p1)] [])) t
              refine XS.iconst X0.here hx rfl (hb hby d1_40) ?_
              exact k
            · by_cases c15 : (70 : Int32) < p1
              · refine ⟨(0 : Int32), (by first | rfl | rw [if_neg c2, if_pos c9, if_neg c10, if_pos c13, if_neg c14, if_pos c15] | simp only [if_neg c2, if_pos c9, if_neg c10, if_pos c13, if_neg c14, if_pos c15]), fun t k => P1 t ?_⟩
                show Steps p.tables e below (s₁.setTop (mkF m 3 #[.val (.int p1)] [(.int (48 : Int32)), (.int p1)])) t
                refine XS.icmpNo X0.here hx rfl (hb hby d1_3) rfl (flt c2).1 ?_
                show Steps p.tables e below (s₁.setTop (mkF m 6 #[.val (.int p1)] [])) t
                refine XS.iloadN X0.here hx rfl (hb hby d1_6) rfl ?_
                show Steps p.tables e below (s₁.setTop (mkF m 7 #[.val (.int p1)] [(.int p1)])) t
                refine XS.bipush X0.here hx rfl (hb hby d1_7) ?_
                show Steps p.tables e below (s₁.setTop (mkF m 9 #[.val (.int p1)] [(.int (57 : Int32)), (.int p1)])) t
                refine XS.icmpNo X0.here hx rfl (hb hby d1_9) rfl (tlt c9).2.2.2 ?_
                show Steps p.tables e below (s₁.setTop (mkF m 12 #[.val (.int p1)] [])) t
                refine XS.iloadN X0.here hx rfl (hb hby d1_12) rfl ?_
                show Steps p.tables e below (s₁.setTop (mkF m 13 #[.val (.int p1)] [(.int p1)])) t
                refine XS.bipush X0.here hx rfl (hb hby d1_13) ?_
                show Steps p.tables e below (s₁.setTop (mkF m 15 #[.val (.int p1)] [(.int (97 : Int32)), (.int p1)])) t
                refine XS.icmpNo X0.here hx rfl (hb hby d1_15) rfl (flt c10).1 ?_
                show Steps p.tables e below (s₁.setTop (mkF m 18 #[.val (.int p1)] [])) t
                refine XS.iloadN X0.here hx rfl (hb hby d1_18) rfl ?_
                show Steps p.tables e below (s₁.setTop (mkF m 19 #[.val (.int p1)] [(.int p1)])) t
                refine XS.bipush X0.here hx rfl (hb hby d1_19) ?_
                show Steps p.tables e below (s₁.setTop (mkF m 21 #[.val (.int p1)] [(.int (102 : Int32)), (.int p1)])) t
                refine XS.icmpNo X0.here hx rfl (hb hby d1_21) rfl (tlt c13).2.2.2 ?_
                show Steps p.tables e below (s₁.setTop (mkF m 24 #[.val (.int p1)] [])) t
                refine XS.iloadN X0.here hx rfl (hb hby d1_24) rfl ?_
                show Steps p.tables e below (s₁.setTop (mkF m 25 #[.val (.int p1)] [(.int p1)])) t
                refine XS.bipush X0.here hx rfl (hb hby d1_25) ?_
                show Steps p.tables e below (s₁.setTop (mkF m 27 #[.val (.int p1)] [(.int (65 : Int32)), (.int p1)])) t
                refine XS.icmpNo X0.here hx rfl (hb hby d1_27) rfl (flt c14).1 ?_
                show Steps p.tables e below (s₁.setTop (mkF m 30 #[.val (.int p1)] [])) t
                refine XS.iloadN X0.here hx rfl (hb hby d1_30) rfl ?_
                show Steps p.tables e below (s₁.setTop (mkF m 31 #[.val (.int p1)] [(.int p1)])) t
                refine XS.bipush X0.here hx rfl (hb hby d1_31) ?_
                show Steps p.tables e below (s₁.setTop (mkF m 33 #[.val (.int p1)] [(.int (70 : Int32)), (.int p1)])) t
                refine XS.icmpYes X0.here hx rfl (pc0 := 33) (pc' := 40) rfl (hb hby d1_33) rfl (tlt c15).2.2.1 (by decide) (by decide) ?_
                show Steps p.tables e below (s₁.setTop (mkF m 40 #[.val (.int p1)] [])) t
                refine XS.iconst X0.here hx rfl (hb hby d1_40) ?_
                exact k
              · refine ⟨(1 : Int32), (by first | rfl | rw [if_neg c2, if_pos c9, if_neg c10, if_pos c13, if_neg c14, if_neg c15] | simp only [if_neg c2, if_pos c9, if_neg c10, if_pos c13, if_neg c14, if_neg c15]), fun t k => P1 t ?_⟩
                show Steps p.tables e below (s₁.setTop (mkF m 3 #[.val (.int p1)] [(.int (48 : Int32)), (.int p1)])) t
                refine XS.icmpNo X0.here hx rfl (hb hby d1_3) rfl (flt c2).1 ?_
                show Steps p.tables e below (s₁.setTop (mkF m 6 #[.val (.int p1)] [])) t
                refine XS.iloadN X0.here hx rfl (hb hby d1_6) rfl ?_
                show Steps p.tables e below (s₁.setTop (mkF m 7 #[.val (.int p1)] [(.int p1)])) t
                refine XS.bipush X0.here hx rfl (hb hby d1_7) ?_
                show Steps p.tables e below (s₁.setTop (mkF m 9 #[.val (.int p1)] [(.int (57 : Int32)), (.int p1)])) t
                refine XS.icmpNo X0.here hx rfl (hb hby d1_9) rfl (tlt c9).2.2.2 ?_
                show Steps p.tables e below (s₁.setTop (mkF m 12 #[.val (.int p1)] [])) t
                refine XS.iloadN X0.here hx rfl (hb hby d1_12) rfl ?_
                show Steps p.tables e below (s₁.setTop (mkF m 13 #[.val (.int p1)] [(.int p1)])) t
                refine XS.bipush X0.here hx rfl (hb hby d1_13) ?_
                show Steps p.tables e below (s₁.setTop (mkF m 15 #[.val (.int p1)] [(.int (97 : Int32)), (.int p1)])) t
                refine XS.icmpNo X0.here hx rfl (hb hby d1_15) rfl (flt c10).1 ?_
                show Steps p.tables e below (s₁.setTop (mkF m 18 #[.val (.int p1)] [])) t
                refine XS.iloadN X0.here hx rfl (hb hby d1_18) rfl ?_
                show Steps p.tables e below (s₁.setTop (mkF m 19 #[.val (.int p1)] [(.int p1)])) t
                refine XS.bipush X0.here hx rfl (hb hby d1_19) ?_
                show Steps p.tables e below (s₁.setTop (mkF m 21 #[.val (.int p1)] [(.int (102 : Int32)), (.int p1)])) t
                refine XS.icmpNo X0.here hx rfl (hb hby d1_21) rfl (tlt c13).2.2.2 ?_
                show Steps p.tables e below (s₁.setTop (mkF m 24 #[.val (.int p1)] [])) t
                refine XS.iloadN X0.here hx rfl (hb hby d1_24) rfl ?_
                show Steps p.tables e below (s₁.setTop (mkF m 25 #[.val (.int p1)] [(.int p1)])) t
                refine XS.bipush X0.here hx rfl (hb hby d1_25) ?_
                show Steps p.tables e below (s₁.setTop (mkF m 27 #[.val (.int p1)] [(.int (65 : Int32)), (.int p1)])) t
                refine XS.icmpNo X0.here hx rfl (hb hby d1_27) rfl (flt c14).1 ?_
                show Steps p.tables e below (s₁.setTop (mkF m 30 #[.val (.int p1)] [])) t
                refine XS.iloadN X0.here hx rfl (hb hby d1_30) rfl ?_
                show Steps p.tables e below (s₁.setTop (mkF m 31 #[.val (.int p1)] [(.int p1)])) t
                refine XS.bipush X0.here hx rfl (hb hby d1_31) ?_
                show Steps p.tables e below (s₁.setTop (mkF m 33 #[.val (.int p1)] [(.int (70 : Int32)), (.int p1)])) t
                refine XS.icmpNo X0.here hx rfl (hb hby d1_33) rfl (flt c15).2.2.1 ?_
                show Steps p.tables e below (s₁.setTop (mkF m 36 #[.val (.int p1)] [])) t
                refine XS.iconst X0.here hx rfl (hb hby d1_36) ?_
                show Steps p.tables e below (s₁.setTop (mkF m 37 #[.val (.int p1)] [(.int (1 : Int32))])) t
                refine XS.goto X0.here hx rfl (pc0 := 37) (pc' := 41) rfl (hb hby d1_37) (by decide) (by decide) ?_
                exact k
          · refine ⟨(1 : Int32), (by first | rfl | rw [if_neg c2, if_pos c9, if_neg c10, if_neg c13] | simp only [if_neg c2, if_pos c9, if_neg c10, if_neg c13]), fun t k => P1 t ?_⟩
            show Steps p.tables e below (s₁.setTop (mkF m 3 #[.val (.int p1)] [(.int (48 : Int32)), (.int p1)])) t
            refine XS.icmpNo X0.here hx rfl (hb hby d1_3) rfl (flt c2).1 ?_
            show Steps p.tables e below (s₁.setTop (mkF m 6 #[.val (.int p1)] [])) t
            refine XS.iloadN X0.here hx rfl (hb hby d1_6) rfl ?_
            show Steps p.tables e below (s₁.setTop (mkF m 7 #[.val (.int p1)] [(.int p1)])) t
            refine XS.bipush X0.here hx rfl (hb hby d1_7) ?_
            show Steps p.tables e below (s₁.setTop (mkF m 9 #[.val (.int p1)] [(.int (57 : Int32)), (.int p1)])) t
            refine XS.icmpNo X0.here hx rfl (hb hby d1_9) rfl (tlt c9).2.2.2 ?_
            show Steps p.tables e below (s₁.setTop (mkF m 12 #[.val (.int p1)] [])) t
            refine XS.iloadN X0.here hx rfl (hb hby d1_12) rfl ?_
            show Steps p.tables e below (s₁.setTop (mkF m 13 #[.val (.int p1)] [(.int p1)])) t
            refine XS.bipush X0.here hx rfl (hb hby d1_13) ?_
            show Steps p.tables e below (s₁.setTop (mkF m 15 #[.val (.int p1)] [(.int (97 : Int32)), (.int p1)])) t
            refine XS.icmpNo X0.here hx rfl (hb hby d1_15) rfl (flt c10).1 ?_
            show Steps p.tables e below (s₁.setTop (mkF m 18 #[.val (.int p1)] [])) t
            refine XS.iloadN X0.here hx rfl (hb hby d1_18) rfl ?_
            show Steps p.tables e below (s₁.setTop (mkF m 19 #[.val (.int p1)] [(.int p1)])) t
            refine XS.bipush X0.here hx rfl (hb hby d1_19) ?_
            show Steps p.tables e below (s₁.setTop (mkF m 21 #[.val (.int p1)] [(.int (102 : Int32)), (.int p1)])) t
            refine XS.icmpYes X0.here hx rfl (pc0 := 21) (pc' := 36) rfl (hb hby d1_21) rfl (flt c13).2.2.2 (by decide) (by decide) ?_
            show Steps p.tables e below (s₁.setTop (mkF m 36 #[.val (.int p1)] [])) t
            refine XS.iconst X0.here hx rfl (hb hby d1_36) ?_
            show Steps p.tables e below (s₁.setTop (mkF m 37 #[.val (.int p1)] [(.int (1 : Int32))])) t
            refine XS.goto X0.here hx rfl (pc0 := 37) (pc' := 41) rfl (hb hby d1_37) (by decide) (by decide) ?_
            exact k
      · refine ⟨(1 : Int32), (by first | rfl | rw [if_neg c2, if_neg c9] | simp only [if_neg c2, if_neg c9]), fun t k => P1 t ?_⟩
        show Steps p.tables e below (s₁.setTop (mkF m 3 #[.val (.int p1)] [(.int (48 : Int32)), (.int p1)])) t
        refine XS.icmpNo X0.here hx rfl (hb hby d1_3) rfl (flt c2).1 ?_
        show Steps p.tables e below (s₁.setTop (mkF m 6 #[.val (.int p1)] [])) t
        refine XS.iloadN X0.here hx rfl (hb hby d1_6) rfl ?_
        show Steps p.tables e below (s₁.setTop (mkF m 7 #[.val (.int p1)] [(.int p1)])) t
        refine XS.bipush X0.here hx rfl (hb hby d1_7) ?_
        show Steps p.tables e below (s₁.setTop (mkF m 9 #[.val (.int p1)] [(.int (57 : Int32)), (.int p1)])) t
        refine XS.icmpYes X0.here hx rfl (pc0 := 9) (pc' := 36) rfl (hb hby d1_9) rfl (flt c9).2.2.2 (by decide) (by decide) ?_
        show Steps p.tables e below (s₁.setTop (mkF m 36 #[.val (.int p1)] [])) t
        refine XS.iconst X0.here hx rfl (hb hby d1_36) ?_
        show Steps p.tables e below (s₁.setTop (mkF m 37 #[.val (.int p1)] [(.int (1 : Int32))])) t
        refine XS.goto X0.here hx rfl (pc0 := 37) (pc' := 41) rfl (hb hby d1_37) (by decide) (by decide) ?_
        exact k
  have hz18 : nar .boolean v16 = v16 := by rw [hv16]; (repeat' split) <;> rfl
  obtain ⟨fs, hr, hrun, hended, hW, hsame⟩ := X0.leave (v := some (.int (nar .boolean v16))) (fun h => by rw [Bd.returns] at h; cases h)
  refine ⟨_, _, P17 _ ?_, hrun, hended, _, _, rfl, ?_, ⟨_, rfl⟩, hW, hsame.mono (by decide) (by decide)⟩
  · exact retN X0 hx (t := .boolean) Bd.returns (by simp) (hb hby d1_41) hr
  · show Q_rmH Z p1 h0 n0 _ s₁.heap _
    rw [e0]
    exact ⟨(by rw [hz18]; subst hv16; first | rfl | rw [] | simp only [] | simp [*]), N0, rfl⟩
def Q_rm0 (Z : State) (p1 : Int32) (h0 : Heap) (n0 : Nat) (v : Option Value) (h : Heap) (L : List Loc) : Prop := v = some (.int (1 : Int32)) ∧ Fr n0 L
set_option maxRecDepth 65536 in
set_option maxHeartbeats 40000000 in
theorem rm0 (l : Launch) (Z : State) (a0 : Array Value) (hw : ∀ d ∈ tables_1, d.before a0 Z = true) (ws : List Jvm.Cond) (p1 : Int32) (h0 : Heap) (n0 : Nat) (Z0 : n0 ≤ h0.size) :
    MetFree l x (head1 (Jvm.Cond.code x code maxLocals ret :: ws) room_1) (fun a U => a = #[(.int p1)] ∧ Z.Warmed39 U.vm ∧ U.heap = h0) (fun _ _ _ _ _ => True) (fun _ U o U' => ∃ v L, o = .returned v ∧ Q_rm0 Z p1 h0 n0 v U'.heap L ∧ FrameEnd U o U' L room_1.cells room_1.slots) := by
  refine MetFree.of_bodySF (plainFor_of_name pn_1) hisR ?_
  intro p e s m args below meth c s₁ Bd hml0 hP hK
  obtain ⟨rfl, hZ, hh⟩ := hP
  have hx := Bd.exec
  have hby := Bd.bytes
  have hml : c.maxLocals = 6 := hml0
  have hown : s.vm.findClass "com/example/rapid_pdp/rapidpdp/model/OctetsIsHexDigitPinLaw" = some m.cls := findClass_of_methodNamed Bd.named
  have hnm := (name_of_methodNamed Bd.named Bd.method).1
  have X0 : Stand p l e room_1 s m #[(.int p1)] below meth c s₁ [] 0 0 := Stand.of_body Bd
  have e0 : s₁.heap = h0 := by rw [← hh, Bd.state]; rfl
  have N0 := Fr.nil n0
  have P0 : Rch p e below (s₁.setTop (entryFrame m #[(.int p1)] maxLocals)) (s₁.setTop (mkF m 0 #[.val (.int p1), .unset, .unset, .unset, .unset, .unset] [])) := fun t k => castTop (by first | rfl | (simp [entryFrame, mkF, argsToLocals, Value.category, maxLocals]; done)) k
  obtain ⟨x1, hx1⟩ : ∃ z : Int32, z = (p1.toUInt32.toUInt16.toUInt32.toInt32) := ⟨_, rfl⟩
  obtain ⟨x2, hx2⟩ : ∃ z : Int32, z = ((p1.toUInt32.toUInt16.toUInt32.toInt32) - (48 : Int32)) := ⟨_, rfl⟩
  have P3 : Rch p e below (s₁.setTop (entryFrame m #[(.int p1)] maxLocals)) (s₁.setTop (mkF m 8 #[.val (.int p1), .val (.int x1), .val (.int x2), .unset, .unset, .unset] [])) := fun t k => P0 t (by
    subst hx1 hx2
    show Steps p.tables e below (s₁.setTop (mkF m 0 #[.val (.int p1), .unset, .unset, .unset, .unset, .unset] [])) t
    refine XS.iloadN X0.here hx rfl (hb hby at_0) rfl ?_
    show Steps p.tables e below (s₁.setTop (mkF m 1 #[.val (.int p1), .unset, .unset, .unset, .unset, .unset] [(.int p1)])) t
    refine XS.i2c X0.here hx rfl (hb hby at_1) rfl ?_
    show Steps p.tables e below (s₁.setTop (mkF m 2 #[.val (.int p1), .unset, .unset, .unset, .unset, .unset] [(.int (p1.toUInt32.toUInt16.toUInt32.toInt32))])) t
    refine XS.istoreN X0.here hx rfl (hb hby at_2) rfl (l' := #[.val (.int p1), .val (.int (p1.toUInt32.toUInt16.toUInt32.toInt32)), .unset, .unset, .unset, .unset]) rfl ?_
    show Steps p.tables e below (s₁.setTop (mkF m 3 #[.val (.int p1), .val (.int (p1.toUInt32.toUInt16.toUInt32.toInt32)), .unset, .unset, .unset, .unset] [])) t
    refine XS.iloadN X0.here hx rfl (hb hby at_3) rfl ?_
    show Steps p.tables e below (s₁.setTop (mkF m 4 #[.val (.int p1), .val (.int (p1.toUInt32.toUInt16.toUInt32.toInt32)), .unset, .unset, .unset, .unset] [(.int (p1.toUInt32.toUInt16.toUInt32.toInt32))])) t
    refine XS.bipush X0.here hx rfl (hb hby at_4) ?_
    show Steps p.tables e below (s₁.setTop (mkF m 6 #[.val (.int p1), .val (.int (p1.toUInt32.toUInt16.toUInt32.toInt32)), .unset, .unset, .unset, .unset] [(.int (48 : Int32)), (.int (p1.toUInt32.toUInt16.toUInt32.toInt32))])) t
    refine XS.isub X0.here hx rfl (hb hby at_6) rfl ?_
    show Steps p.tables e below (s₁.setTop (mkF m 7 #[.val (.int p1), .val (.int (p1.toUInt32.toUInt16.toUInt32.toInt32)), .unset, .unset, .unset, .unset] [(.int ((p1.toUInt32.toUInt16.toUInt32.toInt32) - (48 : Int32)))])) t
    refine XS.istoreN X0.here hx rfl (hb hby at_7) rfl (l' := #[.val (.int p1), .val (.int (p1.toUInt32.toUInt16.toUInt32.toInt32)), .val (.int ((p1.toUInt32.toUInt16.toUInt32.toInt32) - (48 : Int32))), .unset, .unset, .unset]) rfl ?_
    exact k)
  have P4 : Rch p e below (s₁.setTop (entryFrame m #[(.int p1)] maxLocals)) (s₁.setTop (mkF m 9 #[.val (.int p1), .val (.int x1), .val (.int x2), .unset, .unset, .unset] [(.int x2)])) := fun t k => P3 t (by
    show Steps p.tables e below (s₁.setTop (mkF m 8 #[.val (.int p1), .val (.int x1), .val (.int x2), .unset, .unset, .unset] [])) t
    refine XS.iloadN X0.here hx rfl (hb hby at_8) rfl ?_
    exact k)
  obtain ⟨v7, hv7, P8⟩ : ∃ (v7 : Int32), v7 = (if x2 < (0 : Int32) then (0 : Int32) else (if x2 < (10 : Int32) then (1 : Int32) else (0 : Int32))) ∧ Rch p e below (s₁.setTop (entryFrame m #[(.int p1)] maxLocals)) (s₁.setTop (mkF m 23 #[.val (.int p1), .val (.int x1), .val (.int x2), .unset, .unset, .unset] [(.int v7)])) := by
    by_cases c5 : x2 < (0 : Int32)
    · refine ⟨(0 : Int32), (by first | rfl | rw [if_pos c5] | simp only [if_pos c5]), fun t k => P4 t ?_⟩
      show Steps p.tables e below (s₁.setTop (mkF m 9 #[.val (.int p1), .val (.int x1), .val (.int x2), .unset, .unset, .unset] [(.int x2)])) t
      refine XS.ifYes X0.here hx rfl (pc0 := 9) (pc' := 22) rfl (hb hby at_9) rfl ((if0 _ _).trans (tlt c5).1) (by decide) (by decide) ?_
      show Steps p.tables e below (s₁.setTop (mkF m 22 #[.val (.int p1), .val (.int x1), .val (.int x2), .unset, .unset, .unset] [])) t
      refine XS.iconst X0.here hx rfl (hb hby at_22) ?_
      exact k
    · by_cases c6 : x2 < (10 : Int32)
      · refine ⟨(1 : Int32), (by first | rfl | rw [if_neg c5, if_pos c6] | simp only [if_neg c5, if_pos c6]), fun t k => P4 t ?_⟩
        show Steps p.tables e below (s₁.setTop (mkF m 9 #[.val (.int p1), .val (.int x1), .val (.int x2), .unset, .unset, .unset] [(.int x2)])) t
        refine XS.ifNo X0.here hx rfl (hb hby at_9) rfl ((if0 _ _).trans (flt c5).1) ?_
        show Steps p.tables e below (s₁.setTop (mkF m 12 #[.val (.int p1), .val (.int x1), .val (.int x2), .unset, .unset, .unset] [])) t
        refine XS.iloadN X0.here hx rfl (hb hby at_12) rfl ?_
        show Steps p.tables e below (s₁.setTop (mkF m 13 #[.val (.int p1), .val (.int x1), .val (.int x2), .unset, .unset, .unset] [(.int x2)])) t
        refine XS.bipush X0.here hx rfl (hb hby at_13) ?_
        show Steps p.tables e below (s₁.setTop (mkF m 15 #[.val (.int p1), .val (.int x1), .val (.int x2), .unset, .unset, .unset] [(.int (10 : Int32)), (.int x2)])) t
        refine XS.icmpNo X0.here hx rfl (hb hby at_15) rfl (tlt c6).2.1 ?_
        show Steps p.tables e below (s₁.setTop (mkF m 18 #[.val (.int p1), .val (.int x1), .val (.int x2), .unset, .unset, .unset] [])) t
        refine XS.iconst X0.here hx rfl (hb hby at_18) ?_
        show Steps p.tables e below (s₁.setTop (mkF m 19 #[.val (.int p1), .val (.int x1), .val (.int x2), .unset, .unset, .unset] [(.int (1 : Int32))])) t
        refine XS.goto X0.here hx rfl (pc0 := 19) (pc' := 23) rfl (hb hby at_19) (by decide) (by decide) ?_
        exact k
      · refine ⟨(0 : Int32), (by first | rfl | rw [if_neg c5, if_neg c6] | simp only [if_neg c5, if_neg c6]), fun t k => P4 t ?_⟩
        show Steps p.tables e below (s₁.setTop (mkF m 9 #[.val (.int p1), .val (.int x1), .val (.int x2), .unset, .unset, .unset] [(.int x2)])) t
        refine XS.ifNo X0.here hx rfl (hb hby at_9) rfl ((if0 _ _).trans (flt c5).1) ?_
        show Steps p.tables e below (s₁.setTop (mkF m 12 #[.val (.int p1), .val (.int x1), .val (.int x2), .unset, .unset, .unset] [])) t
        refine XS.iloadN X0.here hx rfl (hb hby at_12) rfl ?_
        show Steps p.tables e below (s₁.setTop (mkF m 13 #[.val (.int p1), .val (.int x1), .val (.int x2), .unset, .unset, .unset] [(.int x2)])) t
        refine XS.bipush X0.here hx rfl (hb hby at_13) ?_
        show Steps p.tables e below (s₁.setTop (mkF m 15 #[.val (.int p1), .val (.int x1), .val (.int x2), .unset, .unset, .unset] [(.int (10 : Int32)), (.int x2)])) t
        refine XS.icmpYes X0.here hx rfl (pc0 := 15) (pc' := 22) rfl (hb hby at_15) rfl (flt c6).2.1 (by decide) (by decide) ?_
        show Steps p.tables e below (s₁.setTop (mkF m 22 #[.val (.int p1), .val (.int x1), .val (.int x2), .unset, .unset, .unset] [])) t
        refine XS.iconst X0.here hx rfl (hb hby at_22) ?_
        exact k
  obtain ⟨x9, hx9⟩ : ∃ z : Int32, z = ((x1 ||| (32 : Int32)) - (97 : Int32)) := ⟨_, rfl⟩
  have P10 : Rch p e below (s₁.setTop (entryFrame m #[(.int p1)] maxLocals)) (s₁.setTop (mkF m 35 #[.val (.int p1), .val (.int x1), .val (.int x2), .val (.int v7), .val (.int x9), .unset] [(.int x9)])) := fun t k => P8 t (by
    subst hx9
    show Steps p.tables e below (s₁.setTop (mkF m 23 #[.val (.int p1), .val (.int x1), .val (.int x2), .unset, .unset, .unset] [(.int v7)])) t
    refine XS.istoreN X0.here hx rfl (hb hby at_23) rfl (l' := #[.val (.int p1), .val (.int x1), .val (.int x2), .val (.int v7), .unset, .unset]) rfl ?_
    show Steps p.tables e below (s₁.setTop (mkF m 24 #[.val (.int p1), .val (.int x1), .val (.int x2), .val (.int v7), .unset, .unset] [])) t
    refine XS.iloadN X0.here hx rfl (hb hby at_24) rfl ?_
    show Steps p.tables e below (s₁.setTop (mkF m 25 #[.val (.int p1), .val (.int x1), .val (.int x2), .val (.int v7), .unset, .unset] [(.int x1)])) t
    refine XS.bipush X0.here hx rfl (hb hby at_25) ?_
    show Steps p.tables e below (s₁.setTop (mkF m 27 #[.val (.int p1), .val (.int x1), .val (.int x2), .val (.int v7), .unset, .unset] [(.int (32 : Int32)), (.int x1)])) t
    refine XS.ior X0.here hx rfl (hb hby at_27) rfl ?_
    show Steps p.tables e below (s₁.setTop (mkF m 28 #[.val (.int p1), .val (.int x1), .val (.int x2), .val (.int v7), .unset, .unset] [(.int (x1 ||| (32 : Int32)))])) t
    refine XS.bipush X0.here hx rfl (hb hby at_28) ?_
    show Steps p.tables e below (s₁.setTop (mkF m 30 #[.val (.int p1), .val (.int x1), .val (.int x2), .val (.int v7), .unset, .unset] [(.int (97 : Int32)), (.int (x1 ||| (32 : Int32)))])) t
    refine XS.isub X0.here hx rfl (hb hby at_30) rfl ?_
    show Steps p.tables e below (s₁.setTop (mkF m 31 #[.val (.int p1), .val (.int x1), .val (.int x2), .val (.int v7), .unset, .unset] [(.int ((x1 ||| (32 : Int32)) - (97 : Int32)))])) t
    refine XS.istore X0.here hx rfl (hb hby at_31) rfl (l' := #[.val (.int p1), .val (.int x1), .val (.int x2), .val (.int v7), .val (.int ((x1 ||| (32 : Int32)) - (97 : Int32))), .unset]) rfl ?_
    show Steps p.tables e below (s₁.setTop (mkF m 33 #[.val (.int p1), .val (.int x1), .val (.int x2), .val (.int v7), .val (.int ((x1 ||| (32 : Int32)) - (97 : Int32))), .unset] [])) t
    refine XS.iload X0.here hx rfl (hb hby at_33) rfl ?_
    exact k)
  obtain ⟨v13, hv13, P14⟩ : ∃ (v13 : Int32), v13 = (if x9 < (0 : Int32) then (0 : Int32) else (if x9 < (6 : Int32) then (1 : Int32) else (0 : Int32))) ∧ Rch p e below (s₁.setTop (entryFrame m #[(.int p1)] maxLocals)) (s₁.setTop (mkF m 50 #[.val (.int p1), .val (.int x1), .val (.int x2), .val (.int v7), .val (.int x9), .unset] [(.int v13)])) := by
    by_cases c11 : x9 < (0 : Int32)
    · refine ⟨(0 : Int32), (by first | rfl | rw [if_pos c11] | simp only [if_pos c11]), fun t k => P10 t ?_⟩
      show Steps p.tables e below (s₁.setTop (mkF m 35 #[.val (.int p1), .val (.int x1), .val (.int x2), .val (.int v7), .val (.int x9), .unset] [(.int x9)])) t
      refine XS.ifYes X0.here hx rfl (pc0 := 35) (pc' := 49) rfl (hb hby at_35) rfl ((if0 _ _).trans (tlt c11).1) (by decide) (by decide) ?_
      show Steps p.tables e below (s₁.setTop (mkF m 49 #[.val (.int p1), .val (.int x1), .val (.int x2), .val (.int v7), .val (.int x9), .unset] [])) t
      refine XS.iconst X0.here hx rfl (hb hby at_49) ?_
      exact k
    · by_cases c12 : x9 < (6 : Int32)
      · refine ⟨(1 : Int32), (by first | rfl | rw [if_neg c11, if_pos c12] | simp only [if_neg c11, if_pos c12]), fun t k => P10 t ?_⟩
        show Steps p.tables e below (s₁.setTop (mkF m 35 #[.val (.int p1), .val (.int x1), .val (.int x2), .val (.int v7), .val (.int x9), .unset] [(.int x9)])) t
        refine XS.ifNo X0.here hx rfl (hb hby at_35) rfl ((if0 _ _).trans (flt c11).1) ?_
        show Steps p.tables e below (s₁.setTop (mkF m 38 #[.val (.int p1), .val (.int x1), .val (.int x2), .val (.int v7), .val (.int x9), .unset] [])) t
        refine XS.iload X0.here hx rfl (hb hby at_38) rfl ?_
        show Steps p.tables e below (s₁.setTop (mkF m 40 #[.val (.int p1), .val (.int x1), .val (.int x2), .val (.int v7), .val (.int x9), .unset] [(.int x9)])) t
        refine XS.bipush X0.here hx rfl (hb hby at_40) ?_
        show Steps p.tables e below (s₁.setTop (mkF m 42 #[.val (.int p1), .val (.int x1), .val (.int x2), .val (.int v7), .val (.int x9), .unset] [(.int (6 : Int32)), (.int x9)])) t
        refine XS.icmpNo X0.here hx rfl (hb hby at_42) rfl (tlt c12).2.1 ?_
        show Steps p.tables e below (s₁.setTop (mkF m 45 #[.val (.int p1), .val (.int x1), .val (.int x2), .val (.int v7), .val (.int x9), .unset] [])) t
        refine XS.iconst X0.here hx rfl (hb hby at_45) ?_
        show Steps p.tables e below (s₁.setTop (mkF m 46 #[.val (.int p1), .val (.int x1), .val (.int x2), .val (.int v7), .val (.int x9), .unset] [(.int (1 : Int32))])) t
        refine XS.goto X0.here hx rfl (pc0 := 46) (pc' := 50) rfl (hb hby at_46) (by decide) (by decide) ?_
        exact k
      · refine ⟨(0 : Int32), (by first | rfl | rw [if_neg c11, if_neg c12] | simp only [if_neg c11, if_neg c12]), fun t k => P10 t ?_⟩
        show Steps p.tables e below (s₁.setTop (mkF m 35 #[.val (.int p1), .val (.int x1), .val (.int x2), .val (.int v7), .val (.int x9), .unset] [(.int x9)])) t
        refine XS.ifNo X0.here hx rfl (hb hby at_35) rfl ((if0 _ _).trans (flt c11).1) ?_
        show Steps p.tables e below (s₁.setTop (mkF m 38 #[.val (.int p1), .val (.int x1), .val (.int x2), .val (.int v7), .val (.int x9), .unset] [])) t
        refine XS.iload X0.here hx rfl (hb hby at_38) rfl ?_
        show Steps p.tables e below (s₁.setTop (mkF m 40 #[.val (.int p1), .val (.int x1), .val (.int x2), .val (.int v7), .val (.int x9), .unset] [(.int x9)])) t
        refine XS.bipush X0.here hx rfl (hb hby at_40) ?_
        show Steps p.tables e below (s₁.setTop (mkF m 42 #[.val (.int p1), .val (.int x1), .val (.int x2), .val (.int v7), .val (.int x9), .unset] [(.int (6 : Int32)), (.int x9)])) t
        refine XS.icmpYes X0.here hx rfl (pc0 := 42) (pc' := 49) rfl (hb hby at_42) rfl (flt c12).2.1 (by decide) (by decide) ?_
        show Steps p.tables e below (s₁.setTop (mkF m 49 #[.val (.int p1), .val (.int x1), .val (.int x2), .val (.int v7), .val (.int x9), .unset] [])) t
        refine XS.iconst X0.here hx rfl (hb hby at_49) ?_
        exact k
  have P15 : Rch p e below (s₁.setTop (entryFrame m #[(.int p1)] maxLocals)) (s₁.setTop (mkF m 53 #[.val (.int p1), .val (.int x1), .val (.int x2), .val (.int v7), .val (.int x9), .val (.int v13)] [(.int x1)])) := fun t k => P14 t (by
    show Steps p.tables e below (s₁.setTop (mkF m 50 #[.val (.int p1), .val (.int x1), .val (.int x2), .val (.int v7), .val (.int x9), .unset] [(.int v13)])) t
    refine XS.istore X0.here hx rfl (hb hby at_50) rfl (l' := #[.val (.int p1), .val (.int x1), .val (.int x2), .val (.int v7), .val (.int x9), .val (.int v13)]) rfl ?_
    show Steps p.tables e below (s₁.setTop (mkF m 52 #[.val (.int p1), .val (.int x1), .val (.int x2), .val (.int v7), .val (.int x9), .val (.int v13)] [])) t
    refine XS.iloadN X0.here hx rfl (hb hby at_52) rfl ?_
    exact k)
  obtain ⟨_, _, ⟨T16, L16, k16, n16⟩, -, X16, ⟨Lc16, hQ16, l16, y16, z16⟩, st16⟩ := Jvm.LawKit.callS X0 hx (y := (⟨"com/example/rapid_pdp/rapidpdp/model/Octets", "isHexDigit", "(C)Z"⟩ : MethodName)) hown (mvT hZ (hw _ (List.mem_of_getElem? (i := 0) rfl))) (mvT hZ (hw _ (List.mem_of_getElem? (i := 1) rfl))) (mvT hZ (hw _ (List.mem_of_getElem? (i := 2) rfl))) (mvT hZ (hw _ (List.mem_of_getElem? (i := 3) rfl))) (by decide) (backOf (W := 0) (rmH l Z a0 hw [] x1 h0 n0 Z0 ) hZ (hw _ (List.mem_of_getElem? (i := 3) rfl)) (hw _ (List.mem_of_getElem? (i := 2) rfl)) (by decide) (by decide)) (g := (mkF m 53 #[.val (.int p1), .val (.int x1), .val (.int x2), .val (.int v7), .val (.int x9), .val (.int v13)] [(.int x1)])) rfl (by rw [hml]; rfl) (argsL := [(.int x1)]) (rest := []) (lenOf pd_0 rfl) rfl (by show 2 * 0 + _ ≤ _; exact Nat.le_of_eq rfl) (hb hby at_53) (fun _ _ => ⟨rfl, e0, (by decide : 0 + 0 ≤ _), (by decide : 0 + 0 ≤ _)⟩)
  dsimp only [Pt.U, Pt.locs, Pt.cells, Pt.slots] at X16 l16 y16 z16 st16 hQ16
  subst l16 y16 z16
  obtain ⟨rfl, N16q, e16⟩ := hQ16
  have N16 := Fr.app N0 N16q
  have P17 : Rch p e below (s₁.setTop (entryFrame m #[(.int p1)] maxLocals)) (T16.setTop (mkF m 56 #[.val (.int p1), .val (.int x1), .val (.int x2), .val (.int v7), .val (.int x9), .val (.int v13)] [(.int (if x1 < (48 : Int32) then (if x1 < (97 : Int32) then (if x1 < (65 : Int32) then (0 : Int32) else (if (70 : Int32) < x1 then (0 : Int32) else (1 : Int32))) else (if (102 : Int32) < x1 then (if x1 < (65 : Int32) then (0 : Int32) else (if (70 : Int32) < x1 then (0 : Int32) else (1 : Int32))) else (1 : Int32))) else (if (57 : Int32) < x1 then (if x1 < (97 : Int32) then (if x1 < (65 : Int32) then (0 : Int32) else (if (70 : Int32) < x1 then (0 : Int32) else (1 : Int32))) else (if (102 : Int32) < x1 then (if x1 < (65 : Int32) then (0 : Int32) else (if (70 : Int32) < x1 then (0 : Int32) else (1 : Int32))) else (1 : Int32))) else (1 : Int32))))])) := fun t k => P15 t (st16 t k)
  obtain ⟨x18, hx18⟩ : ∃ z : Int32, z = (if x1 < (48 : Int32) then (if x1 < (97 : Int32) then (if x1 < (65 : Int32) then (0 : Int32) else (if (70 : Int32) < x1 then (0 : Int32) else (1 : Int32))) else (if (102 : Int32) < x1 then (if x1 < (65 : Int32) then (0 : Int32) else (if (70 : Int32) < x1 then (0 : Int32) else (1 : Int32))) else (1 : Int32))) else (if (57 : Int32) < x1 then (if x1 < (97 : Int32) then (if x1 < (65 : Int32) then (0 : Int32) else (if (70 : Int32) < x1 then (0 : Int32) else (1 : Int32))) else (if (102 : Int32) < x1 then (if x1 < (65 : Int32) then (0 : Int32) else (if (70 : Int32) < x1 then (0 : Int32) else (1 : Int32))) else (1 : Int32))) else (1 : Int32))) := ⟨_, rfl⟩
  rw [← hx18] at P17
  have P19 : Rch p e below (s₁.setTop (entryFrame m #[(.int p1)] maxLocals)) (T16.setTop (mkF m 57 #[.val (.int p1), .val (.int x1), .val (.int x2), .val (.int v7), .val (.int x9), .val (.int v13)] [(.int v7), (.int x18)])) := fun t k => P17 t (by
    show Steps p.tables e below (T16.setTop (mkF m 56 #[.val (.int p1), .val (.int x1), .val (.int x2), .val (.int v7), .val (.int x9), .val (.int v13)] [(.int x18)])) t
    refine XS.iloadN X16.here hx rfl (hb hby at_56) rfl ?_
    exact k)
  obtain ⟨v22, hv22, P23⟩ : ∃ (v22 : Int32), v22 = (if v7 = (0 : Int32) then (if v13 = (0 : Int32) then (0 : Int32) else (1 : Int32)) else (1 : Int32)) ∧ Rch p e below (s₁.setTop (entryFrame m #[(.int p1)] maxLocals)) (T16.setTop (mkF m 70 #[.val (.int p1), .val (.int x1), .val (.int x2), .val (.int v7), .val (.int x9), .val (.int v13)] [(.int v22), (.int x18)])) := by
    by_cases c20 : v7 = (0 : Int32)
    · by_cases c21 : v13 = (0 : Int32)
      · refine ⟨(0 : Int32), (by first | rfl | rw [if_pos c20, if_pos c21] | simp only [if_pos c20, if_pos c21]), fun t k => P19 t ?_⟩
        show Steps p.tables e below (T16.setTop (mkF m 57 #[.val (.int p1), .val (.int x1), .val (.int x2), .val (.int v7), .val (.int x9), .val (.int v13)] [(.int v7), (.int x18)])) t
        refine XS.ifNo X16.here hx rfl (hb hby at_57) rfl ((if0 _ _).trans (teq c20).2) ?_
        show Steps p.tables e below (T16.setTop (mkF m 60 #[.val (.int p1), .val (.int x1), .val (.int x2), .val (.int v7), .val (.int x9), .val (.int v13)] [(.int x18)])) t
        refine XS.iload X16.here hx rfl (hb hby at_60) rfl ?_
        show Steps p.tables e below (T16.setTop (mkF m 62 #[.val (.int p1), .val (.int x1), .val (.int x2), .val (.int v7), .val (.int x9), .val (.int v13)] [(.int v13), (.int x18)])) t
        refine XS.ifYes X16.here hx rfl (pc0 := 62) (pc' := 69) rfl (hb hby at_62) rfl ((if0 _ _).trans (teq c21).1) (by decide) (by decide) ?_
        show Steps p.tables e below (T16.setTop (mkF m 69 #[.val (.int p1), .val (.int x1), .val (.int x2), .val (.int v7), .val (.int x9), .val (.int v13)] [(.int x18)])) t
        refine XS.iconst X16.here hx rfl (hb hby at_69) ?_
        exact k
      · refine ⟨(1 : Int32), (by first | rfl | rw [if_pos c20, if_neg c21] | simp only [if_pos c20, if_neg c21]), fun t k => P19 t ?_⟩
        show Steps p.tables e below (T16.setTop (mkF m 57 #[.val (.int p1), .val (.int x1), .val (.int x2), .val (.int v7), .val (.int x9), .val (.int v13)] [(.int v7), (.int x18)])) t
        refine XS.ifNo X16.here hx rfl (hb hby at_57) rfl ((if0 _ _).trans (teq c20).2) ?_
        show Steps p.tables e below (T16.setTop (mkF m 60 #[.val (.int p1), .val (.int x1), .val (.int x2), .val (.int v7), .val (.int x9), .val (.int v13)] [(.int x18)])) t
        refine XS.iload X16.here hx rfl (hb hby at_60) rfl ?_
        show Steps p.tables e below (T16.setTop (mkF m 62 #[.val (.int p1), .val (.int x1), .val (.int x2), .val (.int v7), .val (.int x9), .val (.int v13)] [(.int v13), (.int x18)])) t
        refine XS.ifNo X16.here hx rfl (hb hby at_62) rfl ((if0 _ _).trans (feq c21).1) ?_
        show Steps p.tables e below (T16.setTop (mkF m 65 #[.val (.int p1), .val (.int x1), .val (.int x2), .val (.int v7), .val (.int x9), .val (.int v13)] [(.int x18)])) t
        refine XS.iconst X16.here hx rfl (hb hby at_65) ?_
        show Steps p.tables e below (T16.setTop (mkF m 66 #[.val (.int p1), .val (.int x1), .val (.int x2), .val (.int v7), .val (.int x9), .val (.int v13)] [(.int (1 : Int32)), (.int x18)])) t
        refine XS.goto X16.here hx rfl (pc0 := 66) (pc' := 70) rfl (hb hby at_66) (by decide) (by decide) ?_
        exact k
    · refine ⟨(1 : Int32), (by first | rfl | rw [if_neg c20] | simp only [if_neg c20]), fun t k => P19 t ?_⟩
      show Steps p.tables e below (T16.setTop (mkF m 57 #[.val (.int p1), .val (.int x1), .val (.int x2), .val (.int v7), .val (.int x9), .val (.int v13)] [(.int v7), (.int x18)])) t
      refine XS.ifYes X16.here hx rfl (pc0 := 57) (pc' := 65) rfl (hb hby at_57) rfl ((if0 _ _).trans (feq c20).2) (by decide) (by decide) ?_
      show Steps p.tables e below (T16.setTop (mkF m 65 #[.val (.int p1), .val (.int x1), .val (.int x2), .val (.int v7), .val (.int x9), .val (.int v13)] [(.int x18)])) t
      refine XS.iconst X16.here hx rfl (hb hby at_65) ?_
      show Steps p.tables e below (T16.setTop (mkF m 66 #[.val (.int p1), .val (.int x1), .val (.int x2), .val (.int v7), .val (.int x9), .val (.int v13)] [(.int (1 : Int32)), (.int x18)])) t
      refine XS.goto X16.here hx rfl (pc0 := 66) (pc' := 70) rfl (hb hby at_66) (by decide) (by decide) ?_
      exact k
  obtain ⟨v25, hv25, P26⟩ : ∃ (v25 : Int32), v25 = (if x18 = v22 then (1 : Int32) else (0 : Int32)) ∧ Rch p e below (s₁.setTop (entryFrame m #[(.int p1)] maxLocals)) (T16.setTop (mkF m 78 #[.val (.int p1), .val (.int x1), .val (.int x2), .val (.int v7), .val (.int x9), .val (.int v13)] [(.int v25)])) := by
    by_cases c24 : x18 = v22
    · refine ⟨(1 : Int32), (by first | rfl | rw [if_pos c24] | simp only [if_pos c24]), fun t k => P23 t ?_⟩
      show Steps p.tables e below (T16.setTop (mkF m 70 #[.val (.int p1), .val (.int x1), .val (.int x2), .val (.int v7), .val (.int x9), .val (.int v13)] [(.int v22), (.int x18)])) t
      refine XS.icmpNo X16.here hx rfl (hb hby at_70) rfl (teq c24).2 ?_
      show Steps p.tables e below (T16.setTop (mkF m 73 #[.val (.int p1), .val (.int x1), .val (.int x2), .val (.int v7), .val (.int x9), .val (.int v13)] [])) t
      refine XS.iconst X16.here hx rfl (hb hby at_73) ?_
      show Steps p.tables e below (T16.setTop (mkF m 74 #[.val (.int p1), .val (.int x1), .val (.int x2), .val (.int v7), .val (.int x9), .val (.int v13)] [(.int (1 : Int32))])) t
      refine XS.goto X16.here hx rfl (pc0 := 74) (pc' := 78) rfl (hb hby at_74) (by decide) (by decide) ?_
      exact k
    · refine ⟨(0 : Int32), (by first | rfl | rw [if_neg c24] | simp only [if_neg c24]), fun t k => P23 t ?_⟩
      show Steps p.tables e below (T16.setTop (mkF m 70 #[.val (.int p1), .val (.int x1), .val (.int x2), .val (.int v7), .val (.int x9), .val (.int v13)] [(.int v22), (.int x18)])) t
      refine XS.icmpYes X16.here hx rfl (pc0 := 70) (pc' := 77) rfl (hb hby at_70) rfl (feq c24).2 (by decide) (by decide) ?_
      show Steps p.tables e below (T16.setTop (mkF m 77 #[.val (.int p1), .val (.int x1), .val (.int x2), .val (.int v7), .val (.int x9), .val (.int v13)] [])) t
      refine XS.iconst X16.here hx rfl (hb hby at_77) ?_
      exact k
  have hfin : v25 = (1 : Int32) := by
    subst hv25 hv22 hx18 hv13 hx9 hv7 hx2 hx1
    exact own_law p1
  have P27 : Rch p e below (s₁.setTop (entryFrame m #[(.int p1)] maxLocals)) (T16.setTop (mkF m 78 #[.val (.int p1), .val (.int x1), .val (.int x2), .val (.int v7), .val (.int x9), .val (.int v13)] [(.int (1 : Int32))])) := by have q_ := P26; rw [hfin] at q_; exact q_
  obtain ⟨fs, hr, hrun, hended, hW, hsame⟩ := X16.leave (v := some (.int (1 : Int32))) (fun h => by rw [Bd.returns] at h; cases h)
  refine ⟨_, _, P27 _ ?_, hrun, hended, _, _, rfl, ?_, ⟨_, rfl⟩, hW, hsame.mono (by decide) (by decide)⟩
  · exact retN X16 hx (t := .boolean) Bd.returns (by simp) (hb hby at_78) hr
  · show Q_rm0 Z p1 h0 n0 _ T16.heap _
    rw [e16]
    exact ⟨rfl, N16⟩
set_option maxRecDepth 65536 in
set_option maxHeartbeats 40000000 in
theorem comes_1 {Post : Tables → Env → Array Value → State → Outcome → State → Prop} (hpost : ∀ tb e args s v u, (limb_1_1.after args s (.returned v) u = true ∧ limb_1_2.after args s (.returned v) u = true ∧ True) → FrameEnd s (.returned v) u (Jvm.fieldLocs frame_1_writes args s ++ Jvm.arrayLocs frame_1_arrays args s ++ Jvm.staticLocs frame_1_statics s) 0 0 → Post tb e args s (.returned v) u) :
    ArmFor flags0 classFile x code maxLocals ret World_1 tables_1 room_1 Calls_1 rest_1 Pre_1 Post := by
  intro l hfl _ _ p e ha hc hk s m args below hf hA hF happ hP
  obtain ⟨hcalls, hrest, hpre⟩ := hP
  obtain ⟨-, -, -, hnamed, -, -, -, hat⟩ := (Spec.applies_iff hf).mp happ
  obtain ⟨hg, hn⟩ := and_e (Cond.before_iff.mp (show (Jvm.Cond.and given_1 narrow_1).before args s = true from hpre))
  obtain ⟨gc, gr0⟩ := and_e hg
  obtain ⟨w0, rfl⟩ : ∃ w0 : Value, args = #[w0] := by
    have hs : args.size = 1 := by simpa [Cond.value, given_1] using gc
    obtain ⟨L⟩ := args
    match L, hs with
    | [w0], _ => exact ⟨w0, rfl⟩
  have hw := fun d (hd : d ∈ tables_1) => atoms_spec (ws := Jvm.Cond.code x code maxLocals ret :: tables_1) hat d (List.mem_cons_of_mem _ hd)
  have hfit : Fit s := fun {y c} hc i hi => by
    obtain ⟨ha, rfl⟩ := Array.getElem?_eq_some_iff.mp hc
    have q := List.all_eq_true.mp ((Array.all_eq_true_iff_forall_mem.mp hF) _ (Array.getElem_mem ha)) i (List.mem_range.mpr hi)
    simpa [Array.getElem?_eq_getElem hi] using q
  obtain ⟨i0, ei0⟩ := is_v gr0
  obtain rfl : w0 = (.int i0) := Option.some.inj ei0
  obtain ⟨n, o, h1, h2, h3, _, L, rfl, ⟨rfl, N⟩, hq⟩ := rm0 l s _ hw tables_1 i0 s.heap s.heap.size (Nat.le_refl _)  p e ha hc hk s m _ below hf ((Spec.applies_iff_loose hf).mp happ).1 ⟨rfl, State.Warmed39.refl s, rfl⟩ trivial
  refine ⟨n, _, h1, h2, h3, hpost _ _ _ _ _ _ ⟨Cond.after_iff.mpr rfl, Cond.after_iff.mpr (eq_i res_at (Term.int_eval (1)) rfl), trivial⟩ ⟨hq.1, hq.2.1, (hq.2.2.sift fun y hy => Or.inr (N y hy)).mono (by decide) (by decide)⟩⟩
theorem main_1_1 : Claimed_1_1 := comes_1 fun _ _ _ _ _ _ h hF => ⟨h.1, hF⟩
theorem main_1_2 : Claimed_1_2 := comes_1 fun _ _ _ _ _ _ h hF => ⟨h.2.1, hF⟩
end Jvm.Pilot.@@N@@
namespace Jvm.Pilot.@@N@@
open Jvm Jvm.ClassFile Sem Op Lib Jvm.Free Jvm.Stand Jvm.Pilot.@@N@@.Jvm.D
/-! MADE BY PROGRAM (witnessworld.py) out of the Statement's table words and the real class files: 10 classes; the members and pool entries that the words name. The judged class is class 1, her method 1. -/
namespace start1
open Jvm.ClassFile
def u (s : String) : CpInfo := .utf8 (stringToUtf16 s)
/-- a pool by its gaps: so many unusable entries, then the entry; so many at the end -/
def gap : Nat → List CpInfo → List CpInfo
  | 0, r => r
  | n + 1, r => .unusable :: gap n r
def poolList (es : List (Nat × CpInfo)) (last : Nat) : List CpInfo := es.foldr (fun e r => gap e.1 (e.2 :: r)) (gap last [])
def pool (es : List (Nat × CpInfo)) (last : Nat) : Array CpInfo := ⟨poolList es last⟩
def fileOf (pool : Array CpInfo) (this : Nat) (attrs : Array Attribute := #[]) (ms : Array MethodInfo := #[]) (fl : Nat := 33) (sup : Nat := 0) (ifs : Array Nat := #[]) (fds : Array FieldInfo := #[]) : ClassFile where
  minorVersion := 0
  majorVersion := 65
  constantPool := pool
  accessFlags := fl
  thisClass := this
  superClass := sup
  interfaces := ifs
  fields := fds
  methods := ms
  attributes := attrs
def plain (name : String) (sup : Option ClassId) : Class where
  name := name
  kind := .ordinary
  loader := none
  accessFlags := 33
  super := sup
  interfaces := #[]
  cf := none
  fields := #[]
  methods := #[]
  instanceTypes := #[]
  staticTypes := #[]
  resolved := #[]
  callSites := []
  init := .initialized
  statics := none
  mirror := none

def pool0 : Array CpInfo := pool [(5, u "<init>"), (0, u "()V"), (1, .class_ 10), (1, u "java/lang/Object")] 113

def k0m0 : Method := { name := "<init>", desc := "()V", sig := { parameters := [], returnType := none }, accessFlags := 1, code := none }
/-- java/lang/Object -/
def k0 : Class := { plain "java/lang/Object" none with
  accessFlags := 33
  interfaces := #[]
  cf := some (fileOf pool0 8 #[] #[{ accessFlags := 1, nameIndex := 5, descriptorIndex := 6, attributes := #[] }] 33 0 #[] #[])
  fields := #[]
  methods := #[k0m0]
  instanceTypes := #[]
  staticTypes := #[]
  resolved := Array.replicate 124 none
  statics := none }

def pool1 : Array CpInfo := pool [(2, .class_ 4), (1, u "java/lang/Object"), (0, u "<init>"), (0, u "()V"), (0, .methodref 8 9), (0, .class_ 10), (0, .nameAndType 11 12), (0, u "com/example/rapid_pdp/rapidpdp/model/Octets"), (0, u "isHexDigit"), (0, u "(C)Z"), (0, .class_ 14), (0, u "com/example/rapid_pdp/rapidpdp/model/OctetsIsHexDigitPinLaw"), (2, u "law"), (0, u "(I)Z")] 3

def k1m0 : Method := { name := "<init>", desc := "()V", sig := { parameters := [], returnType := none }, accessFlags := 2, code := none }
def k1c1 : Code := { maxStack := 2, maxLocals := 6, code := code, exceptionTable := #[], attributes := #[] }
def k1m1 : Method := { name := "law", desc := "(I)Z", sig := { parameters := [.int], returnType := some .boolean }, accessFlags := 9, code := some k1c1 }
/-- com/example/rapid_pdp/rapidpdp/model/OctetsIsHexDigitPinLaw -/
def k1 : Class := { plain "com/example/rapid_pdp/rapidpdp/model/OctetsIsHexDigitPinLaw" (some 0) with
  accessFlags := 49
  interfaces := #[]
  cf := some (fileOf pool1 13 #[] #[{ accessFlags := 2, nameIndex := 5, descriptorIndex := 6, attributes := #[] }, { accessFlags := 9, nameIndex := 17, descriptorIndex := 18, attributes := #[] }] 49 2 #[] #[])
  fields := #[]
  methods := #[k1m0, k1m1]
  instanceTypes := #[]
  staticTypes := #[]
  resolved := Array.replicate 22 none
  statics := none }

def pool2 : Array CpInfo := pool [(1, .class_ 2), (0, u "java/lang/Comparable"), (0, .class_ 4), (0, u "java/lang/Object")] 7

/-- java/lang/Comparable -/
def k2 : Class := { plain "java/lang/Comparable" (some 0) with
  accessFlags := 1537
  interfaces := #[]
  cf := some (fileOf pool2 1 #[] #[] 1537 3 #[] #[])
  fields := #[]
  methods := #[]
  instanceTypes := #[]
  staticTypes := #[]
  resolved := Array.replicate 12 none
  statics := none }

def pool3 : Array CpInfo := pool [(2, .class_ 4), (1, u "java/lang/Object"), (3, .class_ 10), (1, u "com/example/rapid_pdp/rapidpdp/model/Octets"), (0, u "text"), (0, u "Ljava/lang/String;"), (2, u "octets"), (0, u "[B"), (26, u "isHexDigit"), (0, u "(C)Z"), (73, .class_ 119), (0, u "java/lang/Comparable"), (0, u "BEFORE_ONE_PAD"), (1, u "BEFORE_TWO_PADS")] 33

def k3c0 : Code := { maxStack := 2, maxLocals := 1, code := prog_161_method_4_code, exceptionTable := #[], attributes := #[] }
def k3m0 : Method := { name := "isHexDigit", desc := "(C)Z", sig := { parameters := [.char], returnType := some .boolean }, accessFlags := 8, code := some k3c0 }
/-- com/example/rapid_pdp/rapidpdp/model/Octets -/
def k3 : Class := { plain "com/example/rapid_pdp/rapidpdp/model/Octets" (some 0) with
  accessFlags := 49
  interfaces := #[2]
  cf := some (fileOf pool3 8 #[] #[{ accessFlags := 8, nameIndex := 43, descriptorIndex := 44, attributes := #[] }] 49 2 #[118] #[{ accessFlags := 26, nameIndex := 120, descriptorIndex := 12, attributes := #[] }, { accessFlags := 26, nameIndex := 122, descriptorIndex := 12, attributes := #[] }, { accessFlags := 18, nameIndex := 11, descriptorIndex := 12, attributes := #[] }, { accessFlags := 18, nameIndex := 15, descriptorIndex := 16, attributes := #[] }])
  fields := #[{ name := "BEFORE_ONE_PAD", type := (.object "java/lang/String"), accessFlags := 26, slot := 0, constantValue := 0 }, { name := "BEFORE_TWO_PADS", type := (.object "java/lang/String"), accessFlags := 26, slot := 1, constantValue := 0 }, { name := "text", type := (.object "java/lang/String"), accessFlags := 18, slot := 0, constantValue := 0 }, { name := "octets", type := (.array .byte), accessFlags := 18, slot := 1, constantValue := 0 }]
  methods := #[k3m0]
  instanceTypes := #[(.object "java/lang/String"), (.array .byte)]
  staticTypes := #[(.object "java/lang/String"), (.object "java/lang/String")]
  resolved := Array.replicate 156 none
  statics := none }

def pool4 : Array CpInfo := pool [(1, u "java/lang/Cloneable"), (0, .class_ 1), (0, u "java/lang/Object"), (0, .class_ 3)] 3

/-- java/lang/Cloneable -/
def k4 : Class := { plain "java/lang/Cloneable" (some 0) with
  accessFlags := 1537
  interfaces := #[]
  cf := some (fileOf pool4 2 #[] #[] 1537 4 #[] #[])
  fields := #[]
  methods := #[]
  instanceTypes := #[]
  staticTypes := #[]
  resolved := Array.replicate 8 none
  statics := none }

def pool5 : Array CpInfo := pool [(1, u "java/io/Serializable"), (0, .class_ 1), (0, u "java/lang/Object"), (0, .class_ 3)] 3

/-- java/io/Serializable -/
def k5 : Class := { plain "java/io/Serializable" (some 0) with
  accessFlags := 1537
  interfaces := #[]
  cf := some (fileOf pool5 2 #[] #[] 1537 4 #[] #[])
  fields := #[]
  methods := #[]
  instanceTypes := #[]
  staticTypes := #[]
  resolved := Array.replicate 8 none
  statics := none }

/-- the primitive byte -/
def k6 : Class := { plain "byte" none with kind := .primitive 'B', accessFlags := 0x411 }
/-- [B -/
def k7 : Class := { plain "[B" (some 0) with kind := .array 6 .byte, interfaces := #[4, 5], accessFlags := 1041 }

/-- the primitive int -/
def k8 : Class := { plain "int" none with kind := .primitive 'I', accessFlags := 0x411 }
/-- [I -/
def k9 : Class := { plain "[I" (some 0) with kind := .array 8 .int, interfaces := #[4, 5], accessFlags := 1041 }

def heap : Heap := #[]
def classes : Array Class := #[k0, k1, k2, k3, k4, k5, k6, k7, k8, k9]
def interned : List (Array UInt16 × Addr) := []
def slotsUsed : Nat := 0
def theMethod : MethodId := ⟨1, 1⟩
def args0 : Array Value := #[.int 5]
def aboutOver (below : List Frame) : State where
  vm := { classes := classes, interned := interned.toArray }
  heap := heap
  slotsUsed := slotsUsed
  threads := #[{ frames := .invoking theMethod args0 :: below }]
def below0 : List Frame := [.native { method := ⟨0, 0⟩, args := #[] }]
def about1 : State := aboutOver below0
def p0 : Program := .bare "" "" ""
def e0 : Env := launch0.env 0 0 0
theorem w_frames : about1.frames = Frame.invoking theMethod args0 :: below0 := rfl
set_option maxRecDepth 65536 in
theorem w_args : argsFit about1.vm theMethod args0 = true := by decide +kernel
set_option maxRecDepth 65536 in
theorem w_heap : heapFits about1 = true := by decide +kernel
set_option maxRecDepth 65536 in
theorem w_runnable : about1.curStatus? = some .runnable := by decide +kernel
set_option maxRecDepth 65536 in
theorem w_alone : about1.alone = true := by decide +kernel
set_option maxRecDepth 65536 in
theorem w_named : about1.methodNamed? x = some theMethod := by decide +kernel
set_option maxRecDepth 65536 in
theorem w_hears : about1.hears theMethod below0 = true := by decide +kernel
set_option maxRecDepth 65536 in
theorem w_ripe : about1.ripe theMethod args0 below0 = true := by decide +kernel
theorem w_running : about1.status = .running := rfl
set_option maxRecDepth 65536 in
theorem w_room : about1.hasRoom e0.platform room_1 = true :=
  launch0.hasRoom_least _ room_1 (by decide +kernel) (by decide +kernel) (by decide +kernel) (by decide +kernel) (by decide +kernel) (by decide +kernel)
theorem allAtoms_all (ts : List Jvm.Cond) (a : Array Jvm.Value) (st : Jvm.State) : (allAtoms ts).before a st = ts.all (fun c => c.before a st) := by
  induction ts with
  | nil => rfl
  | cons c t ih =>
    show (Jvm.Cond.and c (allAtoms t)).before a st = _
    rw [Jvm.Cond.before_and, ih, List.all_cons]
def words1 : List Jvm.Cond := Jvm.Cond.code x code maxLocals ret :: tables_1
/-- a 'code' word, met by the world's own term for the bytes: nothing is compared byte by byte -/
theorem code_word {y : MethodName} {bytes : ByteArray} {mx : Nat} {rt : Option FieldType} {a : Array Value} {s : State} {m : MethodId} {meth : Method} {c : Code} (h1 : s.methodNamed? y = some m) (h2 : s.vm.method? m = some meth) (h3 : meth.code = some c) (h4 : c.code = bytes)
    (h5 : (c.maxLocals == mx && c.exceptionTable.isEmpty && decide (c.maxStack ≤ mostOperands) && decide (meth.sig.returnType = rt) && !meth.locks && decide (parseMethodDescriptor y.desc = some meth.sig)) = true) : (Jvm.Cond.code y bytes mx rt).before a s = true := by
  simp only [Bool.and_eq_true, beq_iff_eq, Bool.not_eq_true', decide_eq_true_eq] at h5
  obtain ⟨⟨⟨⟨⟨g1, g2⟩, g3⟩, g4⟩, g5⟩, g6⟩ := h5
  simp [Cond.before, Cond.holds, Cond.value, h1, h2, h3, h4, g1, g2, g3, g4, g5, g6]
def isCode : Jvm.Cond → Bool
  | .code _ _ _ _ => true
  | _ => false
theorem all_split {L : List Jvm.Cond} {P : Jvm.Cond → Bool} (h1 : L.all (fun c => isCode c || P c) = true) (h2 : ∀ c ∈ L.filter isCode, P c = true) : L.all P = true := by
  refine List.all_eq_true.mpr fun c hc => ?_
  have h := List.all_eq_true.mp h1 c hc
  rcases Bool.eq_false_or_eq_true (isCode c) with hi | hi
  · exact h2 c (List.mem_filter.mpr ⟨hc, hi⟩)
  · simpa [hi] using h
set_option maxRecDepth 65536 in
theorem w_c0 : (Jvm.Cond.code x code maxLocals ret).before args0 about1 = true := code_word (m := ⟨1, 1⟩) (meth := k1m1) (c := k1c1) (by decide +kernel) rfl rfl rfl (by decide +kernel)
set_option maxRecDepth 65536 in
theorem w_c1 : (Jvm.Cond.code ({ cls := "com/example/rapid_pdp/rapidpdp/model/Octets", name := "isHexDigit", desc := "(C)Z" } : Jvm.MethodName) prog_161_method_4_code (1 : Nat) (Option.some Jvm.ClassFile.FieldType.boolean)).before args0 about1 = true := code_word (m := ⟨3, 0⟩) (meth := k3m0) (c := k3c0) (by decide +kernel) rfl rfl rfl (by decide +kernel)
def codes1 : List Jvm.Cond := [Jvm.Cond.code x code maxLocals ret, Jvm.Cond.code ({ cls := "com/example/rapid_pdp/rapidpdp/model/Octets", name := "isHexDigit", desc := "(C)Z" } : Jvm.MethodName) prog_161_method_4_code (1 : Nat) (Option.some Jvm.ClassFile.FieldType.boolean)]
set_option maxRecDepth 65536 in
theorem codes_eq : words1.filter isCode = codes1 := rfl
theorem w_codes : ∀ c ∈ words1.filter isCode, c.before args0 about1 = true := by
  rw [codes_eq]
  intro c hc
  simp only [codes1, List.mem_cons, List.not_mem_nil, or_false] at hc
  rcases hc with rfl | rfl
  · exact w_c0
  · exact w_c1
set_option maxRecDepth 65536 in
theorem w_t1 : words1.all (fun c => isCode c || c.before args0 about1) = true := by decide +kernel
theorem w_tables : (allAtoms (Jvm.Cond.code x code maxLocals ret :: tables_1)).before args0 about1 = true := by
  rw [allAtoms_all]
  show words1.all (fun c => c.before args0 about1) = true
  refine all_split ?_ w_codes
  rw [w_t1]
set_option maxRecDepth 65536 in
theorem w_case : (Jvm.Cond.and given_1 narrow_1).before args0 about1 = true := by decide +kernel
theorem w_applies : (headSpec (Jvm.Cond.code x code maxLocals ret :: tables_1) room_1).applies x e0.platform about1 = true :=
  (Spec.applies_iff w_frames).mpr ⟨w_running, w_runnable, w_alone, w_named, w_hears, w_ripe, w_room, w_tables⟩
theorem atStart : AtStart classFile x code maxLocals ret World_1 tables_1 room_1 Calls_1 rest_1 Pre_1 launch0 p0 e0 about1 theMethod args0 below0 :=
  ⟨lists_1, trivial, launch0.admits_env _ _ _, launch0.least_env, fairChoices_fair.cas, fairChoices_fair.clock, w_frames, w_args, w_heap, w_applies, trivial, trivial, w_case⟩
end start1
theorem witness_1 : WitnessClaimed_1 := ⟨start1.p0, start1.e0, start1.about1, start1.theMethod, start1.args0, start1.below0, start1.atStart⟩
end Jvm.Pilot.@@N@@
