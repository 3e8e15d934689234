import JvmDerived
import JvmDerived.Pilot.@@N@@Statement
import JvmDerived.Pilot.@@N@@Code
set_option linter.unusedVariables false
set_option linter.unusedSimpArgs false
namespace Jvm.RoadKit
open Sem ClassFile Op Lib Jvm.Stand Jvm.Free Jvm.LawKit
section New
variable {p : Program} {l : Launch} {e : Env} {R : Room} {s : State} {m : MethodId} {args : Array Value} {below : List Frame} {meth : Method} {c : Code} {T : State} {locs : List Loc} {cells slots : Nat}
theorem retI (X : Stand p l e R s m args below meth c T locs cells slots) (hx : p.tables.exec = Jvm.exec) {pc : Nat} {Ls : Array Slot} {z : Int32} {rest : List Value} (hret : meth.sig.returnType = some .int) (hd : decode c.code pc = .ok (.ireturn, 1)) {fs : List Frame}
    (hl : ∀ (f : JFrame) (acts : List Action), f.method = m → f.locked = none → f.entered = [] → (doReturn e (T.setTop f) acts (some (.int z))).1 = T.setFrames fs) : Steps p.tables e below (T.setTop (mkF m pc Ls (.int z :: rest))) (T.setFrames fs) := by
  have hm' : T.vm.method? m = some meth := X.method'
  have hn : narrow .int (.int z) = .int z := rfl
  show Steps p.tables e below (T.setTop { method := m, pc := pc, locals := Ls, stack := _ :: rest, locked := none }) _
  jvm_step X.here [X.here.top, hx, hd, hm', hret, hn]
  first | (intro acts; rw [hl _ acts rfl rfl rfl]) | rw [hl _ _ rfl rfl rfl]
  exact Steps.refl _
end New
end Jvm.RoadKit
namespace Jvm.Pilot.@@N@@
open Jvm Jvm.ClassFile Sem Op Lib Jvm.Free Jvm.Stand Jvm.LawKit Jvm.RoadKit Bundle Jvm.Pilot.@@N@@.Jvm.D
theorem own_more {p : Program} {l : Launch} {e : Env} {R : Room} {s : State} {m : MethodId} {args : Array Value} {below : List Frame} {meth : Method} {c : Code} {T : State} {locs : List Loc} {k n k' n' : Nat} (X : Stand p l e R s m args below meth c T locs k n) (hk : k ≤ k') (hn : n ≤ n') : Stand p l e R s m args below meth c T locs k' n' := { X with same := X.same.mono hk hn }
theorem own_nar {t : FieldType} {v : Value} (h : v.isRef = true) (ht : t.isReference = true := by rfl) : narrow t v = v := by
  rcases ref_cases h with rfl | ⟨a, rfl⟩ <;> cases t <;> first | rfl | (cases ht; done)
theorem own_fit {t : FieldType} {v : Value} (h : v.isRef = true) (ht : t.isReference = true := by rfl) : fits t v = true := by
  rcases ref_cases h with rfl | ⟨a, rfl⟩ <;> cases t <;> first | rfl | (cases ht; done)
theorem own_ifc {P Q : Prop} [Decidable P] [Decidable Q] {α : Type} {a b c d : α} (h : P ↔ Q) (h1 : a = c) (h2 : b = d) : (if P then a else b) = (if Q then c else d) := by
  subst h1 h2; by_cases q : Q
  · rw [if_pos q, if_pos (h.mpr q)]
  · rw [if_neg q, if_neg (fun p => q (h.mp p))]
theorem own_cat {v : Value} (h : v.isRef = true) : v.category = 1 := by rcases ref_cases h with rfl | ⟨a, rfl⟩ <;> rfl
abbrev Rch (p : Program) (e : Env) (below : List Frame) (A B : State) : Prop := ∀ t, Steps p.tables e below B t → Steps p.tables e below A t

theorem own_ord {args : Array Value} {s : State} {t : Term} {x : Addr} {k : Int32} {C n d : String} (ht : t.eval args s none [] s = some (.ref x)) (h : (Cond.eq (Term.field t C n d) (Term.int k)).value args s none s [] = some true) : Fld s s.heap x C n d (.int k) := by
  obtain ⟨u, w, h1, h2, -, h4⟩ := cmp_v (Or.inl h)
  have e2 : w = .int k := by simpa [Term.eval] using h2.symm
  subst e2
  obtain ⟨z, rfl⟩ := h4
  have q : z = k := by simpa [Cond.value, h1, h2] using h
  subst q
  rw [fld_at ht] at h1
  exact Fld.start h1

theorem d1_0 : decode method_2_code 0 = .ok (.iload_n 0, 1) := by decide +kernel
theorem d1_1 : decode method_2_code 1 = .ok (.bipush 31, 2) := by decide +kernel
theorem d1_3 : decode method_2_code 3 = .ok (.ishr, 1) := by decide +kernel
theorem d1_4 : decode method_2_code 4 = .ok (.iload_n 0, 1) := by decide +kernel
theorem d1_5 : decode method_2_code 5 = .ok (.ineg, 1) := by decide +kernel
theorem d1_6 : decode method_2_code 6 = .ok (.bipush 31, 2) := by decide +kernel
theorem d1_8 : decode method_2_code 8 = .ok (.iushr, 1) := by decide +kernel
theorem d1_9 : decode method_2_code 9 = .ok (.ior, 1) := by decide +kernel
theorem d1_10 : decode method_2_code 10 = .ok (.ireturn, 1) := by decide +kernel
theorem pn_0 : plainName "com/example/rapid_pdp/rapidpdp/engine/OrderOfPinLaw" = true := by first | (simp [plainName, overriddenIn]; done) | decide +kernel
theorem d2_0 : decode prog_123_method_4_code 0 = .ok (.iload_n 0, 1) := by decide +kernel
theorem d2_1 : decode prog_123_method_4_code 1 = .ok (.ifCond .ge 10, 3) := by decide +kernel
theorem d2_11 : decode prog_123_method_4_code 11 = .ok (.iload_n 0, 1) := by decide +kernel
theorem d2_12 : decode prog_123_method_4_code 12 = .ok (.ifCond .le 10, 3) := by decide +kernel
theorem d2_22 : decode prog_123_method_4_code 22 = .ok (.getstatic 7, 3) := by decide +kernel
theorem d2_15 : decode prog_123_method_4_code 15 = .ok (.getstatic 10, 3) := by decide +kernel
theorem d2_4 : decode prog_123_method_4_code 4 = .ok (.getstatic 3, 3) := by decide +kernel
theorem d2_7 : decode prog_123_method_4_code 7 = .ok (.astore_n 1, 1) := by decide +kernel
theorem d2_8 : decode prog_123_method_4_code 8 = .ok (.goto 18, 3) := by decide +kernel
theorem d2_26 : decode prog_123_method_4_code 26 = .ok (.aload_n 1, 1) := by decide +kernel
theorem d2_27 : decode prog_123_method_4_code 27 = .ok (.areturn, 1) := by decide +kernel
theorem d2_18 : decode prog_123_method_4_code 18 = .ok (.astore_n 1, 1) := by decide +kernel
theorem d2_19 : decode prog_123_method_4_code 19 = .ok (.goto 7, 3) := by decide +kernel
theorem d2_25 : decode prog_123_method_4_code 25 = .ok (.astore_n 1, 1) := by decide +kernel
theorem pn_1 : plainName "com/example/rapid_pdp/rapidpdp/engine/TypeFunctions$Order" = true := by first | (simp [plainName, overriddenIn]; done) | decide +kernel
theorem pd_0 : parseMethodDescriptor "(I)I" = some ⟨[.int], some .int⟩ := by decide +kernel
theorem pd_1 : parseMethodDescriptor "(I)Lcom/example/rapid_pdp/rapidpdp/engine/TypeFunctions$Order;" = some ⟨[.int], some (.object "com/example/rapid_pdp/rapidpdp/engine/TypeFunctions$Order")⟩ := by decide +kernel
def own_sign (p1 : Int32) : Int32 := ((p1 >>> ((31 : Int32) &&& 31)) ||| (((-p1).toUInt32 >>> ((31 : Int32) &&& 31).toUInt32).toInt32))
def Q_rmS (Z : State) (p1 : Int32) (h0 : Heap) (n0 : Nat) (v : Option Value) (h : Heap) (L : List Loc) : Prop := v = some (.int (own_sign p1)) ∧ Fr n0 L ∧ h = h0
set_option maxRecDepth 65536 in
set_option maxHeartbeats 40000000 in
theorem rmS (l : Launch) (Z : State) (a0 : Array Value) (hw : ∀ d ∈ tables_1, d.before a0 Z = true) (ws : List Jvm.Cond) (p1 : Int32) (h0 : Heap) (n0 : Nat) (Z0 : n0 ≤ h0.size) :
    MetFree l (⟨"com/example/rapid_pdp/rapidpdp/engine/OrderOfPinLaw", "sign", "(I)I"⟩ : MethodName) (head1 (Jvm.Cond.code (⟨"com/example/rapid_pdp/rapidpdp/engine/OrderOfPinLaw", "sign", "(I)I"⟩ : MethodName) method_2_code 1 (some .int) :: ws) ({ frames := 0, cells := 0, slots := 0, locals := 0 } : Room)) (fun a U => a = #[(.int p1)] ∧ Z.Warmed39 U.vm ∧ U.heap = h0) (fun _ _ _ _ _ => True) (fun _ U o U' => ∃ v L, o = .returned v ∧ Q_rmS Z p1 h0 n0 v U'.heap L ∧ FrameEnd U o U' L ({ frames := 0, cells := 0, slots := 0, locals := 0 } : Room).cells ({ frames := 0, cells := 0, slots := 0, locals := 0 } : Room).slots) := by
  refine MetFree.of_bodySF (plainFor_of_name pn_0) hisR ?_
  intro p e s m args below meth c s₁ Bd hml0 hP hK
  obtain ⟨rfl, hZ, hh⟩ := hP
  have hx := Bd.exec
  have hby := Bd.bytes
  have hml : c.maxLocals = 1 := hml0
  have hown : s.vm.findClass "com/example/rapid_pdp/rapidpdp/engine/OrderOfPinLaw" = some m.cls := findClass_of_methodNamed Bd.named
  have hnm := (name_of_methodNamed Bd.named Bd.method).1
  have X0 : Stand p l e ({ frames := 0, cells := 0, slots := 0, locals := 0 } : Room) s m #[(.int p1)] below meth c s₁ [] 0 0 := Stand.of_body Bd
  have e0 : s₁.heap = h0 := by rw [← hh, Bd.state]; rfl
  have N0 := Fr.nil n0
  have P0 : Rch p e below (s₁.setTop (entryFrame m #[(.int p1)] 1)) (s₁.setTop (mkF m 0 #[.val (.int p1)] [])) := fun t k => castTop (by first | (simp [entryFrame, mkF, argsToLocals, Value.category]; done) | rfl) k
  obtain ⟨x1, hx1⟩ : ∃ z : Int32, z = ((p1 >>> ((31 : Int32) &&& 31)) ||| (((-p1).toUInt32 >>> ((31 : Int32) &&& 31).toUInt32).toInt32)) := ⟨_, rfl⟩
  have P2 : Rch p e below (s₁.setTop (entryFrame m #[(.int p1)] 1)) (s₁.setTop (mkF m 10 #[.val (.int p1)] [(.int x1)])) := fun t k => P0 t (by
    subst hx1
    show Steps p.tables e below (s₁.setTop (mkF m 0 #[.val (.int p1)] [])) t
    refine XS.iloadN X0.here hx rfl (hb hby d1_0) rfl ?_
    show Steps p.tables e below (s₁.setTop (mkF m 1 #[.val (.int p1)] [(.int p1)])) t
    refine XS.bipush X0.here hx rfl (hb hby d1_1) ?_
    show Steps p.tables e below (s₁.setTop (mkF m 3 #[.val (.int p1)] [(.int (31 : Int32)), (.int p1)])) t
    refine XS.ishr X0.here hx rfl (hb hby d1_3) rfl ?_
    show Steps p.tables e below (s₁.setTop (mkF m 4 #[.val (.int p1)] [(.int (p1 >>> ((31 : Int32) &&& 31)))])) t
    refine XS.iloadN X0.here hx rfl (hb hby d1_4) rfl ?_
    show Steps p.tables e below (s₁.setTop (mkF m 5 #[.val (.int p1)] [(.int p1), (.int (p1 >>> ((31 : Int32) &&& 31)))])) t
    refine XS.ineg X0.here hx rfl (hb hby d1_5) rfl ?_
    show Steps p.tables e below (s₁.setTop (mkF m 6 #[.val (.int p1)] [(.int (-p1)), (.int (p1 >>> ((31 : Int32) &&& 31)))])) t
    refine XS.bipush X0.here hx rfl (hb hby d1_6) ?_
    show Steps p.tables e below (s₁.setTop (mkF m 8 #[.val (.int p1)] [(.int (31 : Int32)), (.int (-p1)), (.int (p1 >>> ((31 : Int32) &&& 31)))])) t
    refine XS.iushr X0.here hx rfl (hb hby d1_8) rfl ?_
    show Steps p.tables e below (s₁.setTop (mkF m 9 #[.val (.int p1)] [(.int (((-p1).toUInt32 >>> ((31 : Int32) &&& 31).toUInt32).toInt32)), (.int (p1 >>> ((31 : Int32) &&& 31)))])) t
    refine XS.ior X0.here hx rfl (hb hby d1_9) rfl ?_
    exact k)
  obtain ⟨fs, hr, hrun, hended, hW, hsame⟩ := X0.leave (v := some (.int x1)) (fun h => by rw [Bd.returns] at h; cases h)
  refine ⟨_, _, P2 _ ?_, hrun, hended, _, _, rfl, ?_, ⟨_, rfl⟩, hW, hsame.mono (by decide) (by decide)⟩
  · exact retI X0 hx Bd.returns (hb hby d1_10) hr
  · show Q_rmS Z p1 h0 n0 _ s₁.heap _
    rw [e0]
    exact ⟨(by unfold own_sign; subst hx1; first | rfl | rw [] | simp only [] | simp [*]), N0, rfl⟩
def Q_rmO (Z : State) (p1 : Int32) (aL : Addr) (aE : Addr) (aG : Addr) (h0 : Heap) (n0 : Nat) (v : Option Value) (h : Heap) (L : List Loc) : Prop := v = some (.ref (if p1 < (0 : Int32) then aL else (if (0 : Int32) < p1 then aG else aE))) ∧ Fr n0 L ∧ h = h0
set_option maxRecDepth 65536 in
set_option maxHeartbeats 40000000 in
theorem rmO (l : Launch) (Z : State) (a0 : Array Value) (hw : ∀ d ∈ tables_1, d.before a0 Z = true) (ws : List Jvm.Cond) (p1 : Int32) (aL : Addr) (aE : Addr) (aG : Addr) (h0 : Heap) (n0 : Nat) (Z0 : n0 ≤ h0.size) (O0 : Old Z n0 h0) (SaL : Sta Z Z.heap "com/example/rapid_pdp/rapidpdp/engine/TypeFunctions$Order" "LESS" "Lcom/example/rapid_pdp/rapidpdp/engine/TypeFunctions$Order;" (.ref aL)) (SaE : Sta Z Z.heap "com/example/rapid_pdp/rapidpdp/engine/TypeFunctions$Order" "EQUAL" "Lcom/example/rapid_pdp/rapidpdp/engine/TypeFunctions$Order;" (.ref aE)) (SaG : Sta Z Z.heap "com/example/rapid_pdp/rapidpdp/engine/TypeFunctions$Order" "GREATER" "Lcom/example/rapid_pdp/rapidpdp/engine/TypeFunctions$Order;" (.ref aG)) :
    MetFree l (⟨"com/example/rapid_pdp/rapidpdp/engine/TypeFunctions$Order", "of", "(I)Lcom/example/rapid_pdp/rapidpdp/engine/TypeFunctions$Order;"⟩ : MethodName) (head1 (Jvm.Cond.code (⟨"com/example/rapid_pdp/rapidpdp/engine/TypeFunctions$Order", "of", "(I)Lcom/example/rapid_pdp/rapidpdp/engine/TypeFunctions$Order;"⟩ : MethodName) prog_123_method_4_code 2 (some (.object "com/example/rapid_pdp/rapidpdp/engine/TypeFunctions$Order")) :: ws) ({ frames := 0, cells := 0, slots := 0, locals := 0 } : Room)) (fun a U => a = #[(.int p1)] ∧ Z.Warmed39 U.vm ∧ U.heap = h0) (fun _ _ _ _ _ => True) (fun _ U o U' => ∃ v L, o = .returned v ∧ Q_rmO Z p1 aL aE aG h0 n0 v U'.heap L ∧ FrameEnd U o U' L ({ frames := 0, cells := 0, slots := 0, locals := 0 } : Room).cells ({ frames := 0, cells := 0, slots := 0, locals := 0 } : Room).slots) := by
  refine MetFree.of_bodySF (plainFor_of_name pn_1) hisR ?_
  intro p e s m args below meth c s₁ Bd hml0 hP hK
  obtain ⟨rfl, hZ, hh⟩ := hP
  have hx := Bd.exec
  have hby := Bd.bytes
  have hml : c.maxLocals = 2 := hml0
  have hown : s.vm.findClass "com/example/rapid_pdp/rapidpdp/engine/TypeFunctions$Order" = some m.cls := findClass_of_methodNamed Bd.named
  have hnm := (name_of_methodNamed Bd.named Bd.method).1
  have X0 : Stand p l e ({ frames := 0, cells := 0, slots := 0, locals := 0 } : Room) s m #[(.int p1)] below meth c s₁ [] 0 0 := Stand.of_body Bd
  have e0 : s₁.heap = h0 := by rw [← hh, Bd.state]; rfl
  have N0 := Fr.nil n0
  have P0 : Rch p e below (s₁.setTop (entryFrame m #[(.int p1)] 2)) (s₁.setTop (mkF m 0 #[.val (.int p1), .unset] [])) := fun t k => castTop (by first | (simp [entryFrame, mkF, argsToLocals, Value.category]; done) | rfl) k
  have P1 : Rch p e below (s₁.setTop (entryFrame m #[(.int p1)] 2)) (s₁.setTop (mkF m 1 #[.val (.int p1), .unset] [(.int p1)])) := fun t k => P0 t (by
    show Steps p.tables e below (s₁.setTop (mkF m 0 #[.val (.int p1), .unset] [])) t
    refine XS.iloadN X0.here hx rfl (hb hby d2_0) rfl ?_
    exact k)
  by_cases c2 : p1 < (0 : Int32)
  · have P3 : Rch p e below (s₁.setTop (entryFrame m #[(.int p1)] 2)) (s₁.setTop (mkF m 4 #[.val (.int p1), .unset] [])) := fun t k => P1 t (by
      show Steps p.tables e below (s₁.setTop (mkF m 1 #[.val (.int p1), .unset] [(.int p1)])) t
      refine XS.ifNo X0.here hx rfl (hb hby d2_1) rfl ((if0 _ _).trans (tlt c2).2.1) ?_
      exact k)
    obtain ⟨T4, X4, e4, st4⟩ := getS2 X0 hx hZ hown (host := "") (Or.inl (hw _ (List.mem_of_getElem? (i := 21) rfl))) Via.refl e0 (SaL.ext O0.2) (g := (mkF m 4 #[.val (.int p1), .unset] [])) rfl (hb hby d2_4)
    have P5 : Rch p e below (s₁.setTop (entryFrame m #[(.int p1)] 2)) (T4.setTop (mkF m 7 #[.val (.int p1), .unset] [(.ref aL)])) := fun t k => P3 t (st4 t k)
    have P6 : Rch p e below (s₁.setTop (entryFrame m #[(.int p1)] 2)) (T4.setTop (mkF m 27 #[.val (.int p1), .val (.ref aL)] [(.ref aL)])) := fun t k => P5 t (by
      show Steps p.tables e below (T4.setTop (mkF m 7 #[.val (.int p1), .unset] [(.ref aL)])) t
      refine XS.astoreN X4.here hx rfl (hb hby d2_7) rfl rfl (l' := #[.val (.int p1), .val (.ref aL)]) rfl ?_
      show Steps p.tables e below (T4.setTop (mkF m 8 #[.val (.int p1), .val (.ref aL)] [])) t
      refine XS.goto X4.here hx rfl (pc0 := 8) (pc' := 26) rfl (hb hby d2_8) (by decide) (by decide) ?_
      show Steps p.tables e below (T4.setTop (mkF m 26 #[.val (.int p1), .val (.ref aL)] [])) t
      refine XS.aloadN X4.here hx rfl (hb hby d2_26) rfl rfl ?_
      exact k)
    obtain ⟨fs, hr, hrun, hended, hW, hsame⟩ := X4.leave (v := some (.ref aL)) (fun h => by rw [Bd.returns] at h; cases h)
    refine ⟨_, _, P6 _ ?_, hrun, hended, _, _, rfl, ?_, ⟨_, rfl⟩, hW, hsame.mono (by decide) (by decide)⟩
    · exact retOut X4 hx Bd.returns rfl (Or.inr (Or.inr (Or.inr (Or.inr ⟨rfl, rfl, rfl⟩)))) (hb hby d2_27) hr
    · show Q_rmO Z p1 aL aE aG h0 n0 _ T4.heap _
      rw [e4]
      exact ⟨(by first | rfl | rw [if_pos c2] | simp only [if_pos c2] | simp [*]), N0, rfl⟩
  · have P7 : Rch p e below (s₁.setTop (entryFrame m #[(.int p1)] 2)) (s₁.setTop (mkF m 12 #[.val (.int p1), .unset] [(.int p1)])) := fun t k => P1 t (by
      show Steps p.tables e below (s₁.setTop (mkF m 1 #[.val (.int p1), .unset] [(.int p1)])) t
      refine XS.ifYes X0.here hx rfl (pc0 := 1) (pc' := 11) rfl (hb hby d2_1) rfl ((if0 _ _).trans (flt c2).2.1) (by decide) (by decide) ?_
      show Steps p.tables e below (s₁.setTop (mkF m 11 #[.val (.int p1), .unset] [])) t
      refine XS.iloadN X0.here hx rfl (hb hby d2_11) rfl ?_
      exact k)
    by_cases c8 : (0 : Int32) < p1
    · have P9 : Rch p e below (s₁.setTop (entryFrame m #[(.int p1)] 2)) (s₁.setTop (mkF m 15 #[.val (.int p1), .unset] [])) := fun t k => P7 t (by
        show Steps p.tables e below (s₁.setTop (mkF m 12 #[.val (.int p1), .unset] [(.int p1)])) t
        refine XS.ifNo X0.here hx rfl (hb hby d2_12) rfl ((if0 _ _).trans (tlt c8).2.2.2) ?_
        exact k)
      obtain ⟨T10, X10, e10, st10⟩ := getS2 X0 hx hZ hown (host := "") (Or.inl (hw _ (List.mem_of_getElem? (i := 20) rfl))) Via.refl e0 (SaG.ext O0.2) (g := (mkF m 15 #[.val (.int p1), .unset] [])) rfl (hb hby d2_15)
      have P11 : Rch p e below (s₁.setTop (entryFrame m #[(.int p1)] 2)) (T10.setTop (mkF m 18 #[.val (.int p1), .unset] [(.ref aG)])) := fun t k => P9 t (st10 t k)
      have P12 : Rch p e below (s₁.setTop (entryFrame m #[(.int p1)] 2)) (T10.setTop (mkF m 27 #[.val (.int p1), .val (.ref aG)] [(.ref aG)])) := fun t k => P11 t (by
        show Steps p.tables e below (T10.setTop (mkF m 18 #[.val (.int p1), .unset] [(.ref aG)])) t
        refine XS.astoreN X10.here hx rfl (hb hby d2_18) rfl rfl (l' := #[.val (.int p1), .val (.ref aG)]) rfl ?_
        show Steps p.tables e below (T10.setTop (mkF m 19 #[.val (.int p1), .val (.ref aG)] [])) t
        refine XS.goto X10.here hx rfl (pc0 := 19) (pc' := 26) rfl (hb hby d2_19) (by decide) (by decide) ?_
        show Steps p.tables e below (T10.setTop (mkF m 26 #[.val (.int p1), .val (.ref aG)] [])) t
        refine XS.aloadN X10.here hx rfl (hb hby d2_26) rfl rfl ?_
        exact k)
      obtain ⟨fs, hr, hrun, hended, hW, hsame⟩ := X10.leave (v := some (.ref aG)) (fun h => by rw [Bd.returns] at h; cases h)
      refine ⟨_, _, P12 _ ?_, hrun, hended, _, _, rfl, ?_, ⟨_, rfl⟩, hW, hsame.mono (by decide) (by decide)⟩
      · exact retOut X10 hx Bd.returns rfl (Or.inr (Or.inr (Or.inr (Or.inr ⟨rfl, rfl, rfl⟩)))) (hb hby d2_27) hr
      · show Q_rmO Z p1 aL aE aG h0 n0 _ T10.heap _
        rw [e10]
        exact ⟨(by first | rfl | rw [if_neg c2, if_pos c8] | simp only [if_neg c2, if_pos c8] | simp [*]), N0, rfl⟩
    · have P13 : Rch p e below (s₁.setTop (entryFrame m #[(.int p1)] 2)) (s₁.setTop (mkF m 22 #[.val (.int p1), .unset] [])) := fun t k => P7 t (by
        show Steps p.tables e below (s₁.setTop (mkF m 12 #[.val (.int p1), .unset] [(.int p1)])) t
        refine XS.ifYes X0.here hx rfl (pc0 := 12) (pc' := 22) rfl (hb hby d2_12) rfl ((if0 _ _).trans (flt c8).2.2.2) (by decide) (by decide) ?_
        exact k)
      obtain ⟨T14, X14, e14, st14⟩ := getS2 X0 hx hZ hown (host := "") (Or.inl (hw _ (List.mem_of_getElem? (i := 17) rfl))) Via.refl e0 (SaE.ext O0.2) (g := (mkF m 22 #[.val (.int p1), .unset] [])) rfl (hb hby d2_22)
      have P15 : Rch p e below (s₁.setTop (entryFrame m #[(.int p1)] 2)) (T14.setTop (mkF m 25 #[.val (.int p1), .unset] [(.ref aE)])) := fun t k => P13 t (st14 t k)
      have P16 : Rch p e below (s₁.setTop (entryFrame m #[(.int p1)] 2)) (T14.setTop (mkF m 27 #[.val (.int p1), .val (.ref aE)] [(.ref aE)])) := fun t k => P15 t (by
        show Steps p.tables e below (T14.setTop (mkF m 25 #[.val (.int p1), .unset] [(.ref aE)])) t
        refine XS.astoreN X14.here hx rfl (hb hby d2_25) rfl rfl (l' := #[.val (.int p1), .val (.ref aE)]) rfl ?_
        show Steps p.tables e below (T14.setTop (mkF m 26 #[.val (.int p1), .val (.ref aE)] [])) t
        refine XS.aloadN X14.here hx rfl (hb hby d2_26) rfl rfl ?_
        exact k)
      obtain ⟨fs, hr, hrun, hended, hW, hsame⟩ := X14.leave (v := some (.ref aE)) (fun h => by rw [Bd.returns] at h; cases h)
      refine ⟨_, _, P16 _ ?_, hrun, hended, _, _, rfl, ?_, ⟨_, rfl⟩, hW, hsame.mono (by decide) (by decide)⟩
      · exact retOut X14 hx Bd.returns rfl (Or.inr (Or.inr (Or.inr (Or.inr ⟨rfl, rfl, rfl⟩)))) (hb hby d2_27) hr
      · show Q_rmO Z p1 aL aE aG h0 n0 _ T14.heap _
        rw [e14]
        exact ⟨(by first | rfl | rw [if_neg c2, if_neg c8] | simp only [if_neg c2, if_neg c8] | simp [*]), N0, rfl⟩
theorem own_tri (c : Int32) : (c < (0 : Int32) ∧ True ∧ own_sign c + (1 : Int32) = (0 : Int32)) ∨ (¬ (c < (0 : Int32)) ∧ ¬ ((0 : Int32) < c) ∧ own_sign c + (1 : Int32) = (1 : Int32)) ∨ (¬ (c < (0 : Int32)) ∧ (0 : Int32) < c ∧ own_sign c + (1 : Int32) = (2 : Int32)) := by
  have z0 : (0 : Int32).toInt = 0 := rfl
  have rc := rng32 c
  by_cases h : c < (0 : Int32)
  · refine Or.inl ⟨h, trivial, ?_⟩
    rw [Int32.lt_iff_toInt_lt] at h
    have e := c_ishr c 31 31 (by decide)
    have q : (c >>> ((31 : Int32) &&& 31)) = (-1 : Int32) := by
      apply Int32.toInt_inj.mp
      rw [e]; show _ = (-1 : Int); omega
    unfold own_sign
    rw [q]
    have : ∀ y : Int32, (-1 : Int32) ||| y = -1 := fun y => by
      apply Int32.toBitVec_inj.mp
      rw [Int32.toBitVec_or]
      exact BitVec.allOnes_or
    rw [this]; decide
  · by_cases h2 : (0 : Int32) < c
    · refine Or.inr (Or.inr ⟨h, h2, ?_⟩)
      rw [Int32.lt_iff_toInt_lt] at h2
      have e := c_ishr c 31 31 (by decide)
      have q : (c >>> ((31 : Int32) &&& 31)) = (0 : Int32) := by
        apply Int32.toInt_inj.mp
        rw [e]; show _ = (0 : Int); omega
      have ng := c_ineg c
      have rn := rng32 (-c)
      have e2 := c_iushr (-c) 31 31 (by decide) (by decide)
      have q2 : (((-c).toUInt32 >>> ((31 : Int32) &&& 31).toUInt32).toInt32) = (1 : Int32) := by
        apply Int32.toInt_inj.mp
        rw [e2]; show _ = (1 : Int); omega
      unfold own_sign
      rw [q, q2]; decide
    · refine Or.inr (Or.inl ⟨h, h2, ?_⟩)
      rw [Int32.lt_iff_toInt_lt] at h h2
      have : c = 0 := Int32.toInt_inj.mp (by omega)
      subst this; decide
def Q_rm0 (Z : State) (p1 : Int32) (aL : Addr) (aE : Addr) (aG : Addr) (aU : Addr) (h0 : Heap) (n0 : Nat) (v : Option Value) (h : Heap) (L : List Loc) : Prop := v = some (.int (1 : Int32)) ∧ Fr n0 L
set_option maxRecDepth 65536 in
set_option maxHeartbeats 40000000 in
theorem rm0 (l : Launch) (Z : State) (a0 : Array Value) (hw : ∀ d ∈ tables_1, d.before a0 Z = true) (ws : List Jvm.Cond) (p1 : Int32) (aL : Addr) (aE : Addr) (aG : Addr) (aU : Addr) (h0 : Heap) (n0 : Nat) (Z0 : n0 ≤ h0.size) (O0 : Old Z n0 h0) (SaL : Sta Z Z.heap "com/example/rapid_pdp/rapidpdp/engine/TypeFunctions$Order" "LESS" "Lcom/example/rapid_pdp/rapidpdp/engine/TypeFunctions$Order;" (.ref aL)) (SaE : Sta Z Z.heap "com/example/rapid_pdp/rapidpdp/engine/TypeFunctions$Order" "EQUAL" "Lcom/example/rapid_pdp/rapidpdp/engine/TypeFunctions$Order;" (.ref aE)) (SaG : Sta Z Z.heap "com/example/rapid_pdp/rapidpdp/engine/TypeFunctions$Order" "GREATER" "Lcom/example/rapid_pdp/rapidpdp/engine/TypeFunctions$Order;" (.ref aG)) (SaU : Sta Z Z.heap "com/example/rapid_pdp/rapidpdp/engine/TypeFunctions$Order" "UNORDERED" "Lcom/example/rapid_pdp/rapidpdp/engine/TypeFunctions$Order;" (.ref aU)) (EaL : Exa Z h0 aL "com/example/rapid_pdp/rapidpdp/engine/TypeFunctions$Order") (EaE : Exa Z h0 aE "com/example/rapid_pdp/rapidpdp/engine/TypeFunctions$Order") (EaG : Exa Z h0 aG "com/example/rapid_pdp/rapidpdp/engine/TypeFunctions$Order") (naL : aL ≠ aU) (naE : aE ≠ aU) (naG : aG ≠ aU) :
    MetFree l x (head1 (Jvm.Cond.code x code maxLocals ret :: ws) room_1) (fun a U => a = #[(.int p1)] ∧ Z.Warmed39 U.vm ∧ U.heap = h0) (fun _ _ _ _ _ => True) (fun _ U o U' => ∃ v L, o = .returned v ∧ Q_rm0 Z p1 aL aE aG aU h0 n0 v U'.heap L ∧ FrameEnd U o U' L room_1.cells room_1.slots) := by
  refine MetFree.of_bodySF (plainFor_of_name pn_0) hisR ?_
  intro p e s m args below meth c s₁ Bd hml0 hP hK
  obtain ⟨rfl, hZ, hh⟩ := hP
  have hx := Bd.exec
  have hby := Bd.bytes
  have hml : c.maxLocals = 4 := hml0
  have hown : s.vm.findClass "com/example/rapid_pdp/rapidpdp/engine/OrderOfPinLaw" = some m.cls := findClass_of_methodNamed Bd.named
  have hnm := (name_of_methodNamed Bd.named Bd.method).1
  have X0 : Stand p l e room_1 s m #[(.int p1)] below meth c s₁ [] 0 0 := Stand.of_body Bd
  have e0 : s₁.heap = h0 := by rw [← hh, Bd.state]; rfl
  have N0 := Fr.nil n0
  have P0 : Rch p e below (s₁.setTop (entryFrame m #[(.int p1)] maxLocals)) (s₁.setTop (mkF m 0 #[.val (.int p1), .unset, .unset, .unset] [])) := fun t k => castTop (by first | (simp [entryFrame, mkF, argsToLocals, Value.category, maxLocals]; done) | rfl) k
  have P1 : Rch p e below (s₁.setTop (entryFrame m #[(.int p1)] maxLocals)) (s₁.setTop (mkF m 1 #[.val (.int p1), .unset, .unset, .unset] [(.int (3 : Int32))])) := fun t k => P0 t (by
    show Steps p.tables e below (s₁.setTop (mkF m 0 #[.val (.int p1), .unset, .unset, .unset] [])) t
    refine XS.iconst X0.here hx rfl (hb hby at_0) ?_
    exact k)
  obtain ⟨T2, h2, k2, X2, e2, E2, A2, O2, st2⟩ := newR X0 hx hZ hown (hw _ (List.mem_of_getElem? (i := 0) rfl)) (hw _ (List.mem_of_getElem? (i := 1) rfl)) e0 (g := (mkF m 1 #[.val (.int p1), .unset, .unset, .unset] [(.int (3 : Int32))])) rfl (hb hby at_1) rfl (by decide) (cap := 3) (by decide) (by decide) (by decide) (by decide)
  obtain ⟨b2, g2⟩ : ∃ z, z = h0.size := ⟨_, rfl⟩
  rw [← g2] at A2 st2
  have g_b2 : n0 ≤ b2 := Nat.le_trans Z0 (Nat.le_of_eq g2.symm)
  have sz_b2 : h0.size ≤ b2 := Nat.le_trans (Keep.refl h0 []).1 (Nat.le_of_eq g2.symm)
  have ne_aL_b2 : aL ≠ b2 := Nat.ne_of_lt (Nat.lt_of_lt_of_le EaL.lt (Nat.le_of_eq g2.symm))
  have ne_aE_b2 : aE ≠ b2 := Nat.ne_of_lt (Nat.lt_of_lt_of_le EaE.lt (Nat.le_of_eq g2.symm))
  have ne_aG_b2 : aG ≠ b2 := Nat.ne_of_lt (Nat.lt_of_lt_of_le EaG.lt (Nat.le_of_eq g2.symm))
  have V2 : Arv Z h2 b2 k2 (.object "com/example/rapid_pdp/rapidpdp/engine/TypeFunctions$Order") (3 : Int32) [.null, .null, .null] .null := (Arv.new A2 (by decide)).pad (pad_rep [] .null 3)
  have P3 : Rch p e below (s₁.setTop (entryFrame m #[(.int p1)] maxLocals)) (T2.setTop (mkF m 4 #[.val (.int p1), .unset, .unset, .unset] [(.ref b2)])) := fun t k => P1 t (st2 t k)
  have P4 : Rch p e below (s₁.setTop (entryFrame m #[(.int p1)] maxLocals)) (T2.setTop (mkF m 7 #[.val (.int p1), .val (.ref b2), .unset, .unset] [(.int (0 : Int32)), (.ref b2)])) := fun t k => P3 t (by
    show Steps p.tables e below (T2.setTop (mkF m 4 #[.val (.int p1), .unset, .unset, .unset] [(.ref b2)])) t
    refine XS.astoreN X2.here hx rfl (hb hby at_4) rfl rfl (l' := #[.val (.int p1), .val (.ref b2), .unset, .unset]) rfl ?_
    show Steps p.tables e below (T2.setTop (mkF m 5 #[.val (.int p1), .val (.ref b2), .unset, .unset] [])) t
    refine XS.aloadN X2.here hx rfl (hb hby at_5) rfl rfl ?_
    show Steps p.tables e below (T2.setTop (mkF m 6 #[.val (.int p1), .val (.ref b2), .unset, .unset] [(.ref b2)])) t
    refine XS.iconst X2.here hx rfl (hb hby at_6) ?_
    exact k)
  have f6 : Old Z n0 h2 := (O0.ext E2)
  obtain ⟨T5, X5, e5, st5⟩ := getS2 X2 hx hZ hown (host := "") (Or.inl (hw _ (List.mem_of_getElem? (i := 2) rfl))) Via.refl e2 (SaL.ext f6.2) (g := (mkF m 7 #[.val (.int p1), .val (.ref b2), .unset, .unset] [(.int (0 : Int32)), (.ref b2)])) rfl (hb hby at_7)
  have P7 : Rch p e below (s₁.setTop (entryFrame m #[(.int p1)] maxLocals)) (T5.setTop (mkF m 10 #[.val (.int p1), .val (.ref b2), .unset, .unset] [(.ref aL), (.int (0 : Int32)), (.ref b2)])) := fun t k => P4 t (st5 t k)
  have V_o8 := V2
  obtain ⟨co8, Aro8, qo8, So8, Mo8, Ho8, Go8⟩ := V_o8
  have hin9 : ¬ ((0 : Int32) < 0 ∨ co8.slots.size ≤ ((0 : Int32)).toNatClampNeg) := inb_of So8 ⟨by decide, by decide⟩
  obtain ⟨T9, h9, X9, e9, W9, st9⟩ := stR X5 hx hZ e5 Aro8 (j := (0 : Int32)) hin9 rfl (Sto.ofV Aro8 qo8 O2 (Ins.self (EaL.ext E2))) (g := (mkF m 10 #[.val (.int p1), .val (.ref b2), .unset, .unset] [(.ref aL), (.int (0 : Int32)), (.ref b2)])) rfl rfl (hb hby at_10)
  have V9 : Arv Z h9 b2 k2 (.object "com/example/rapid_pdp/rapidpdp/engine/TypeFunctions$Order") (3 : Int32) [(.ref aL), .null, .null] .null := Arv.set Aro8 qo8 So8 Mo8 Ho8 Go8 rfl W9 0 rfl (Nat.le_of_ble_eq_true rfl)
  have P10 : Rch p e below (s₁.setTop (entryFrame m #[(.int p1)] maxLocals)) (T9.setTop (mkF m 11 #[.val (.int p1), .val (.ref b2), .unset, .unset] [])) := fun t k => P7 t (st9 t k)
  have N9 := Fr.snoc X9 N0 g_b2
  have P11 : Rch p e below (s₁.setTop (entryFrame m #[(.int p1)] maxLocals)) (T9.setTop (mkF m 13 #[.val (.int p1), .val (.ref b2), .unset, .unset] [(.int (1 : Int32)), (.ref b2)])) := fun t k => P10 t (by
    show Steps p.tables e below (T9.setTop (mkF m 11 #[.val (.int p1), .val (.ref b2), .unset, .unset] [])) t
    refine XS.aloadN X9.here hx rfl (hb hby at_11) rfl rfl ?_
    show Steps p.tables e below (T9.setTop (mkF m 12 #[.val (.int p1), .val (.ref b2), .unset, .unset] [(.ref b2)])) t
    refine XS.iconst X9.here hx rfl (hb hby at_12) ?_
    exact k)
  have f13 : Old Z n0 h9 := (f6.wr W9 g_b2)
  obtain ⟨T12, X12, e12, st12⟩ := getS2 X9 hx hZ hown (host := "") (Or.inl (hw _ (List.mem_of_getElem? (i := 6) rfl))) Via.refl e9 (SaE.ext f13.2) (g := (mkF m 13 #[.val (.int p1), .val (.ref b2), .unset, .unset] [(.int (1 : Int32)), (.ref b2)])) rfl (hb hby at_13)
  have P14 : Rch p e below (s₁.setTop (entryFrame m #[(.int p1)] maxLocals)) (T12.setTop (mkF m 16 #[.val (.int p1), .val (.ref b2), .unset, .unset] [(.ref aE), (.int (1 : Int32)), (.ref b2)])) := fun t k => P11 t (st12 t k)
  have V_o15 := V9
  obtain ⟨co15, Aro15, qo15, So15, Mo15, Ho15, Go15⟩ := V_o15
  have hin16 : ¬ ((1 : Int32) < 0 ∨ co15.slots.size ≤ ((1 : Int32)).toNatClampNeg) := inb_of So15 ⟨by decide, by decide⟩
  obtain ⟨T16, h16, X16, e16, W16, st16⟩ := stR X12 hx hZ e12 Aro15 (j := (1 : Int32)) hin16 rfl (Sto.ofV Aro15 qo15 O2 (Ins.self ((EaE.ext E2).wr W9))) (g := (mkF m 16 #[.val (.int p1), .val (.ref b2), .unset, .unset] [(.ref aE), (.int (1 : Int32)), (.ref b2)])) rfl rfl (hb hby at_16)
  have V16 : Arv Z h16 b2 k2 (.object "com/example/rapid_pdp/rapidpdp/engine/TypeFunctions$Order") (3 : Int32) [(.ref aL), (.ref aE), .null] .null := Arv.set Aro15 qo15 So15 Mo15 Ho15 Go15 rfl W16 1 rfl (Nat.le_of_ble_eq_true rfl)
  have P17 : Rch p e below (s₁.setTop (entryFrame m #[(.int p1)] maxLocals)) (T16.setTop (mkF m 17 #[.val (.int p1), .val (.ref b2), .unset, .unset] [])) := fun t k => P14 t (st16 t k)
  have N16 := Fr.snoc X16 N9 g_b2
  have P18 : Rch p e below (s₁.setTop (entryFrame m #[(.int p1)] maxLocals)) (T16.setTop (mkF m 19 #[.val (.int p1), .val (.ref b2), .unset, .unset] [(.int (2 : Int32)), (.ref b2)])) := fun t k => P17 t (by
    show Steps p.tables e below (T16.setTop (mkF m 17 #[.val (.int p1), .val (.ref b2), .unset, .unset] [])) t
    refine XS.aloadN X16.here hx rfl (hb hby at_17) rfl rfl ?_
    show Steps p.tables e below (T16.setTop (mkF m 18 #[.val (.int p1), .val (.ref b2), .unset, .unset] [(.ref b2)])) t
    refine XS.iconst X16.here hx rfl (hb hby at_18) ?_
    exact k)
  have f20 : Old Z n0 h16 := (f13.wr W16 g_b2)
  obtain ⟨T19, X19, e19, st19⟩ := getS2 X16 hx hZ hown (host := "") (Or.inl (hw _ (List.mem_of_getElem? (i := 8) rfl))) Via.refl e16 (SaG.ext f20.2) (g := (mkF m 19 #[.val (.int p1), .val (.ref b2), .unset, .unset] [(.int (2 : Int32)), (.ref b2)])) rfl (hb hby at_19)
  have P21 : Rch p e below (s₁.setTop (entryFrame m #[(.int p1)] maxLocals)) (T19.setTop (mkF m 22 #[.val (.int p1), .val (.ref b2), .unset, .unset] [(.ref aG), (.int (2 : Int32)), (.ref b2)])) := fun t k => P18 t (st19 t k)
  have V_o22 := V16
  obtain ⟨co22, Aro22, qo22, So22, Mo22, Ho22, Go22⟩ := V_o22
  have hin23 : ¬ ((2 : Int32) < 0 ∨ co22.slots.size ≤ ((2 : Int32)).toNatClampNeg) := inb_of So22 ⟨by decide, by decide⟩
  obtain ⟨T23, h23, X23, e23, W23, st23⟩ := stR X19 hx hZ e19 Aro22 (j := (2 : Int32)) hin23 rfl (Sto.ofV Aro22 qo22 O2 (Ins.self (((EaG.ext E2).wr W9).wr W16))) (g := (mkF m 22 #[.val (.int p1), .val (.ref b2), .unset, .unset] [(.ref aG), (.int (2 : Int32)), (.ref b2)])) rfl rfl (hb hby at_22)
  have V23 : Arv Z h23 b2 k2 (.object "com/example/rapid_pdp/rapidpdp/engine/TypeFunctions$Order") (3 : Int32) [(.ref aL), (.ref aE), (.ref aG)] .null := Arv.set Aro22 qo22 So22 Mo22 Ho22 Go22 rfl W23 2 rfl (Nat.le_of_ble_eq_true rfl)
  have P24 : Rch p e below (s₁.setTop (entryFrame m #[(.int p1)] maxLocals)) (T23.setTop (mkF m 23 #[.val (.int p1), .val (.ref b2), .unset, .unset] [])) := fun t k => P21 t (st23 t k)
  have N23 := Fr.snoc X23 N16 g_b2
  have P25 : Rch p e below (s₁.setTop (entryFrame m #[(.int p1)] maxLocals)) (T23.setTop (mkF m 25 #[.val (.int p1), .val (.ref b2), .unset, .unset] [(.int p1), (.ref b2)])) := fun t k => P24 t (by
    show Steps p.tables e below (T23.setTop (mkF m 23 #[.val (.int p1), .val (.ref b2), .unset, .unset] [])) t
    refine XS.aloadN X23.here hx rfl (hb hby at_23) rfl rfl ?_
    show Steps p.tables e below (T23.setTop (mkF m 24 #[.val (.int p1), .val (.ref b2), .unset, .unset] [(.ref b2)])) t
    refine XS.iloadN X23.here hx rfl (hb hby at_24) rfl ?_
    exact k)
  have f27 : n0 ≤ h23.size := (Nat.le_trans (Nat.le_trans (Nat.le_trans (Nat.le_trans Z0 E2.1) (Keep.of_wr W9).1) (Keep.of_wr W16).1) (Keep.of_wr W23).1)
  obtain ⟨_, _, ⟨T26, L26, k26, n26⟩, -, X26, ⟨Lc26, hQ26, l26, y26, z26⟩, st26⟩ := Jvm.LawKit.callS X23 hx (y := (⟨"com/example/rapid_pdp/rapidpdp/engine/OrderOfPinLaw", "sign", "(I)I"⟩ : MethodName)) hown (mvT hZ (hw _ (List.mem_of_getElem? (i := 10) rfl))) (mvT hZ (hw _ (List.mem_of_getElem? (i := 11) rfl))) (mvT hZ (hw _ (List.mem_of_getElem? (i := 12) rfl))) (mvT hZ (hw _ (List.mem_of_getElem? (i := 13) rfl))) (by decide) (backOf (W := 1) (rmS l Z a0 hw [] p1 h23 n0 f27 ) hZ (hw _ (List.mem_of_getElem? (i := 13) rfl)) (hw _ (List.mem_of_getElem? (i := 12) rfl)) (by decide) (by decide)) (g := (mkF m 25 #[.val (.int p1), .val (.ref b2), .unset, .unset] [(.int p1), (.ref b2)])) rfl (by rw [hml]; rfl) (argsL := [(.int p1)]) (rest := [(.ref b2)]) (lenOf pd_0 rfl) rfl (by show 2 * 0 + _ ≤ _; exact Nat.le_of_eq rfl) (hb hby at_25) (fun _ _ => ⟨rfl, e23, (by decide : 1 + 0 ≤ _), (by decide : 3 + 0 ≤ _)⟩)
  dsimp only [Pt.U, Pt.locs, Pt.cells, Pt.slots] at X26 l26 y26 z26 st26 hQ26
  subst l26 y26 z26
  obtain ⟨rfl, N26q, e26⟩ := hQ26
  have N26 := Fr.app N23 N26q
  have P28 : Rch p e below (s₁.setTop (entryFrame m #[(.int p1)] maxLocals)) (T26.setTop (mkF m 28 #[.val (.int p1), .val (.ref b2), .unset, .unset] [(.int (own_sign p1)), (.ref b2)])) := fun t k => P25 t (st26 t k)
  obtain ⟨x29, hx29⟩ : ∃ z : Int32, z = (own_sign p1) := ⟨_, rfl⟩
  rw [← hx29] at P28
  obtain ⟨x30, hx30⟩ : ∃ z : Int32, z = (x29 + (1 : Int32)) := ⟨_, rfl⟩
  have P31 : Rch p e below (s₁.setTop (entryFrame m #[(.int p1)] maxLocals)) (T26.setTop (mkF m 30 #[.val (.int p1), .val (.ref b2), .unset, .unset] [(.int x30), (.ref b2)])) := fun t k => P28 t (by
    subst hx30
    show Steps p.tables e below (T26.setTop (mkF m 28 #[.val (.int p1), .val (.ref b2), .unset, .unset] [(.int x29), (.ref b2)])) t
    refine XS.iconst X26.here hx rfl (hb hby at_28) ?_
    show Steps p.tables e below (T26.setTop (mkF m 29 #[.val (.int p1), .val (.ref b2), .unset, .unset] [(.int (1 : Int32)), (.int x29), (.ref b2)])) t
    refine XS.iadd X26.here hx rfl (hb hby at_29) rfl ?_
    exact k)
  rcases own_tri p1 with hs | hs | hs
  · have hi_ : x30 = (0 : Int32) := by subst hx30 hx29; exact hs.2.2
    have P32 : Rch p e below (s₁.setTop (entryFrame m #[(.int p1)] maxLocals)) (T26.setTop (mkF m 30 #[.val (.int p1), .val (.ref b2), .unset, .unset] [(.int (0 : Int32)), (.ref b2)])) := by have q_ := P31; rw [hi_] at q_; exact q_
    have V_o33 := V23
    obtain ⟨co33, Aro33, qo33, So33, Mo33, Ho33, Go33⟩ := V_o33
    have hin34 : ¬ ((0 : Int32) < 0 ∨ co33.slots.size ≤ ((0 : Int32)).toNatClampNeg) := inb_of So33 ⟨by decide, by decide⟩
    have hat34 : co33.slots[((0 : Int32)).toNatClampNeg]? = some (.ref aL) := Has.at Ho33 hin34 rfl
    have P35 : Rch p e below (s₁.setTop (entryFrame m #[(.int p1)] maxLocals)) (T26.setTop (mkF m 31 #[.val (.int p1), .val (.ref b2), .unset, .unset] [(.ref aL)])) := fun t k => P32 t (X26.aaload hx (j := (0 : Int32)) (v := (.ref aL)) (by rw [e26]; exact Aro33.1) (State.isArrayOf_alike hZ.alike Aro33.2.1) rfl Aro33.2.2 hin34 hat34 (g := (mkF m 30 #[.val (.int p1), .val (.ref b2), .unset, .unset] [(.int (0 : Int32)), (.ref b2)])) rfl rfl (hb hby at_30) t k)
    have P36 : Rch p e below (s₁.setTop (entryFrame m #[(.int p1)] maxLocals)) (T26.setTop (mkF m 33 #[.val (.int p1), .val (.ref b2), .val (.ref aL), .unset] [(.int p1)])) := fun t k => P35 t (by
      show Steps p.tables e below (T26.setTop (mkF m 31 #[.val (.int p1), .val (.ref b2), .unset, .unset] [(.ref aL)])) t
      refine XS.astoreN X26.here hx rfl (hb hby at_31) rfl rfl (l' := #[.val (.int p1), .val (.ref b2), .val (.ref aL), .unset]) rfl ?_
      show Steps p.tables e below (T26.setTop (mkF m 32 #[.val (.int p1), .val (.ref b2), .val (.ref aL), .unset] [])) t
      refine XS.iloadN X26.here hx rfl (hb hby at_32) rfl ?_
      exact k)
    have f38 : Old Z n0 h23 := (f20.wr W23 g_b2)
    obtain ⟨_, _, ⟨T37, L37, k37, n37⟩, -, X37, ⟨Lc37, hQ37, l37, y37, z37⟩, st37⟩ := Jvm.LawKit.callS X26 hx (y := (⟨"com/example/rapid_pdp/rapidpdp/engine/TypeFunctions$Order", "of", "(I)Lcom/example/rapid_pdp/rapidpdp/engine/TypeFunctions$Order;"⟩ : MethodName)) hown (mvT hZ (hw _ (List.mem_of_getElem? (i := 14) rfl))) (mvT hZ (hw _ (List.mem_of_getElem? (i := 15) rfl))) (mvT hZ (hw _ (List.mem_of_getElem? (i := 3) rfl))) (mvT hZ (hw _ (List.mem_of_getElem? (i := 16) rfl))) (by decide) (backOf (W := 0) (rmO l Z a0 hw [] p1 aL aE aG h23 n0 f27 f38 SaL SaE SaG) hZ (hw _ (List.mem_of_getElem? (i := 16) rfl)) (hw _ (List.mem_of_getElem? (i := 3) rfl)) (by decide) (by decide)) (g := (mkF m 33 #[.val (.int p1), .val (.ref b2), .val (.ref aL), .unset] [(.int p1)])) rfl (by rw [hml]; rfl) (argsL := [(.int p1)]) (rest := []) (lenOf pd_1 rfl) rfl (by show 2 * 0 + _ ≤ _; exact Nat.le_of_eq rfl) (hb hby at_33) (fun _ _ => ⟨rfl, e26, (by decide : 1 + 0 ≤ _), (by decide : 3 + 0 ≤ _)⟩)
    dsimp only [Pt.U, Pt.locs, Pt.cells, Pt.slots] at X37 l37 y37 z37 st37 hQ37
    subst l37 y37 z37
    obtain ⟨rfl, N37q, e37⟩ := hQ37
    have N37 := Fr.app N26 N37q
    have P39 : Rch p e below (s₁.setTop (entryFrame m #[(.int p1)] maxLocals)) (T37.setTop (mkF m 36 #[.val (.int p1), .val (.ref b2), .val (.ref aL), .unset] [(.ref (if p1 < (0 : Int32) then aL else (if (0 : Int32) < p1 then aG else aE)))])) := fun t k => P36 t (st37 t k)
    obtain ⟨r40, hr40⟩ : ∃ z : Addr, z = (if p1 < (0 : Int32) then aL else (if (0 : Int32) < p1 then aG else aE)) := ⟨_, rfl⟩
    rw [← hr40] at P39
    have P41 : Rch p e below (s₁.setTop (entryFrame m #[(.int p1)] maxLocals)) (T37.setTop (mkF m 36 #[.val (.int p1), .val (.ref b2), .val (.ref aL), .unset] [(.ref aL)])) := by have q_ := P39; rw [hr40, if_pos hs.1] at q_; exact q_
    have P42 : Rch p e below (s₁.setTop (entryFrame m #[(.int p1)] maxLocals)) (T37.setTop (mkF m 43 #[.val (.int p1), .val (.ref b2), .val (.ref aL), .val (.ref aL)] [(.ref aL)])) := fun t k => P41 t (by
      show Steps p.tables e below (T37.setTop (mkF m 36 #[.val (.int p1), .val (.ref b2), .val (.ref aL), .unset] [(.ref aL)])) t
      refine XS.astoreN X37.here hx rfl (hb hby at_36) rfl rfl (l' := #[.val (.int p1), .val (.ref b2), .val (.ref aL), .val (.ref aL)]) rfl ?_
      show Steps p.tables e below (T37.setTop (mkF m 37 #[.val (.int p1), .val (.ref b2), .val (.ref aL), .val (.ref aL)] [])) t
      refine XS.aloadN X37.here hx rfl (hb hby at_37) rfl rfl ?_
      show Steps p.tables e below (T37.setTop (mkF m 38 #[.val (.int p1), .val (.ref b2), .val (.ref aL), .val (.ref aL)] [(.ref aL)])) t
      refine XS.aloadN X37.here hx rfl (hb hby at_38) rfl rfl ?_
      show Steps p.tables e below (T37.setTop (mkF m 39 #[.val (.int p1), .val (.ref b2), .val (.ref aL), .val (.ref aL)] [(.ref aL), (.ref aL)])) t
      refine Jvm.RoadKit.acmp (g := (mkF m 39 #[.val (.int p1), .val (.ref b2), .val (.ref aL), .val (.ref aL)] [(.ref aL), (.ref aL)])) X37 hx rfl rfl rfl (pc0 := 39) (pc' := 42) (same := true) rfl (hb hby at_39) rfl (decide_eq_true (congrArg Value.ref rfl)) (by decide) (by decide) ?_
      show Steps p.tables e below (T37.setTop (mkF m 42 #[.val (.int p1), .val (.ref b2), .val (.ref aL), .val (.ref aL)] [])) t
      refine XS.aloadN X37.here hx rfl (hb hby at_42) rfl rfl ?_
      exact k)
    obtain ⟨T43, X43, e43, st43⟩ := getS2 X37 hx hZ hown (host := "") (Or.inl (hw _ (List.mem_of_getElem? (i := 18) rfl))) Via.refl e37 (SaU.ext f38.2) (g := (mkF m 43 #[.val (.int p1), .val (.ref b2), .val (.ref aL), .val (.ref aL)] [(.ref aL)])) rfl (hb hby at_43)
    have P44 : Rch p e below (s₁.setTop (entryFrame m #[(.int p1)] maxLocals)) (T43.setTop (mkF m 46 #[.val (.int p1), .val (.ref b2), .val (.ref aL), .val (.ref aL)] [(.ref aU), (.ref aL)])) := fun t k => P42 t (st43 t k)
    have P45 : Rch p e below (s₁.setTop (entryFrame m #[(.int p1)] maxLocals)) (T43.setTop (mkF m 54 #[.val (.int p1), .val (.ref b2), .val (.ref aL), .val (.ref aL)] [(.int (1 : Int32))])) := fun t k => P44 t (by
      show Steps p.tables e below (T43.setTop (mkF m 46 #[.val (.int p1), .val (.ref b2), .val (.ref aL), .val (.ref aL)] [(.ref aU), (.ref aL)])) t
      refine Jvm.RoadKit.acmp (g := (mkF m 46 #[.val (.int p1), .val (.ref b2), .val (.ref aL), .val (.ref aL)] [(.ref aU), (.ref aL)])) X43 hx rfl rfl rfl (pc0 := 46) (pc' := 49) (same := false) rfl (hb hby at_46) rfl (decide_eq_false fun q => naL (Value.ref.inj q)) (by decide) (by decide) ?_
      show Steps p.tables e below (T43.setTop (mkF m 49 #[.val (.int p1), .val (.ref b2), .val (.ref aL), .val (.ref aL)] [])) t
      refine XS.iconst X43.here hx rfl (hb hby at_49) ?_
      show Steps p.tables e below (T43.setTop (mkF m 50 #[.val (.int p1), .val (.ref b2), .val (.ref aL), .val (.ref aL)] [(.int (1 : Int32))])) t
      refine XS.goto X43.here hx rfl (pc0 := 50) (pc' := 54) rfl (hb hby at_50) (by decide) (by decide) ?_
      exact k)
    obtain ⟨fs, hr, hrun, hended, hW, hsame⟩ := X43.leave (v := some (.int (1 : Int32))) (fun h => by rw [Bd.returns] at h; cases h)
    refine ⟨_, _, P45 _ ?_, hrun, hended, _, _, rfl, ?_, ⟨_, rfl⟩, hW, hsame.mono (by decide) (by decide)⟩
    · exact retN X43 hx (t := .boolean) Bd.returns (by simp) (hb hby at_54) hr
    · show Q_rm0 Z p1 aL aE aG aU h0 n0 _ T43.heap _
      rw [e43]
      exact ⟨rfl, N37⟩
  · have hi_ : x30 = (1 : Int32) := by subst hx30 hx29; exact hs.2.2
    have P46 : Rch p e below (s₁.setTop (entryFrame m #[(.int p1)] maxLocals)) (T26.setTop (mkF m 30 #[.val (.int p1), .val (.ref b2), .unset, .unset] [(.int (1 : Int32)), (.ref b2)])) := by have q_ := P31; rw [hi_] at q_; exact q_
    have V_o47 := V23
    obtain ⟨co47, Aro47, qo47, So47, Mo47, Ho47, Go47⟩ := V_o47
    have hin48 : ¬ ((1 : Int32) < 0 ∨ co47.slots.size ≤ ((1 : Int32)).toNatClampNeg) := inb_of So47 ⟨by decide, by decide⟩
    have hat48 : co47.slots[((1 : Int32)).toNatClampNeg]? = some (.ref aE) := Has.at Ho47 hin48 rfl
    have P49 : Rch p e below (s₁.setTop (entryFrame m #[(.int p1)] maxLocals)) (T26.setTop (mkF m 31 #[.val (.int p1), .val (.ref b2), .unset, .unset] [(.ref aE)])) := fun t k => P46 t (X26.aaload hx (j := (1 : Int32)) (v := (.ref aE)) (by rw [e26]; exact Aro47.1) (State.isArrayOf_alike hZ.alike Aro47.2.1) rfl Aro47.2.2 hin48 hat48 (g := (mkF m 30 #[.val (.int p1), .val (.ref b2), .unset, .unset] [(.int (1 : Int32)), (.ref b2)])) rfl rfl (hb hby at_30) t k)
    have P50 : Rch p e below (s₁.setTop (entryFrame m #[(.int p1)] maxLocals)) (T26.setTop (mkF m 33 #[.val (.int p1), .val (.ref b2), .val (.ref aE), .unset] [(.int p1)])) := fun t k => P49 t (by
      show Steps p.tables e below (T26.setTop (mkF m 31 #[.val (.int p1), .val (.ref b2), .unset, .unset] [(.ref aE)])) t
      refine XS.astoreN X26.here hx rfl (hb hby at_31) rfl rfl (l' := #[.val (.int p1), .val (.ref b2), .val (.ref aE), .unset]) rfl ?_
      show Steps p.tables e below (T26.setTop (mkF m 32 #[.val (.int p1), .val (.ref b2), .val (.ref aE), .unset] [])) t
      refine XS.iloadN X26.here hx rfl (hb hby at_32) rfl ?_
      exact k)
    have f52 : Old Z n0 h23 := (f20.wr W23 g_b2)
    obtain ⟨_, _, ⟨T51, L51, k51, n51⟩, -, X51, ⟨Lc51, hQ51, l51, y51, z51⟩, st51⟩ := Jvm.LawKit.callS X26 hx (y := (⟨"com/example/rapid_pdp/rapidpdp/engine/TypeFunctions$Order", "of", "(I)Lcom/example/rapid_pdp/rapidpdp/engine/TypeFunctions$Order;"⟩ : MethodName)) hown (mvT hZ (hw _ (List.mem_of_getElem? (i := 14) rfl))) (mvT hZ (hw _ (List.mem_of_getElem? (i := 15) rfl))) (mvT hZ (hw _ (List.mem_of_getElem? (i := 3) rfl))) (mvT hZ (hw _ (List.mem_of_getElem? (i := 16) rfl))) (by decide) (backOf (W := 0) (rmO l Z a0 hw [] p1 aL aE aG h23 n0 f27 f52 SaL SaE SaG) hZ (hw _ (List.mem_of_getElem? (i := 16) rfl)) (hw _ (List.mem_of_getElem? (i := 3) rfl)) (by decide) (by decide)) (g := (mkF m 33 #[.val (.int p1), .val (.ref b2), .val (.ref aE), .unset] [(.int p1)])) rfl (by rw [hml]; rfl) (argsL := [(.int p1)]) (rest := []) (lenOf pd_1 rfl) rfl (by show 2 * 0 + _ ≤ _; exact Nat.le_of_eq rfl) (hb hby at_33) (fun _ _ => ⟨rfl, e26, (by decide : 1 + 0 ≤ _), (by decide : 3 + 0 ≤ _)⟩)
    dsimp only [Pt.U, Pt.locs, Pt.cells, Pt.slots] at X51 l51 y51 z51 st51 hQ51
    subst l51 y51 z51
    obtain ⟨rfl, N51q, e51⟩ := hQ51
    have N51 := Fr.app N26 N51q
    have P53 : Rch p e below (s₁.setTop (entryFrame m #[(.int p1)] maxLocals)) (T51.setTop (mkF m 36 #[.val (.int p1), .val (.ref b2), .val (.ref aE), .unset] [(.ref (if p1 < (0 : Int32) then aL else (if (0 : Int32) < p1 then aG else aE)))])) := fun t k => P50 t (st51 t k)
    obtain ⟨r54, hr54⟩ : ∃ z : Addr, z = (if p1 < (0 : Int32) then aL else (if (0 : Int32) < p1 then aG else aE)) := ⟨_, rfl⟩
    rw [← hr54] at P53
    have P55 : Rch p e below (s₁.setTop (entryFrame m #[(.int p1)] maxLocals)) (T51.setTop (mkF m 36 #[.val (.int p1), .val (.ref b2), .val (.ref aE), .unset] [(.ref aE)])) := by have q_ := P53; rw [hr54, if_neg hs.1, if_neg hs.2.1] at q_; exact q_
    have P56 : Rch p e below (s₁.setTop (entryFrame m #[(.int p1)] maxLocals)) (T51.setTop (mkF m 43 #[.val (.int p1), .val (.ref b2), .val (.ref aE), .val (.ref aE)] [(.ref aE)])) := fun t k => P55 t (by
      show Steps p.tables e below (T51.setTop (mkF m 36 #[.val (.int p1), .val (.ref b2), .val (.ref aE), .unset] [(.ref aE)])) t
      refine XS.astoreN X51.here hx rfl (hb hby at_36) rfl rfl (l' := #[.val (.int p1), .val (.ref b2), .val (.ref aE), .val (.ref aE)]) rfl ?_
      show Steps p.tables e below (T51.setTop (mkF m 37 #[.val (.int p1), .val (.ref b2), .val (.ref aE), .val (.ref aE)] [])) t
      refine XS.aloadN X51.here hx rfl (hb hby at_37) rfl rfl ?_
      show Steps p.tables e below (T51.setTop (mkF m 38 #[.val (.int p1), .val (.ref b2), .val (.ref aE), .val (.ref aE)] [(.ref aE)])) t
      refine XS.aloadN X51.here hx rfl (hb hby at_38) rfl rfl ?_
      show Steps p.tables e below (T51.setTop (mkF m 39 #[.val (.int p1), .val (.ref b2), .val (.ref aE), .val (.ref aE)] [(.ref aE), (.ref aE)])) t
      refine Jvm.RoadKit.acmp (g := (mkF m 39 #[.val (.int p1), .val (.ref b2), .val (.ref aE), .val (.ref aE)] [(.ref aE), (.ref aE)])) X51 hx rfl rfl rfl (pc0 := 39) (pc' := 42) (same := true) rfl (hb hby at_39) rfl (decide_eq_true (congrArg Value.ref rfl)) (by decide) (by decide) ?_
      show Steps p.tables e below (T51.setTop (mkF m 42 #[.val (.int p1), .val (.ref b2), .val (.ref aE), .val (.ref aE)] [])) t
      refine XS.aloadN X51.here hx rfl (hb hby at_42) rfl rfl ?_
      exact k)
    obtain ⟨T57, X57, e57, st57⟩ := getS2 X51 hx hZ hown (host := "") (Or.inl (hw _ (List.mem_of_getElem? (i := 18) rfl))) Via.refl e51 (SaU.ext f52.2) (g := (mkF m 43 #[.val (.int p1), .val (.ref b2), .val (.ref aE), .val (.ref aE)] [(.ref aE)])) rfl (hb hby at_43)
    have P58 : Rch p e below (s₁.setTop (entryFrame m #[(.int p1)] maxLocals)) (T57.setTop (mkF m 46 #[.val (.int p1), .val (.ref b2), .val (.ref aE), .val (.ref aE)] [(.ref aU), (.ref aE)])) := fun t k => P56 t (st57 t k)
    have P59 : Rch p e below (s₁.setTop (entryFrame m #[(.int p1)] maxLocals)) (T57.setTop (mkF m 54 #[.val (.int p1), .val (.ref b2), .val (.ref aE), .val (.ref aE)] [(.int (1 : Int32))])) := fun t k => P58 t (by
      show Steps p.tables e below (T57.setTop (mkF m 46 #[.val (.int p1), .val (.ref b2), .val (.ref aE), .val (.ref aE)] [(.ref aU), (.ref aE)])) t
      refine Jvm.RoadKit.acmp (g := (mkF m 46 #[.val (.int p1), .val (.ref b2), .val (.ref aE), .val (.ref aE)] [(.ref aU), (.ref aE)])) X57 hx rfl rfl rfl (pc0 := 46) (pc' := 49) (same := false) rfl (hb hby at_46) rfl (decide_eq_false fun q => naE (Value.ref.inj q)) (by decide) (by decide) ?_
      show Steps p.tables e below (T57.setTop (mkF m 49 #[.val (.int p1), .val (.ref b2), .val (.ref aE), .val (.ref aE)] [])) t
      refine XS.iconst X57.here hx rfl (hb hby at_49) ?_
      show Steps p.tables e below (T57.setTop (mkF m 50 #[.val (.int p1), .val (.ref b2), .val (.ref aE), .val (.ref aE)] [(.int (1 : Int32))])) t
      refine XS.goto X57.here hx rfl (pc0 := 50) (pc' := 54) rfl (hb hby at_50) (by decide) (by decide) ?_
      exact k)
    obtain ⟨fs, hr, hrun, hended, hW, hsame⟩ := X57.leave (v := some (.int (1 : Int32))) (fun h => by rw [Bd.returns] at h; cases h)
    refine ⟨_, _, P59 _ ?_, hrun, hended, _, _, rfl, ?_, ⟨_, rfl⟩, hW, hsame.mono (by decide) (by decide)⟩
    · exact retN X57 hx (t := .boolean) Bd.returns (by simp) (hb hby at_54) hr
    · show Q_rm0 Z p1 aL aE aG aU h0 n0 _ T57.heap _
      rw [e57]
      exact ⟨rfl, N51⟩
  · have hi_ : x30 = (2 : Int32) := by subst hx30 hx29; exact hs.2.2
    have P60 : Rch p e below (s₁.setTop (entryFrame m #[(.int p1)] maxLocals)) (T26.setTop (mkF m 30 #[.val (.int p1), .val (.ref b2), .unset, .unset] [(.int (2 : Int32)), (.ref b2)])) := by have q_ := P31; rw [hi_] at q_; exact q_
    have V_o61 := V23
    obtain ⟨co61, Aro61, qo61, So61, Mo61, Ho61, Go61⟩ := V_o61
    have hin62 : ¬ ((2 : Int32) < 0 ∨ co61.slots.size ≤ ((2 : Int32)).toNatClampNeg) := inb_of So61 ⟨by decide, by decide⟩
    have hat62 : co61.slots[((2 : Int32)).toNatClampNeg]? = some (.ref aG) := Has.at Ho61 hin62 rfl
    have P63 : Rch p e below (s₁.setTop (entryFrame m #[(.int p1)] maxLocals)) (T26.setTop (mkF m 31 #[.val (.int p1), .val (.ref b2), .unset, .unset] [(.ref aG)])) := fun t k => P60 t (X26.aaload hx (j := (2 : Int32)) (v := (.ref aG)) (by rw [e26]; exact Aro61.1) (State.isArrayOf_alike hZ.alike Aro61.2.1) rfl Aro61.2.2 hin62 hat62 (g := (mkF m 30 #[.val (.int p1), .val (.ref b2), .unset, .unset] [(.int (2 : Int32)), (.ref b2)])) rfl rfl (hb hby at_30) t k)
    have P64 : Rch p e below (s₁.setTop (entryFrame m #[(.int p1)] maxLocals)) (T26.setTop (mkF m 33 #[.val (.int p1), .val (.ref b2), .val (.ref aG), .unset] [(.int p1)])) := fun t k => P63 t (by
      show Steps p.tables e below (T26.setTop (mkF m 31 #[.val (.int p1), .val (.ref b2), .unset, .unset] [(.ref aG)])) t
      refine XS.astoreN X26.here hx rfl (hb hby at_31) rfl rfl (l' := #[.val (.int p1), .val (.ref b2), .val (.ref aG), .unset]) rfl ?_
      show Steps p.tables e below (T26.setTop (mkF m 32 #[.val (.int p1), .val (.ref b2), .val (.ref aG), .unset] [])) t
      refine XS.iloadN X26.here hx rfl (hb hby at_32) rfl ?_
      exact k)
    have f66 : Old Z n0 h23 := (f20.wr W23 g_b2)
    obtain ⟨_, _, ⟨T65, L65, k65, n65⟩, -, X65, ⟨Lc65, hQ65, l65, y65, z65⟩, st65⟩ := Jvm.LawKit.callS X26 hx (y := (⟨"com/example/rapid_pdp/rapidpdp/engine/TypeFunctions$Order", "of", "(I)Lcom/example/rapid_pdp/rapidpdp/engine/TypeFunctions$Order;"⟩ : MethodName)) hown (mvT hZ (hw _ (List.mem_of_getElem? (i := 14) rfl))) (mvT hZ (hw _ (List.mem_of_getElem? (i := 15) rfl))) (mvT hZ (hw _ (List.mem_of_getElem? (i := 3) rfl))) (mvT hZ (hw _ (List.mem_of_getElem? (i := 16) rfl))) (by decide) (backOf (W := 0) (rmO l Z a0 hw [] p1 aL aE aG h23 n0 f27 f66 SaL SaE SaG) hZ (hw _ (List.mem_of_getElem? (i := 16) rfl)) (hw _ (List.mem_of_getElem? (i := 3) rfl)) (by decide) (by decide)) (g := (mkF m 33 #[.val (.int p1), .val (.ref b2), .val (.ref aG), .unset] [(.int p1)])) rfl (by rw [hml]; rfl) (argsL := [(.int p1)]) (rest := []) (lenOf pd_1 rfl) rfl (by show 2 * 0 + _ ≤ _; exact Nat.le_of_eq rfl) (hb hby at_33) (fun _ _ => ⟨rfl, e26, (by decide : 1 + 0 ≤ _), (by decide : 3 + 0 ≤ _)⟩)
    dsimp only [Pt.U, Pt.locs, Pt.cells, Pt.slots] at X65 l65 y65 z65 st65 hQ65
    subst l65 y65 z65
    obtain ⟨rfl, N65q, e65⟩ := hQ65
    have N65 := Fr.app N26 N65q
    have P67 : Rch p e below (s₁.setTop (entryFrame m #[(.int p1)] maxLocals)) (T65.setTop (mkF m 36 #[.val (.int p1), .val (.ref b2), .val (.ref aG), .unset] [(.ref (if p1 < (0 : Int32) then aL else (if (0 : Int32) < p1 then aG else aE)))])) := fun t k => P64 t (st65 t k)
    obtain ⟨r68, hr68⟩ : ∃ z : Addr, z = (if p1 < (0 : Int32) then aL else (if (0 : Int32) < p1 then aG else aE)) := ⟨_, rfl⟩
    rw [← hr68] at P67
    have P69 : Rch p e below (s₁.setTop (entryFrame m #[(.int p1)] maxLocals)) (T65.setTop (mkF m 36 #[.val (.int p1), .val (.ref b2), .val (.ref aG), .unset] [(.ref aG)])) := by have q_ := P67; rw [hr68, if_neg hs.1, if_pos hs.2.1] at q_; exact q_
    have P70 : Rch p e below (s₁.setTop (entryFrame m #[(.int p1)] maxLocals)) (T65.setTop (mkF m 43 #[.val (.int p1), .val (.ref b2), .val (.ref aG), .val (.ref aG)] [(.ref aG)])) := fun t k => P69 t (by
      show Steps p.tables e below (T65.setTop (mkF m 36 #[.val (.int p1), .val (.ref b2), .val (.ref aG), .unset] [(.ref aG)])) t
      refine XS.astoreN X65.here hx rfl (hb hby at_36) rfl rfl (l' := #[.val (.int p1), .val (.ref b2), .val (.ref aG), .val (.ref aG)]) rfl ?_
      show Steps p.tables e below (T65.setTop (mkF m 37 #[.val (.int p1), .val (.ref b2), .val (.ref aG), .val (.ref aG)] [])) t
      refine XS.aloadN X65.here hx rfl (hb hby at_37) rfl rfl ?_
      show Steps p.tables e below (T65.setTop (mkF m 38 #[.val (.int p1), .val (.ref b2), .val (.ref aG), .val (.ref aG)] [(.ref aG)])) t
      refine XS.aloadN X65.here hx rfl (hb hby at_38) rfl rfl ?_
      show Steps p.tables e below (T65.setTop (mkF m 39 #[.val (.int p1), .val (.ref b2), .val (.ref aG), .val (.ref aG)] [(.ref aG), (.ref aG)])) t
      refine Jvm.RoadKit.acmp (g := (mkF m 39 #[.val (.int p1), .val (.ref b2), .val (.ref aG), .val (.ref aG)] [(.ref aG), (.ref aG)])) X65 hx rfl rfl rfl (pc0 := 39) (pc' := 42) (same := true) rfl (hb hby at_39) rfl (decide_eq_true (congrArg Value.ref rfl)) (by decide) (by decide) ?_
      show Steps p.tables e below (T65.setTop (mkF m 42 #[.val (.int p1), .val (.ref b2), .val (.ref aG), .val (.ref aG)] [])) t
      refine XS.aloadN X65.here hx rfl (hb hby at_42) rfl rfl ?_
      exact k)
    obtain ⟨T71, X71, e71, st71⟩ := getS2 X65 hx hZ hown (host := "") (Or.inl (hw _ (List.mem_of_getElem? (i := 18) rfl))) Via.refl e65 (SaU.ext f66.2) (g := (mkF m 43 #[.val (.int p1), .val (.ref b2), .val (.ref aG), .val (.ref aG)] [(.ref aG)])) rfl (hb hby at_43)
    have P72 : Rch p e below (s₁.setTop (entryFrame m #[(.int p1)] maxLocals)) (T71.setTop (mkF m 46 #[.val (.int p1), .val (.ref b2), .val (.ref aG), .val (.ref aG)] [(.ref aU), (.ref aG)])) := fun t k => P70 t (st71 t k)
    have P73 : Rch p e below (s₁.setTop (entryFrame m #[(.int p1)] maxLocals)) (T71.setTop (mkF m 54 #[.val (.int p1), .val (.ref b2), .val (.ref aG), .val (.ref aG)] [(.int (1 : Int32))])) := fun t k => P72 t (by
      show Steps p.tables e below (T71.setTop (mkF m 46 #[.val (.int p1), .val (.ref b2), .val (.ref aG), .val (.ref aG)] [(.ref aU), (.ref aG)])) t
      refine Jvm.RoadKit.acmp (g := (mkF m 46 #[.val (.int p1), .val (.ref b2), .val (.ref aG), .val (.ref aG)] [(.ref aU), (.ref aG)])) X71 hx rfl rfl rfl (pc0 := 46) (pc' := 49) (same := false) rfl (hb hby at_46) rfl (decide_eq_false fun q => naG (Value.ref.inj q)) (by decide) (by decide) ?_
      show Steps p.tables e below (T71.setTop (mkF m 49 #[.val (.int p1), .val (.ref b2), .val (.ref aG), .val (.ref aG)] [])) t
      refine XS.iconst X71.here hx rfl (hb hby at_49) ?_
      show Steps p.tables e below (T71.setTop (mkF m 50 #[.val (.int p1), .val (.ref b2), .val (.ref aG), .val (.ref aG)] [(.int (1 : Int32))])) t
      refine XS.goto X71.here hx rfl (pc0 := 50) (pc' := 54) rfl (hb hby at_50) (by decide) (by decide) ?_
      exact k)
    obtain ⟨fs, hr, hrun, hended, hW, hsame⟩ := X71.leave (v := some (.int (1 : Int32))) (fun h => by rw [Bd.returns] at h; cases h)
    refine ⟨_, _, P73 _ ?_, hrun, hended, _, _, rfl, ?_, ⟨_, rfl⟩, hW, hsame.mono (by decide) (by decide)⟩
    · exact retN X71 hx (t := .boolean) Bd.returns (by simp) (hb hby at_54) hr
    · show Q_rm0 Z p1 aL aE aG aU h0 n0 _ T71.heap _
      rw [e71]
      exact ⟨rfl, N65⟩
set_option maxRecDepth 65536 in
set_option maxHeartbeats 40000000 in
theorem comes_1 {Post : Tables → Env → Array Value → State → Outcome → State → Prop} (hpost : ∀ tb e args s v u, (limb_1_1.after args s (.returned v) u = true ∧ limb_1_2.after args s (.returned v) u = true ∧ True) → FrameEnd s (.returned v) u (Jvm.fieldLocs frame_1_writes args s ++ Jvm.arrayLocs frame_1_arrays args s ++ Jvm.staticLocs frame_1_statics s) 16 128 → Post tb e args s (.returned v) u) :
    ArmFor flags0 classFile x code maxLocals ret World_1 tables_1 room_1 Calls_1 rest_1 Pre_1 Post := by
  intro l hfl _ _ p e ha hc hk s m args below hf hA hF happ hP
  obtain ⟨hcalls, hrest, hpre⟩ := hP
  obtain ⟨-, -, -, hnamed, -, -, -, hat⟩ := (Spec.applies_iff hf).mp happ
  obtain ⟨hg, hn⟩ := and_e (Cond.before_iff.mp (show (Jvm.Cond.and given_1 narrow_1).before args s = true from hpre))
  obtain ⟨gc, gr0⟩ := and_e hg
  obtain ⟨w0, rfl⟩ : ∃ w0 : Value, args = #[w0] := by
    have hs : args.size = 1 := by simpa [Cond.value, given_1] using gc
    obtain ⟨L⟩ := args
    match L, hs with
    | [w0], _ => exact ⟨w0, rfl⟩
  have hw := fun d (hd : d ∈ tables_1) => atoms_spec (ws := Jvm.Cond.code x code maxLocals ret :: tables_1) hat d (List.mem_cons_of_mem _ hd)
  have hfit : Fit s := fun {y c} hc i hi => by
    obtain ⟨ha, rfl⟩ := Array.getElem?_eq_some_iff.mp hc
    have q := List.all_eq_true.mp ((Array.all_eq_true_iff_forall_mem.mp hF) _ (Array.getElem_mem ha)) i (List.mem_range.mpr hi)
    simpa [Array.getElem?_eq_getElem hi] using q
  obtain ⟨i0, ei0⟩ := is_v gr0
  obtain rfl : w0 = (.int i0) := Option.some.inj ei0
  obtain ⟨m0, mr0⟩ := and_e hn
  obtain ⟨m1, mr1⟩ := and_e mr0
  obtain ⟨m2, mr2⟩ := and_e mr1
  obtain ⟨m3, mr3⟩ := and_e mr2
  obtain ⟨m4, mr4⟩ := and_e mr3
  obtain ⟨m5, mr5⟩ := and_e mr4
  obtain ⟨m6, mr6⟩ := and_e mr5
  obtain ⟨aL, vaL⟩ := exa_v m0
  have SaL : Sta s s.heap "com/example/rapid_pdp/rapidpdp/engine/TypeFunctions$Order" "LESS" "Lcom/example/rapid_pdp/rapidpdp/engine/TypeFunctions$Order;" (.ref aL) := Sta.start vaL (Or.inr ⟨(hw _ (List.mem_of_getElem? (i := 3) rfl)), (hw _ (List.mem_of_getElem? (i := 4) rfl))⟩)
  have EaL := Exa.start vaL m0
  have FaL := own_ord vaL mr6
  obtain ⟨aE, vaE⟩ := exa_v m1
  have SaE : Sta s s.heap "com/example/rapid_pdp/rapidpdp/engine/TypeFunctions$Order" "EQUAL" "Lcom/example/rapid_pdp/rapidpdp/engine/TypeFunctions$Order;" (.ref aE) := Sta.start vaE (Or.inr ⟨(hw _ (List.mem_of_getElem? (i := 3) rfl)), (hw _ (List.mem_of_getElem? (i := 7) rfl))⟩)
  have EaE := Exa.start vaE m1
  have FaE := own_ord vaE m4
  obtain ⟨aG, vaG⟩ := exa_v m2
  have SaG : Sta s s.heap "com/example/rapid_pdp/rapidpdp/engine/TypeFunctions$Order" "GREATER" "Lcom/example/rapid_pdp/rapidpdp/engine/TypeFunctions$Order;" (.ref aG) := Sta.start vaG (Or.inr ⟨(hw _ (List.mem_of_getElem? (i := 3) rfl)), (hw _ (List.mem_of_getElem? (i := 9) rfl))⟩)
  have EaG := Exa.start vaG m2
  have FaG := own_ord vaG m6
  obtain ⟨aU, vaU⟩ := exa_v m3
  have SaU : Sta s s.heap "com/example/rapid_pdp/rapidpdp/engine/TypeFunctions$Order" "UNORDERED" "Lcom/example/rapid_pdp/rapidpdp/engine/TypeFunctions$Order;" (.ref aU) := Sta.start vaU (Or.inr ⟨(hw _ (List.mem_of_getElem? (i := 3) rfl)), (hw _ (List.mem_of_getElem? (i := 19) rfl))⟩)
  have EaU := Exa.start vaU m3
  have FaU := own_ord vaU m5
  have naL : aL ≠ aU := Fld.ne FaL FaU (by intro q; injection q with q; exact absurd q (by decide))
  have naE : aE ≠ aU := Fld.ne FaE FaU (by intro q; injection q with q; exact absurd q (by decide))
  have naG : aG ≠ aU := Fld.ne FaG FaU (by intro q; injection q with q; exact absurd q (by decide))
  obtain ⟨n, o, h1, h2, h3, _, L, rfl, ⟨rfl, N⟩, hq⟩ := rm0 l s _ hw tables_1 i0 aL aE aG aU s.heap s.heap.size (Nat.le_refl _) (Old.start s) SaL SaE SaG SaU EaL EaE EaG naL naE naG p e ha hc hk s m _ below hf ((Spec.applies_iff_loose hf).mp happ).1 ⟨rfl, State.Warmed39.refl s, rfl⟩ trivial
  refine ⟨n, _, h1, h2, h3, hpost _ _ _ _ _ _ ⟨Cond.after_iff.mpr rfl, Cond.after_iff.mpr (eq_i res_at (Term.int_eval (1)) rfl), trivial⟩ ⟨hq.1, hq.2.1, (hq.2.2.sift fun y hy => Or.inr (N y hy)).mono (by decide) (by decide)⟩⟩
theorem main_1_1 : Claimed_1_1 := comes_1 fun _ _ _ _ _ _ h hF => ⟨h.1, hF⟩
theorem main_1_2 : Claimed_1_2 := comes_1 fun _ _ _ _ _ _ h hF => ⟨h.2.1, hF⟩
end Jvm.Pilot.@@N@@
namespace Jvm.Pilot.@@N@@
open Jvm Jvm.ClassFile Sem Op Lib Jvm.Free Jvm.Stand Jvm.Pilot.@@N@@.Jvm.D
/-! MADE BY PROGRAM (witnessworld.py) out of the Statement's table words and the real class files: 13 classes; the members and pool entries that the words name. The judged class is class 1, her method 2. -/
namespace start1
open Jvm.ClassFile
def u (s : String) : CpInfo := .utf8 (stringToUtf16 s)
/-- a pool by its gaps: so many unusable entries, then the entry; so many at the end -/
def gap : Nat → List CpInfo → List CpInfo
  | 0, r => r
  | n + 1, r => .unusable :: gap n r
def poolList (es : List (Nat × CpInfo)) (last : Nat) : List CpInfo := es.foldr (fun e r => gap e.1 (e.2 :: r)) (gap last [])
def pool (es : List (Nat × CpInfo)) (last : Nat) : Array CpInfo := ⟨poolList es last⟩
def fileOf (pool : Array CpInfo) (this : Nat) (attrs : Array Attribute := #[]) (ms : Array MethodInfo := #[]) (fl : Nat := 33) (sup : Nat := 0) (ifs : Array Nat := #[]) (fds : Array FieldInfo := #[]) : ClassFile where
  minorVersion := 0
  majorVersion := 65
  constantPool := pool
  accessFlags := fl
  thisClass := this
  superClass := sup
  interfaces := ifs
  fields := fds
  methods := ms
  attributes := attrs
def plain (name : String) (sup : Option ClassId) : Class where
  name := name
  kind := .ordinary
  loader := none
  accessFlags := 33
  super := sup
  interfaces := #[]
  cf := none
  fields := #[]
  methods := #[]
  instanceTypes := #[]
  staticTypes := #[]
  resolved := #[]
  callSites := []
  init := .initialized
  statics := none
  mirror := none

def pool0 : Array CpInfo := pool [(5, u "<init>"), (0, u "()V"), (1, .class_ 10), (1, u "java/lang/Object")] 113

def k0m0 : Method := { name := "<init>", desc := "()V", sig := { parameters := [], returnType := none }, accessFlags := 1, code := none }
/-- java/lang/Object -/
def k0 : Class := { plain "java/lang/Object" none with
  accessFlags := 33
  interfaces := #[]
  cf := some (fileOf pool0 8 #[] #[{ accessFlags := 1, nameIndex := 5, descriptorIndex := 6, attributes := #[] }] 33 0 #[] #[])
  fields := #[]
  methods := #[k0m0]
  instanceTypes := #[]
  staticTypes := #[]
  resolved := Array.replicate 124 none
  statics := none }

def pool1 : Array CpInfo := pool [(2, .class_ 4), (1, u "java/lang/Object"), (0, u "<init>"), (0, u "()V"), (0, .class_ 8), (0, u "com/example/rapid_pdp/rapidpdp/engine/TypeFunctions$Order"), (0, .fieldref 7 10), (0, .nameAndType 11 12), (0, u "LESS"), (0, u "Lcom/example/rapid_pdp/rapidpdp/engine/TypeFunctions$Order;"), (0, .fieldref 7 14), (0, .nameAndType 15 12), (0, u "EQUAL"), (0, .fieldref 7 17), (0, .nameAndType 18 12), (0, u "GREATER"), (0, .methodref 20 21), (0, .class_ 22), (0, .nameAndType 23 24), (0, u "com/example/rapid_pdp/rapidpdp/engine/OrderOfPinLaw"), (0, u "sign"), (0, u "(I)I"), (0, .methodref 7 26), (0, .nameAndType 27 28), (0, u "of"), (0, u "(I)Lcom/example/rapid_pdp/rapidpdp/engine/TypeFunctions$Order;"), (0, .fieldref 7 30), (0, .nameAndType 31 12), (0, u "UNORDERED"), (2, u "law"), (0, u "(I)Z")] 9

def k1m0 : Method := { name := "<init>", desc := "()V", sig := { parameters := [], returnType := none }, accessFlags := 2, code := none }
def k1c1 : Code := { maxStack := 3, maxLocals := 1, code := method_2_code, exceptionTable := #[], attributes := #[] }
def k1m1 : Method := { name := "sign", desc := "(I)I", sig := { parameters := [.int], returnType := some .int }, accessFlags := 10, code := some k1c1 }
def k1c2 : Code := { maxStack := 3, maxLocals := 4, code := code, exceptionTable := #[], attributes := #[] }
def k1m2 : Method := { name := "law", desc := "(I)Z", sig := { parameters := [.int], returnType := some .boolean }, accessFlags := 9, code := some k1c2 }
/-- com/example/rapid_pdp/rapidpdp/engine/OrderOfPinLaw -/
def k1 : Class := { plain "com/example/rapid_pdp/rapidpdp/engine/OrderOfPinLaw" (some 0) with
  accessFlags := 49
  interfaces := #[]
  cf := some (fileOf pool1 20 #[] #[{ accessFlags := 2, nameIndex := 5, descriptorIndex := 6, attributes := #[] }, { accessFlags := 10, nameIndex := 23, descriptorIndex := 24, attributes := #[] }, { accessFlags := 9, nameIndex := 34, descriptorIndex := 35, attributes := #[] }] 49 2 #[] #[])
  fields := #[]
  methods := #[k1m0, k1m1, k1m2]
  instanceTypes := #[]
  staticTypes := #[]
  resolved := Array.replicate 45 none
  statics := none }

def pool2 : Array CpInfo := pool [(1, .class_ 2), (0, u "java/lang/constant/Constable"), (0, .class_ 4), (0, u "java/lang/Object")] 6

/-- java/lang/constant/Constable -/
def k2 : Class := { plain "java/lang/constant/Constable" (some 0) with
  accessFlags := 1537
  interfaces := #[]
  cf := some (fileOf pool2 1 #[] #[] 1537 3 #[] #[])
  fields := #[]
  methods := #[]
  instanceTypes := #[]
  staticTypes := #[]
  resolved := Array.replicate 11 none
  statics := none }

def pool3 : Array CpInfo := pool [(1, .class_ 2), (0, u "java/lang/Comparable"), (0, .class_ 4), (0, u "java/lang/Object")] 7

/-- java/lang/Comparable -/
def k3 : Class := { plain "java/lang/Comparable" (some 0) with
  accessFlags := 1537
  interfaces := #[]
  cf := some (fileOf pool3 1 #[] #[] 1537 3 #[] #[])
  fields := #[]
  methods := #[]
  instanceTypes := #[]
  staticTypes := #[]
  resolved := Array.replicate 12 none
  statics := none }

def pool4 : Array CpInfo := pool [(1, .class_ 2), (0, u "java/io/Serializable"), (0, .class_ 4), (0, u "java/lang/Object")] 2

/-- java/io/Serializable -/
def k4 : Class := { plain "java/io/Serializable" (some 0) with
  accessFlags := 1537
  interfaces := #[]
  cf := some (fileOf pool4 1 #[] #[] 1537 3 #[] #[])
  fields := #[]
  methods := #[]
  instanceTypes := #[]
  staticTypes := #[]
  resolved := Array.replicate 7 none
  statics := none }

def pool5 : Array CpInfo := pool [(2, .class_ 4), (1, u "java/lang/Enum"), (0, u "name"), (0, u "Ljava/lang/String;"), (2, u "ordinal"), (0, u "I"), (1, .class_ 14), (1, u "java/lang/Object"), (4, u "hash"), (86, .class_ 108), (1, u "java/lang/Enum$EnumDesc"), (2, .class_ 112), (0, u "java/lang/constant/Constable"), (0, .class_ 114), (0, u "java/lang/Comparable"), (0, .class_ 116), (0, u "java/io/Serializable")] 87

/-- java/lang/Enum -/
def k5 : Class := { plain "java/lang/Enum" (some 0) with
  accessFlags := 1057
  interfaces := #[2, 3, 4]
  cf := some (fileOf pool5 2 #[.nestMembers #[106]] #[] 1057 12 #[111, 113, 115] #[{ accessFlags := 18, nameIndex := 5, descriptorIndex := 6, attributes := #[] }, { accessFlags := 18, nameIndex := 9, descriptorIndex := 10, attributes := #[] }, { accessFlags := 2, nameIndex := 19, descriptorIndex := 10, attributes := #[] }])
  fields := #[{ name := "name", type := (.object "java/lang/String"), accessFlags := 18, slot := 0, constantValue := 0 }, { name := "ordinal", type := .int, accessFlags := 18, slot := 1, constantValue := 0 }, { name := "hash", type := .int, accessFlags := 2, slot := 2, constantValue := 0 }]
  methods := #[]
  instanceTypes := #[(.object "java/lang/String"), .int, .int]
  staticTypes := #[]
  resolved := Array.replicate 204 none
  statics := none }

def pool6 : Array CpInfo := pool [(1, .class_ 2), (0, u "com/example/rapid_pdp/rapidpdp/engine/TypeFunctions$Order"), (0, .fieldref 1 4), (0, .nameAndType 5 6), (0, u "LESS"), (0, u "Lcom/example/rapid_pdp/rapidpdp/engine/TypeFunctions$Order;"), (0, .fieldref 1 8), (0, .nameAndType 9 6), (0, u "EQUAL"), (0, .fieldref 1 11), (0, .nameAndType 12 6), (0, u "GREATER"), (2, u "UNORDERED"), (2, u "$VALUES"), (0, u "[Lcom/example/rapid_pdp/rapidpdp/engine/TypeFunctions$Order;"), (6, .class_ 28), (1, u "java/lang/Enum"), (22, u "of"), (0, u "(I)Lcom/example/rapid_pdp/rapidpdp/engine/TypeFunctions$Order;"), (6, .class_ 60), (0, u "com/example/rapid_pdp/rapidpdp/engine/TypeFunctions")] 2

def k6c0 : Code := { maxStack := 1, maxLocals := 2, code := prog_123_method_4_code, exceptionTable := #[], attributes := #[] }
def k6m0 : Method := { name := "of", desc := "(I)Lcom/example/rapid_pdp/rapidpdp/engine/TypeFunctions$Order;", sig := { parameters := [.int], returnType := some (.object "com/example/rapid_pdp/rapidpdp/engine/TypeFunctions$Order") }, accessFlags := 8, code := some k6c0 }
/-- com/example/rapid_pdp/rapidpdp/engine/TypeFunctions$Order -/
def k6 : Class := { plain "com/example/rapid_pdp/rapidpdp/engine/TypeFunctions$Order" (some 5) with
  accessFlags := 16432
  interfaces := #[]
  cf := some (fileOf pool6 1 #[.nestHost 59] #[{ accessFlags := 8, nameIndex := 51, descriptorIndex := 52, attributes := #[] }] 16432 26 #[] #[{ accessFlags := 16409, nameIndex := 5, descriptorIndex := 6, attributes := #[] }, { accessFlags := 16409, nameIndex := 9, descriptorIndex := 6, attributes := #[] }, { accessFlags := 16409, nameIndex := 12, descriptorIndex := 6, attributes := #[] }, { accessFlags := 16409, nameIndex := 15, descriptorIndex := 6, attributes := #[] }, { accessFlags := 4122, nameIndex := 18, descriptorIndex := 19, attributes := #[] }])
  fields := #[{ name := "LESS", type := (.object "com/example/rapid_pdp/rapidpdp/engine/TypeFunctions$Order"), accessFlags := 16409, slot := 0, constantValue := 0 }, { name := "EQUAL", type := (.object "com/example/rapid_pdp/rapidpdp/engine/TypeFunctions$Order"), accessFlags := 16409, slot := 1, constantValue := 0 }, { name := "GREATER", type := (.object "com/example/rapid_pdp/rapidpdp/engine/TypeFunctions$Order"), accessFlags := 16409, slot := 2, constantValue := 0 }, { name := "UNORDERED", type := (.object "com/example/rapid_pdp/rapidpdp/engine/TypeFunctions$Order"), accessFlags := 16409, slot := 3, constantValue := 0 }, { name := "$VALUES", type := (.array (.object "com/example/rapid_pdp/rapidpdp/engine/TypeFunctions$Order")), accessFlags := 4122, slot := 4, constantValue := 0 }]
  methods := #[k6m0]
  instanceTypes := #[(.object "java/lang/String"), .int, .int]
  staticTypes := #[(.object "com/example/rapid_pdp/rapidpdp/engine/TypeFunctions$Order"), (.object "com/example/rapid_pdp/rapidpdp/engine/TypeFunctions$Order"), (.object "com/example/rapid_pdp/rapidpdp/engine/TypeFunctions$Order"), (.object "com/example/rapid_pdp/rapidpdp/engine/TypeFunctions$Order"), (.array (.object "com/example/rapid_pdp/rapidpdp/engine/TypeFunctions$Order"))]
  resolved := Array.replicate 63 none
  statics := some 0 }

def pool7 : Array CpInfo := pool [(1, u "java/lang/Cloneable"), (0, .class_ 1), (0, u "java/lang/Object"), (0, .class_ 3)] 3

/-- java/lang/Cloneable -/
def k7 : Class := { plain "java/lang/Cloneable" (some 0) with
  accessFlags := 1537
  interfaces := #[]
  cf := some (fileOf pool7 2 #[] #[] 1537 4 #[] #[])
  fields := #[]
  methods := #[]
  instanceTypes := #[]
  staticTypes := #[]
  resolved := Array.replicate 8 none
  statics := none }

/-- the primitive byte -/
def k8 : Class := { plain "byte" none with kind := .primitive 'B', accessFlags := 0x411 }
/-- [B -/
def k9 : Class := { plain "[B" (some 0) with kind := .array 8 .byte, interfaces := #[7, 4], accessFlags := 1041 }

/-- the primitive int -/
def k10 : Class := { plain "int" none with kind := .primitive 'I', accessFlags := 0x411 }
/-- [I -/
def k11 : Class := { plain "[I" (some 0) with kind := .array 10 .int, interfaces := #[7, 4], accessFlags := 1041 }

/-- [Lcom/example/rapid_pdp/rapidpdp/engine/TypeFunctions$Order; -/
def k12 : Class := { plain "[Lcom/example/rapid_pdp/rapidpdp/engine/TypeFunctions$Order;" (some 0) with kind := .array 6 (.object "com/example/rapid_pdp/rapidpdp/engine/TypeFunctions$Order"), interfaces := #[7, 4], accessFlags := 1041 }

def heap : Heap := #[{ cls := 6, slots := #[.ref 1, .ref 2, .ref 3, .ref 4, .null], vm := .statics 6 },
  { cls := 6, slots := #[.null, .int 0, .int 0], vm := .none },
  { cls := 6, slots := #[.null, .int 1, .int 0], vm := .none },
  { cls := 6, slots := #[.null, .int 2, .int 0], vm := .none },
  { cls := 6, slots := #[.null, .int 3, .int 0], vm := .none }]
def classes : Array Class := #[k0, k1, k2, k3, k4, k5, k6, k7, k8, k9, k10, k11, k12]
def interned : List (Array UInt16 × Addr) := []
def slotsUsed : Nat := 17
def theMethod : MethodId := ⟨1, 2⟩
def args0 : Array Value := #[.int 5]
def aboutOver (below : List Frame) : State where
  vm := { classes := classes, interned := interned.toArray }
  heap := heap
  slotsUsed := slotsUsed
  threads := #[{ frames := .invoking theMethod args0 :: below }]
def below0 : List Frame := [.native { method := ⟨0, 0⟩, args := #[] }]
def about1 : State := aboutOver below0
def p0 : Program := .bare "" "" ""
def e0 : Env := launch0.env 0 0 0
theorem w_frames : about1.frames = Frame.invoking theMethod args0 :: below0 := rfl
set_option maxRecDepth 65536 in
theorem w_args : argsFit about1.vm theMethod args0 = true := by decide +kernel
set_option maxRecDepth 65536 in
theorem w_heap : heapFits about1 = true := by decide +kernel
set_option maxRecDepth 65536 in
theorem w_runnable : about1.curStatus? = some .runnable := by decide +kernel
set_option maxRecDepth 65536 in
theorem w_alone : about1.alone = true := by decide +kernel
set_option maxRecDepth 65536 in
theorem w_named : about1.methodNamed? x = some theMethod := by decide +kernel
set_option maxRecDepth 65536 in
theorem w_hears : about1.hears theMethod below0 = true := by decide +kernel
set_option maxRecDepth 65536 in
theorem w_ripe : about1.ripe theMethod args0 below0 = true := by decide +kernel
theorem w_running : about1.status = .running := rfl
set_option maxRecDepth 65536 in
theorem w_room : about1.hasRoom e0.platform room_1 = true :=
  launch0.hasRoom_least _ room_1 (by decide +kernel) (by decide +kernel) (by decide +kernel) (by decide +kernel) (by decide +kernel) (by decide +kernel)
theorem allAtoms_all (ts : List Jvm.Cond) (a : Array Jvm.Value) (st : Jvm.State) : (allAtoms ts).before a st = ts.all (fun c => c.before a st) := by
  induction ts with
  | nil => rfl
  | cons c t ih =>
    show (Jvm.Cond.and c (allAtoms t)).before a st = _
    rw [Jvm.Cond.before_and, ih, List.all_cons]
def words1 : List Jvm.Cond := Jvm.Cond.code x code maxLocals ret :: tables_1
/-- a 'code' word, met by the world's own term for the bytes: nothing is compared byte by byte -/
theorem code_word {y : MethodName} {bytes : ByteArray} {mx : Nat} {rt : Option FieldType} {a : Array Value} {s : State} {m : MethodId} {meth : Method} {c : Code} (h1 : s.methodNamed? y = some m) (h2 : s.vm.method? m = some meth) (h3 : meth.code = some c) (h4 : c.code = bytes)
    (h5 : (c.maxLocals == mx && c.exceptionTable.isEmpty && decide (c.maxStack ≤ mostOperands) && decide (meth.sig.returnType = rt) && !meth.locks && decide (parseMethodDescriptor y.desc = some meth.sig)) = true) : (Jvm.Cond.code y bytes mx rt).before a s = true := by
  simp only [Bool.and_eq_true, beq_iff_eq, Bool.not_eq_true', decide_eq_true_eq] at h5
  obtain ⟨⟨⟨⟨⟨g1, g2⟩, g3⟩, g4⟩, g5⟩, g6⟩ := h5
  simp [Cond.before, Cond.holds, Cond.value, h1, h2, h3, h4, g1, g2, g3, g4, g5, g6]
def isCode : Jvm.Cond → Bool
  | .code _ _ _ _ => true
  | _ => false
theorem all_split {L : List Jvm.Cond} {P : Jvm.Cond → Bool} (h1 : L.all (fun c => isCode c || P c) = true) (h2 : ∀ c ∈ L.filter isCode, P c = true) : L.all P = true := by
  refine List.all_eq_true.mpr fun c hc => ?_
  have h := List.all_eq_true.mp h1 c hc
  rcases Bool.eq_false_or_eq_true (isCode c) with hi | hi
  · exact h2 c (List.mem_filter.mpr ⟨hc, hi⟩)
  · simpa [hi] using h
set_option maxRecDepth 65536 in
theorem w_c0 : (Jvm.Cond.code x code maxLocals ret).before args0 about1 = true := code_word (m := ⟨1, 2⟩) (meth := k1m2) (c := k1c2) (by decide +kernel) rfl rfl rfl (by decide +kernel)
set_option maxRecDepth 65536 in
theorem w_c1 : (Jvm.Cond.code ({ cls := "com/example/rapid_pdp/rapidpdp/engine/OrderOfPinLaw", name := "sign", desc := "(I)I" } : Jvm.MethodName) method_2_code (1 : Nat) (Option.some Jvm.ClassFile.FieldType.int)).before args0 about1 = true := code_word (m := ⟨1, 1⟩) (meth := k1m1) (c := k1c1) (by decide +kernel) rfl rfl rfl (by decide +kernel)
set_option maxRecDepth 65536 in
theorem w_c2 : (Jvm.Cond.code ({ cls := "com/example/rapid_pdp/rapidpdp/engine/TypeFunctions$Order", name := "of", desc := "(I)Lcom/example/rapid_pdp/rapidpdp/engine/TypeFunctions$Order;" } : Jvm.MethodName) prog_123_method_4_code (2 : Nat) (Option.some (Jvm.ClassFile.FieldType.object "com/example/rapid_pdp/rapidpdp/engine/TypeFunctions$Order"))).before args0 about1 = true := code_word (m := ⟨6, 0⟩) (meth := k6m0) (c := k6c0) (by decide +kernel) rfl rfl rfl (by decide +kernel)
def codes1 : List Jvm.Cond := [Jvm.Cond.code x code maxLocals ret, Jvm.Cond.code ({ cls := "com/example/rapid_pdp/rapidpdp/engine/OrderOfPinLaw", name := "sign", desc := "(I)I" } : Jvm.MethodName) method_2_code (1 : Nat) (Option.some Jvm.ClassFile.FieldType.int), Jvm.Cond.code ({ cls := "com/example/rapid_pdp/rapidpdp/engine/TypeFunctions$Order", name := "of", desc := "(I)Lcom/example/rapid_pdp/rapidpdp/engine/TypeFunctions$Order;" } : Jvm.MethodName) prog_123_method_4_code (2 : Nat) (Option.some (Jvm.ClassFile.FieldType.object "com/example/rapid_pdp/rapidpdp/engine/TypeFunctions$Order"))]
set_option maxRecDepth 65536 in
theorem codes_eq : words1.filter isCode = codes1 := rfl
theorem w_codes : ∀ c ∈ words1.filter isCode, c.before args0 about1 = true := by
  rw [codes_eq]
  intro c hc
  simp only [codes1, List.mem_cons, List.not_mem_nil, or_false] at hc
  rcases hc with rfl | rfl | rfl
  · exact w_c0
  · exact w_c1
  · exact w_c2
set_option maxRecDepth 65536 in
theorem w_t1 : words1.all (fun c => isCode c || c.before args0 about1) = true := by decide +kernel
theorem w_tables : (allAtoms (Jvm.Cond.code x code maxLocals ret :: tables_1)).before args0 about1 = true := by
  rw [allAtoms_all]
  show words1.all (fun c => c.before args0 about1) = true
  refine all_split ?_ w_codes
  rw [w_t1]
set_option maxRecDepth 65536 in
theorem w_case : (Jvm.Cond.and given_1 narrow_1).before args0 about1 = true := by decide +kernel
theorem w_applies : (headSpec (Jvm.Cond.code x code maxLocals ret :: tables_1) room_1).applies x e0.platform about1 = true :=
  (Spec.applies_iff w_frames).mpr ⟨w_running, w_runnable, w_alone, w_named, w_hears, w_ripe, w_room, w_tables⟩
theorem atStart : AtStart classFile x code maxLocals ret World_1 tables_1 room_1 Calls_1 rest_1 Pre_1 launch0 p0 e0 about1 theMethod args0 below0 :=
  ⟨lists_1, trivial, launch0.admits_env _ _ _, launch0.least_env, fairChoices_fair.cas, fairChoices_fair.clock, w_frames, w_args, w_heap, w_applies, trivial, trivial, w_case⟩
end start1
theorem witness_1 : WitnessClaimed_1 := ⟨start1.p0, start1.e0, start1.about1, start1.theMethod, start1.args0, start1.below0, start1.atStart⟩
end Jvm.Pilot.@@N@@
