import JvmDerived
import JvmDerived.Pilot.@@N@@Statement
import JvmDerived.Pilot.@@N@@Code
set_option linter.unusedVariables false
set_option linter.unusedSimpArgs false
namespace Jvm.RoadKit
open Sem ClassFile Op Lib Jvm.Stand Jvm.Free Jvm.LawKit
section New
variable {p : Program} {l : Launch} {e : Env} {R : Room} {s : State} {m : MethodId} {args : Array Value} {below : List Frame} {meth : Method} {c : Code} {T : State} {locs : List Loc} {cells slots : Nat}
theorem retI (X : Stand p l e R s m args below meth c T locs cells slots) (hx : p.tables.exec = Jvm.exec) {pc : Nat} {Ls : Array Slot} {z : Int32} {rest : List Value} (hret : meth.sig.returnType = some .int) (hd : decode c.code pc = .ok (.ireturn, 1)) {fs : List Frame}
    (hl : ∀ (f : JFrame) (acts : List Action), f.method = m → f.locked = none → f.entered = [] → (doReturn e (T.setTop f) acts (some (.int z))).1 = T.setFrames fs) : Steps p.tables e below (T.setTop (mkF m pc Ls (.int z :: rest))) (T.setFrames fs) := by
  have hm' : T.vm.method? m = some meth := X.method'
  have hn : narrow .int (.int z) = .int z := rfl
  show Steps p.tables e below (T.setTop { method := m, pc := pc, locals := Ls, stack := _ :: rest, locked := none }) _
  jvm_step X.here [X.here.top, hx, hd, hm', hret, hn]
  first | (intro acts; rw [hl _ acts rfl rfl rfl]) | rw [hl _ _ rfl rfl rfl]
  exact Steps.refl _
end New
end Jvm.RoadKit
namespace Jvm.Pilot.@@N@@
open Jvm Jvm.ClassFile Sem Op Lib Jvm.Free Jvm.Stand Jvm.LawKit Jvm.RoadKit Bundle Jvm.Pilot.@@N@@.Jvm.D
theorem own_more {p : Program} {l : Launch} {e : Env} {R : Room} {s : State} {m : MethodId} {args : Array Value} {below : List Frame} {meth : Method} {c : Code} {T : State} {locs : List Loc} {k n k' n' : Nat} (X : Stand p l e R s m args below meth c T locs k n) (hk : k ≤ k') (hn : n ≤ n') : Stand p l e R s m args below meth c T locs k' n' := { X with same := X.same.mono hk hn }
theorem own_nar {t : FieldType} {v : Value} (h : v.isRef = true) (ht : t.isReference = true := by rfl) : narrow t v = v := by
  rcases ref_cases h with rfl | ⟨a, rfl⟩ <;> cases t <;> first | rfl | (cases ht; done)
theorem own_fit {t : FieldType} {v : Value} (h : v.isRef = true) (ht : t.isReference = true := by rfl) : fits t v = true := by
  rcases ref_cases h with rfl | ⟨a, rfl⟩ <;> cases t <;> first | rfl | (cases ht; done)
theorem own_cat {v : Value} (h : v.isRef = true) : v.category = 1 := by rcases ref_cases h with rfl | ⟨a, rfl⟩ <;> rfl
abbrev Rch (p : Program) (e : Env) (below : List Frame) (A B : State) : Prop := ∀ t, Steps p.tables e below B t → Steps p.tables e below A t
theorem d3_0 : decode jdk_30_method_1_code 0 = .ok (.aload_n 0, 1) := by decide +kernel
theorem d3_1 : decode jdk_30_method_1_code 1 = .ok (.invokespecial 1, 3) := by decide +kernel
theorem d3_4 : decode jdk_30_method_1_code 4 = .ok (.return_, 1) := by decide +kernel
theorem pn_0 : plainName "java/lang/Record" = true := by first | (simp [plainName, overriddenIn]; done) | decide +kernel
theorem d2_0 : decode prog_3_method_1_code 0 = .ok (.aload_n 0, 1) := by decide +kernel
theorem d2_1 : decode prog_3_method_1_code 1 = .ok (.invokespecial 1, 3) := by decide +kernel
theorem d2_4 : decode prog_3_method_1_code 4 = .ok (.aload_n 0, 1) := by decide +kernel
theorem d2_5 : decode prog_3_method_1_code 5 = .ok (.lload_n 1, 1) := by decide +kernel
theorem d2_6 : decode prog_3_method_1_code 6 = .ok (.putfield 7, 3) := by decide +kernel
theorem d2_9 : decode prog_3_method_1_code 9 = .ok (.aload_n 0, 1) := by decide +kernel
theorem d2_10 : decode prog_3_method_1_code 10 = .ok (.lload_n 3, 1) := by decide +kernel
theorem d2_11 : decode prog_3_method_1_code 11 = .ok (.putfield 13, 3) := by decide +kernel
theorem d2_14 : decode prog_3_method_1_code 14 = .ok (.aload_n 0, 1) := by decide +kernel
theorem d2_15 : decode prog_3_method_1_code 15 = .ok (.lload 5, 2) := by decide +kernel
theorem d2_17 : decode prog_3_method_1_code 17 = .ok (.putfield 16, 3) := by decide +kernel
theorem d2_20 : decode prog_3_method_1_code 20 = .ok (.aload_n 0, 1) := by decide +kernel
theorem d2_21 : decode prog_3_method_1_code 21 = .ok (.iload 7, 2) := by decide +kernel
theorem d2_23 : decode prog_3_method_1_code 23 = .ok (.putfield 19, 3) := by decide +kernel
theorem d2_26 : decode prog_3_method_1_code 26 = .ok (.aload_n 0, 1) := by decide +kernel
theorem d2_27 : decode prog_3_method_1_code 27 = .ok (.lload 8, 2) := by decide +kernel
theorem d2_29 : decode prog_3_method_1_code 29 = .ok (.putfield 23, 3) := by decide +kernel
theorem d2_32 : decode prog_3_method_1_code 32 = .ok (.aload_n 0, 1) := by decide +kernel
theorem d2_33 : decode prog_3_method_1_code 33 = .ok (.lload 10, 2) := by decide +kernel
theorem d2_35 : decode prog_3_method_1_code 35 = .ok (.putfield 26, 3) := by decide +kernel
theorem d2_38 : decode prog_3_method_1_code 38 = .ok (.return_, 1) := by decide +kernel
theorem pn_1 : plainName "com/example/carrel/carrel/bench/LoadReport" = true := by first | (simp [plainName, overriddenIn]; done) | decide +kernel
theorem d1_0 : decode jdk_29_method_66_code 0 = .ok (.lload_n 0, 1) := by decide +kernel
theorem d1_1 : decode jdk_29_method_66_code 1 = .ok (.lload_n 2, 1) := by decide +kernel
theorem d1_2 : decode jdk_29_method_66_code 2 = .ok (.lcmp, 1) := by decide +kernel
theorem d1_3 : decode jdk_29_method_66_code 3 = .ok (.ifCond .lt 7, 3) := by decide +kernel
theorem d1_10 : decode jdk_29_method_66_code 10 = .ok (.lload_n 2, 1) := by decide +kernel
theorem d1_6 : decode jdk_29_method_66_code 6 = .ok (.lload_n 0, 1) := by decide +kernel
theorem d1_7 : decode jdk_29_method_66_code 7 = .ok (.goto 4, 3) := by decide +kernel
theorem d1_11 : decode jdk_29_method_66_code 11 = .ok (.lreturn, 1) := by decide +kernel
theorem d5_0 : decode prog_3_method_3_code 0 = .ok (.ldc2_w 31, 3) := by decide +kernel
theorem d5_3 : decode prog_3_method_3_code 3 = .ok (.aload_n 0, 1) := by decide +kernel
theorem d5_4 : decode prog_3_method_3_code 4 = .ok (.getfield 16, 3) := by decide +kernel
theorem d5_7 : decode prog_3_method_3_code 7 = .ok (.lmul, 1) := by decide +kernel
theorem d5_8 : decode prog_3_method_3_code 8 = .ok (.aload_n 0, 1) := by decide +kernel
theorem d5_9 : decode prog_3_method_3_code 9 = .ok (.getfield 19, 3) := by decide +kernel
theorem d5_12 : decode prog_3_method_3_code 12 = .ok (.i2l, 1) := by decide +kernel
theorem d5_13 : decode prog_3_method_3_code 13 = .ok (.aload_n 0, 1) := by decide +kernel
theorem d5_14 : decode prog_3_method_3_code 14 = .ok (.getfield 13, 3) := by decide +kernel
theorem d5_17 : decode prog_3_method_3_code 17 = .ok (.lmul, 1) := by decide +kernel
theorem d5_18 : decode prog_3_method_3_code 18 = .ok (.lcmp, 1) := by decide +kernel
theorem d5_19 : decode prog_3_method_3_code 19 = .ok (.ifCond .le 7, 3) := by decide +kernel
theorem d5_26 : decode prog_3_method_3_code 26 = .ok (.iconst 0, 1) := by decide +kernel
theorem d5_22 : decode prog_3_method_3_code 22 = .ok (.iconst 1, 1) := by decide +kernel
theorem d5_23 : decode prog_3_method_3_code 23 = .ok (.goto 4, 3) := by decide +kernel
theorem d5_27 : decode prog_3_method_3_code 27 = .ok (.ireturn, 1) := by decide +kernel
theorem pn_2 : plainName "com/example/carrel/carrel/bench/LoadReportLimitedPinLaw" = true := by first | (simp [plainName, overriddenIn]; done) | decide +kernel
theorem pd_0 : parseMethodDescriptor "()V" = some ⟨[], none⟩ := by decide +kernel
theorem pd_1 : parseMethodDescriptor "(JJJIJJ)V" = some ⟨[.long, .long, .long, .int, .long, .long], none⟩ := by decide +kernel
theorem pd_2 : parseMethodDescriptor "()Z" = some ⟨[], some .boolean⟩ := by decide +kernel
theorem pd_3 : parseMethodDescriptor "(JJ)J" = some ⟨[.long, .long], some .long⟩ := by decide +kernel
def Q_rmR (Z : State) (a1 : Addr) (h0 : Heap) (n0 : Nat) (v : Option Value) (h : Heap) (L : List Loc) : Prop := v = none ∧ Fr n0 L ∧ h = h0
set_option maxRecDepth 65536 in
set_option maxHeartbeats 40000000 in
theorem rmR (l : Launch) (Z : State) (a0 : Array Value) (hw : ∀ d ∈ tables_1, d.before a0 Z = true) (ws : List Jvm.Cond) (a1 : Addr) (h0 : Heap) (n0 : Nat) (Z0 : n0 ≤ h0.size) :
    MetFree l (⟨"java/lang/Record", "<init>", "()V"⟩ : MethodName) (head1 (Jvm.Cond.code (⟨"java/lang/Record", "<init>", "()V"⟩ : MethodName) jdk_30_method_1_code 1 none :: ws) ({ frames := 1, cells := 0, slots := 0, locals := 12 } : Room)) (fun a U => a = #[(.ref a1)] ∧ Z.Warmed39 U.vm ∧ U.heap = h0) (fun _ _ _ _ _ => True) (fun _ U o U' => ∃ v L, o = .returned v ∧ Q_rmR Z a1 h0 n0 v U'.heap L ∧ FrameEnd U o U' L ({ frames := 1, cells := 0, slots := 0, locals := 12 } : Room).cells ({ frames := 1, cells := 0, slots := 0, locals := 12 } : Room).slots) := by
  refine MetFree.of_bodySF (plainFor_of_name pn_0) hisR ?_
  intro p e s m args below meth c s₁ Bd hml0 hP hK
  obtain ⟨rfl, hZ, hh⟩ := hP
  have hx := Bd.exec
  have hby := Bd.bytes
  have hml : c.maxLocals = 1 := hml0
  have hown : s.vm.findClass "java/lang/Record" = some m.cls := findClass_of_methodNamed Bd.named
  have hnm := (name_of_methodNamed Bd.named Bd.method).1
  have X0 : Stand p l e ({ frames := 1, cells := 0, slots := 0, locals := 12 } : Room) s m #[(.ref a1)] below meth c s₁ [] 0 0 := Stand.of_body Bd
  have e0 : s₁.heap = h0 := by rw [← hh, Bd.state]; rfl
  have N0 := Fr.nil n0
  have P0 : Rch p e below (s₁.setTop (entryFrame m #[(.ref a1)] 1)) (s₁.setTop (mkF m 0 #[.val (.ref a1)] [])) := fun t k => castTop (by first | rfl | (simp [entryFrame, mkF, argsToLocals, Value.category]; done)) k
  have P1 : Rch p e below (s₁.setTop (entryFrame m #[(.ref a1)] 1)) (s₁.setTop (mkF m 1 #[.val (.ref a1)] [(.ref a1)])) := fun t k => P0 t (by
    show Steps p.tables e below (s₁.setTop (mkF m 0 #[.val (.ref a1)] [])) t
    refine XS.aloadN X0.here hx rfl (hb hby d3_0) rfl rfl ?_
    exact k)
  obtain ⟨T2, X2, e2, st2⟩ := initO X0 hx hZ hown (hw _ (List.mem_of_getElem? (i := 20) rfl)) (hw _ (List.mem_of_getElem? (i := 21) rfl)) (hw _ (List.mem_of_getElem? (i := 22) rfl)) e0 (g := (mkF m 1 #[.val (.ref a1)] [(.ref a1)])) rfl (by rw [hml]; rfl) rfl (hb hby d3_1) (by decide) (W := 0) (by show 2 * 0 + _ ≤ _; exact Nat.le_of_eq rfl) (by decide)
  have P3 : Rch p e below (s₁.setTop (entryFrame m #[(.ref a1)] 1)) (T2.setTop (mkF m 4 #[.val (.ref a1)] [])) := fun t k => P1 t (st2 t k)
  obtain ⟨fs, hr, hrun, hended, hW, hsame⟩ := X2.leave (v := none) (fun _ => rfl)
  refine ⟨_, _, P3 _ ?_, hrun, hended, _, _, rfl, ?_, ⟨_, rfl⟩, hW, hsame.mono (by decide) (by decide)⟩
  · exact X2.returnOut hx Bd.returns (hb hby d3_4) hr
  · show Q_rmR Z a1 h0 n0 _ T2.heap _
    rw [e2]
    exact ⟨rfl, N0, rfl⟩
def Q_rmI (Z : State) (a1 : Addr) (q2 : Int64) (q3 : Int64) (q4 : Int64) (p5 : Int32) (q6 : Int64) (q7 : Int64) (h0 : Heap) (n0 : Nat) (v : Option Value) (h : Heap) (L : List Loc) : Prop := v = none ∧ Fr n0 L ∧ Keep h0 h [a1] ∧ (Exa Z h a1 "com/example/carrel/carrel/bench/LoadReport") ∧ (Fld Z h a1 "com/example/carrel/carrel/bench/LoadReport" "rounds" "J" (.long q2)) ∧ (Fld Z h a1 "com/example/carrel/carrel/bench/LoadReport" "wallNanos" "J" (.long q3)) ∧ (Fld Z h a1 "com/example/carrel/carrel/bench/LoadReport" "cpuNanos" "J" (.long q4)) ∧ (Fld Z h a1 "com/example/carrel/carrel/bench/LoadReport" "cores" "I" (.int p5)) ∧ (Fld Z h a1 "com/example/carrel/carrel/bench/LoadReport" "unexpected" "J" (.long q6)) ∧ (Fld Z h a1 "com/example/carrel/carrel/bench/LoadReport" "withoutRecord" "J" (.long q7))
set_option maxRecDepth 65536 in
set_option maxHeartbeats 40000000 in
theorem rmI (l : Launch) (Z : State) (a0 : Array Value) (hw : ∀ d ∈ tables_1, d.before a0 Z = true) (ws : List Jvm.Cond) (a1 : Addr) (q2 : Int64) (q3 : Int64) (q4 : Int64) (p5 : Int32) (q6 : Int64) (q7 : Int64) (h0 : Heap) (n0 : Nat) (Z0 : n0 ≤ h0.size) (E1 : Exa Z h0 a1 "com/example/carrel/carrel/bench/LoadReport") (g1 : n0 ≤ a1) (F0 : Fld Z h0 a1 "com/example/carrel/carrel/bench/LoadReport" "rounds" "J" (.long (0 : Int64))) (F1 : Fld Z h0 a1 "com/example/carrel/carrel/bench/LoadReport" "wallNanos" "J" (.long (0 : Int64))) (F2 : Fld Z h0 a1 "com/example/carrel/carrel/bench/LoadReport" "cpuNanos" "J" (.long (0 : Int64))) (F3 : Fld Z h0 a1 "com/example/carrel/carrel/bench/LoadReport" "cores" "I" (.int (0 : Int32))) (F4 : Fld Z h0 a1 "com/example/carrel/carrel/bench/LoadReport" "unexpected" "J" (.long (0 : Int64))) (F5 : Fld Z h0 a1 "com/example/carrel/carrel/bench/LoadReport" "withoutRecord" "J" (.long (0 : Int64))) :
    MetFree l (⟨"com/example/carrel/carrel/bench/LoadReport", "<init>", "(JJJIJJ)V"⟩ : MethodName) (head1 (Jvm.Cond.code (⟨"com/example/carrel/carrel/bench/LoadReport", "<init>", "(JJJIJJ)V"⟩ : MethodName) prog_3_method_1_code 12 none :: ws) ({ frames := 2, cells := 0, slots := 0, locals := 24 } : Room)) (fun a U => a = #[(.ref a1), (.long q2), (.long q3), (.long q4), (.int p5), (.long q6), (.long q7)] ∧ Z.Warmed39 U.vm ∧ U.heap = h0) (fun _ _ _ _ _ => True) (fun _ U o U' => ∃ v L, o = .returned v ∧ Q_rmI Z a1 q2 q3 q4 p5 q6 q7 h0 n0 v U'.heap L ∧ FrameEnd U o U' L ({ frames := 2, cells := 0, slots := 0, locals := 24 } : Room).cells ({ frames := 2, cells := 0, slots := 0, locals := 24 } : Room).slots) := by
  refine MetFree.of_bodySF (plainFor_of_name pn_1) hisR ?_
  intro p e s m args below meth c s₁ Bd hml0 hP hK
  obtain ⟨rfl, hZ, hh⟩ := hP
  have hx := Bd.exec
  have hby := Bd.bytes
  have hml : c.maxLocals = 12 := hml0
  have hown : s.vm.findClass "com/example/carrel/carrel/bench/LoadReport" = some m.cls := findClass_of_methodNamed Bd.named
  have hnm := (name_of_methodNamed Bd.named Bd.method).1
  have X0 : Stand p l e ({ frames := 2, cells := 0, slots := 0, locals := 24 } : Room) s m #[(.ref a1), (.long q2), (.long q3), (.long q4), (.int p5), (.long q6), (.long q7)] below meth c s₁ [] 0 0 := Stand.of_body Bd
  have e0 : s₁.heap = h0 := by rw [← hh, Bd.state]; rfl
  have N0 := Fr.nil n0
  have P0 : Rch p e below (s₁.setTop (entryFrame m #[(.ref a1), (.long q2), (.long q3), (.long q4), (.int p5), (.long q6), (.long q7)] 12)) (s₁.setTop (mkF m 0 #[.val (.ref a1), .val (.long q2), .second, .val (.long q3), .second, .val (.long q4), .second, .val (.int p5), .val (.long q6), .second, .val (.long q7), .second] [])) := fun t k => castTop (by first | rfl | (simp [entryFrame, mkF, argsToLocals, Value.category]; done)) k
  have P1 : Rch p e below (s₁.setTop (entryFrame m #[(.ref a1), (.long q2), (.long q3), (.long q4), (.int p5), (.long q6), (.long q7)] 12)) (s₁.setTop (mkF m 1 #[.val (.ref a1), .val (.long q2), .second, .val (.long q3), .second, .val (.long q4), .second, .val (.int p5), .val (.long q6), .second, .val (.long q7), .second] [(.ref a1)])) := fun t k => P0 t (by
    show Steps p.tables e below (s₁.setTop (mkF m 0 #[.val (.ref a1), .val (.long q2), .second, .val (.long q3), .second, .val (.long q4), .second, .val (.int p5), .val (.long q6), .second, .val (.long q7), .second] [])) t
    refine XS.aloadN X0.here hx rfl (hb hby d2_0) rfl rfl ?_
    exact k)
  obtain ⟨_, _, ⟨T2, L2, k2, n2⟩, -, X2, ⟨Lc2, hQ2, l2, y2, z2⟩, st2⟩ := X0.specialBack hx (y := (⟨"java/lang/Record", "<init>", "()V"⟩ : MethodName)) rfl hown (mvT hZ (hw _ (List.mem_of_getElem? (i := 15) rfl))) (mvT hZ (hw _ (List.mem_of_getElem? (i := 16) rfl))) (mvT hZ (hw _ (List.mem_of_getElem? (i := 19) rfl))) (by decide) (backOf (W := 0) (rmR l Z a0 hw [] a1 h0 n0 Z0 ) hZ (hw _ (List.mem_of_getElem? (i := 19) rfl)) (hw _ (List.mem_of_getElem? (i := 18) rfl)) (by decide) (by decide)) (g := (mkF m 1 #[.val (.ref a1), .val (.long q2), .second, .val (.long q3), .second, .val (.long q4), .second, .val (.int p5), .val (.long q6), .second, .val (.long q7), .second] [(.ref a1)])) rfl (by rw [hml]; rfl) (Steps.refl _) (a := a1) (argsL := []) (rest := []) (lenOf pd_0 rfl) rfl (by show 2 * 0 + _ ≤ _; exact Nat.le_of_eq rfl) (hb hby d2_1) (fun _ _ => ⟨rfl, e0, (by decide : 0 + 0 ≤ _), (by decide : 0 + 0 ≤ _)⟩)
  dsimp only [Pt.U, Pt.locs, Pt.cells, Pt.slots] at X2 l2 y2 z2 st2 hQ2
  subst l2 y2 z2
  obtain ⟨rfl, N2q, e2⟩ := hQ2
  have N2 := Fr.app N0 N2q
  have P3 : Rch p e below (s₁.setTop (entryFrame m #[(.ref a1), (.long q2), (.long q3), (.long q4), (.int p5), (.long q6), (.long q7)] 12)) (T2.setTop (mkF m 4 #[.val (.ref a1), .val (.long q2), .second, .val (.long q3), .second, .val (.long q4), .second, .val (.int p5), .val (.long q6), .second, .val (.long q7), .second] [])) := fun t k => P1 t (st2.trans k)
  have P4 : Rch p e below (s₁.setTop (entryFrame m #[(.ref a1), (.long q2), (.long q3), (.long q4), (.int p5), (.long q6), (.long q7)] 12)) (T2.setTop (mkF m 6 #[.val (.ref a1), .val (.long q2), .second, .val (.long q3), .second, .val (.long q4), .second, .val (.int p5), .val (.long q6), .second, .val (.long q7), .second] [(.long q2), (.ref a1)])) := fun t k => P3 t (by
    show Steps p.tables e below (T2.setTop (mkF m 4 #[.val (.ref a1), .val (.long q2), .second, .val (.long q3), .second, .val (.long q4), .second, .val (.int p5), .val (.long q6), .second, .val (.long q7), .second] [])) t
    refine XS.aloadN X2.here hx rfl (hb hby d2_4) rfl rfl ?_
    show Steps p.tables e below (T2.setTop (mkF m 5 #[.val (.ref a1), .val (.long q2), .second, .val (.long q3), .second, .val (.long q4), .second, .val (.int p5), .val (.long q6), .second, .val (.long q7), .second] [(.ref a1)])) t
    refine XS.lloadN X2.here hx rfl (hb hby d2_5) rfl ?_
    exact k)
  obtain ⟨T5, h5, X5, e5, W5, st5⟩ := putF X2 hx hZ hown (host := "") (Or.inl (hw _ (List.mem_of_getElem? (i := 23) rfl))) Via.refl e2 F0 E1 (Or.inr ⟨(hw _ (List.mem_of_getElem? (i := 24) rfl)), rfl, hnm⟩) (hw _ (List.mem_of_getElem? (i := 8) rfl)) (ty := .long) (by decide) rfl rfl (g := (mkF m 6 #[.val (.ref a1), .val (.long q2), .second, .val (.long q3), .second, .val (.long q4), .second, .val (.int p5), .val (.long q6), .second, .val (.long q7), .second] [(.long q2), (.ref a1)])) rfl rfl (hb hby d2_6)
  have Fw5 := F0.same W5
  have P6 : Rch p e below (s₁.setTop (entryFrame m #[(.ref a1), (.long q2), (.long q3), (.long q4), (.int p5), (.long q6), (.long q7)] 12)) (T5.setTop (mkF m 9 #[.val (.ref a1), .val (.long q2), .second, .val (.long q3), .second, .val (.long q4), .second, .val (.int p5), .val (.long q6), .second, .val (.long q7), .second] [])) := fun t k => P4 t (st5 t k)
  have N5 := Fr.snoc X5 N2 g1
  have P7 : Rch p e below (s₁.setTop (entryFrame m #[(.ref a1), (.long q2), (.long q3), (.long q4), (.int p5), (.long q6), (.long q7)] 12)) (T5.setTop (mkF m 11 #[.val (.ref a1), .val (.long q2), .second, .val (.long q3), .second, .val (.long q4), .second, .val (.int p5), .val (.long q6), .second, .val (.long q7), .second] [(.long q3), (.ref a1)])) := fun t k => P6 t (by
    show Steps p.tables e below (T5.setTop (mkF m 9 #[.val (.ref a1), .val (.long q2), .second, .val (.long q3), .second, .val (.long q4), .second, .val (.int p5), .val (.long q6), .second, .val (.long q7), .second] [])) t
    refine XS.aloadN X5.here hx rfl (hb hby d2_9) rfl rfl ?_
    show Steps p.tables e below (T5.setTop (mkF m 10 #[.val (.ref a1), .val (.long q2), .second, .val (.long q3), .second, .val (.long q4), .second, .val (.int p5), .val (.long q6), .second, .val (.long q7), .second] [(.ref a1)])) t
    refine XS.lloadN X5.here hx rfl (hb hby d2_10) rfl ?_
    exact k)
  have f9 : Fld Z h5 a1 "com/example/carrel/carrel/bench/LoadReport" "wallNanos" "J" (.long (0 : Int64)) := (F1.other W5 (Or.inr (slot_ne (Or.inr (hw _ (List.mem_of_getElem? (i := 26) rfl))) (Or.inr (hw _ (List.mem_of_getElem? (i := 24) rfl))) (by decide) (t := .long) (t' := .long) (by decide) (by decide))))
  obtain ⟨T8, h8, X8, e8, W8, st8⟩ := putF X5 hx hZ hown (host := "") (Or.inl (hw _ (List.mem_of_getElem? (i := 25) rfl))) Via.refl e5 f9 (E1.wr W5) (Or.inr ⟨(hw _ (List.mem_of_getElem? (i := 26) rfl)), rfl, hnm⟩) (hw _ (List.mem_of_getElem? (i := 8) rfl)) (ty := .long) (by decide) rfl rfl (g := (mkF m 11 #[.val (.ref a1), .val (.long q2), .second, .val (.long q3), .second, .val (.long q4), .second, .val (.int p5), .val (.long q6), .second, .val (.long q7), .second] [(.long q3), (.ref a1)])) rfl rfl (hb hby d2_11)
  have Fw8 := f9.same W8
  have P10 : Rch p e below (s₁.setTop (entryFrame m #[(.ref a1), (.long q2), (.long q3), (.long q4), (.int p5), (.long q6), (.long q7)] 12)) (T8.setTop (mkF m 14 #[.val (.ref a1), .val (.long q2), .second, .val (.long q3), .second, .val (.long q4), .second, .val (.int p5), .val (.long q6), .second, .val (.long q7), .second] [])) := fun t k => P7 t (st8 t k)
  have N8 := Fr.snoc X8 N5 g1
  have P11 : Rch p e below (s₁.setTop (entryFrame m #[(.ref a1), (.long q2), (.long q3), (.long q4), (.int p5), (.long q6), (.long q7)] 12)) (T8.setTop (mkF m 17 #[.val (.ref a1), .val (.long q2), .second, .val (.long q3), .second, .val (.long q4), .second, .val (.int p5), .val (.long q6), .second, .val (.long q7), .second] [(.long q4), (.ref a1)])) := fun t k => P10 t (by
    show Steps p.tables e below (T8.setTop (mkF m 14 #[.val (.ref a1), .val (.long q2), .second, .val (.long q3), .second, .val (.long q4), .second, .val (.int p5), .val (.long q6), .second, .val (.long q7), .second] [])) t
    refine XS.aloadN X8.here hx rfl (hb hby d2_14) rfl rfl ?_
    show Steps p.tables e below (T8.setTop (mkF m 15 #[.val (.ref a1), .val (.long q2), .second, .val (.long q3), .second, .val (.long q4), .second, .val (.int p5), .val (.long q6), .second, .val (.long q7), .second] [(.ref a1)])) t
    refine XS.lload X8.here hx rfl (hb hby d2_15) rfl ?_
    exact k)
  have f13 : Fld Z h8 a1 "com/example/carrel/carrel/bench/LoadReport" "cpuNanos" "J" (.long (0 : Int64)) := ((F2.other W5 (Or.inr (slot_ne (Or.inr (hw _ (List.mem_of_getElem? (i := 28) rfl))) (Or.inr (hw _ (List.mem_of_getElem? (i := 24) rfl))) (by decide) (t := .long) (t' := .long) (by decide) (by decide)))).other W8 (Or.inr (slot_ne (Or.inr (hw _ (List.mem_of_getElem? (i := 28) rfl))) (Or.inr (hw _ (List.mem_of_getElem? (i := 26) rfl))) (by decide) (t := .long) (t' := .long) (by decide) (by decide))))
  obtain ⟨T12, h12, X12, e12, W12, st12⟩ := putF X8 hx hZ hown (host := "") (Or.inl (hw _ (List.mem_of_getElem? (i := 27) rfl))) Via.refl e8 f13 ((E1.wr W5).wr W8) (Or.inr ⟨(hw _ (List.mem_of_getElem? (i := 28) rfl)), rfl, hnm⟩) (hw _ (List.mem_of_getElem? (i := 8) rfl)) (ty := .long) (by decide) rfl rfl (g := (mkF m 17 #[.val (.ref a1), .val (.long q2), .second, .val (.long q3), .second, .val (.long q4), .second, .val (.int p5), .val (.long q6), .second, .val (.long q7), .second] [(.long q4), (.ref a1)])) rfl rfl (hb hby d2_17)
  have Fw12 := f13.same W12
  have P14 : Rch p e below (s₁.setTop (entryFrame m #[(.ref a1), (.long q2), (.long q3), (.long q4), (.int p5), (.long q6), (.long q7)] 12)) (T12.setTop (mkF m 20 #[.val (.ref a1), .val (.long q2), .second, .val (.long q3), .second, .val (.long q4), .second, .val (.int p5), .val (.long q6), .second, .val (.long q7), .second] [])) := fun t k => P11 t (st12 t k)
  have N12 := Fr.snoc X12 N8 g1
  have P15 : Rch p e below (s₁.setTop (entryFrame m #[(.ref a1), (.long q2), (.long q3), (.long q4), (.int p5), (.long q6), (.long q7)] 12)) (T12.setTop (mkF m 23 #[.val (.ref a1), .val (.long q2), .second, .val (.long q3), .second, .val (.long q4), .second, .val (.int p5), .val (.long q6), .second, .val (.long q7), .second] [(.int p5), (.ref a1)])) := fun t k => P14 t (by
    show Steps p.tables e below (T12.setTop (mkF m 20 #[.val (.ref a1), .val (.long q2), .second, .val (.long q3), .second, .val (.long q4), .second, .val (.int p5), .val (.long q6), .second, .val (.long q7), .second] [])) t
    refine XS.aloadN X12.here hx rfl (hb hby d2_20) rfl rfl ?_
    show Steps p.tables e below (T12.setTop (mkF m 21 #[.val (.ref a1), .val (.long q2), .second, .val (.long q3), .second, .val (.long q4), .second, .val (.int p5), .val (.long q6), .second, .val (.long q7), .second] [(.ref a1)])) t
    refine XS.iload X12.here hx rfl (hb hby d2_21) rfl ?_
    exact k)
  have f17 : Fld Z h12 a1 "com/example/carrel/carrel/bench/LoadReport" "cores" "I" (.int (0 : Int32)) := (((F3.other W5 (Or.inr (slot_ne (Or.inr (hw _ (List.mem_of_getElem? (i := 30) rfl))) (Or.inr (hw _ (List.mem_of_getElem? (i := 24) rfl))) (by decide) (t := .int) (t' := .long) (by decide) (by decide)))).other W8 (Or.inr (slot_ne (Or.inr (hw _ (List.mem_of_getElem? (i := 30) rfl))) (Or.inr (hw _ (List.mem_of_getElem? (i := 26) rfl))) (by decide) (t := .int) (t' := .long) (by decide) (by decide)))).other W12 (Or.inr (slot_ne (Or.inr (hw _ (List.mem_of_getElem? (i := 30) rfl))) (Or.inr (hw _ (List.mem_of_getElem? (i := 28) rfl))) (by decide) (t := .int) (t' := .long) (by decide) (by decide))))
  obtain ⟨T16, h16, X16, e16, W16, st16⟩ := putF X12 hx hZ hown (host := "") (Or.inl (hw _ (List.mem_of_getElem? (i := 29) rfl))) Via.refl e12 f17 (((E1.wr W5).wr W8).wr W12) (Or.inr ⟨(hw _ (List.mem_of_getElem? (i := 30) rfl)), rfl, hnm⟩) (hw _ (List.mem_of_getElem? (i := 8) rfl)) (ty := .int) (by decide) rfl rfl (g := (mkF m 23 #[.val (.ref a1), .val (.long q2), .second, .val (.long q3), .second, .val (.long q4), .second, .val (.int p5), .val (.long q6), .second, .val (.long q7), .second] [(.int p5), (.ref a1)])) rfl rfl (hb hby d2_23)
  have Fw16 := f17.same W16
  have P18 : Rch p e below (s₁.setTop (entryFrame m #[(.ref a1), (.long q2), (.long q3), (.long q4), (.int p5), (.long q6), (.long q7)] 12)) (T16.setTop (mkF m 26 #[.val (.ref a1), .val (.long q2), .second, .val (.long q3), .second, .val (.long q4), .second, .val (.int p5), .val (.long q6), .second, .val (.long q7), .second] [])) := fun t k => P15 t (st16 t k)
  have N16 := Fr.snoc X16 N12 g1
  have P19 : Rch p e below (s₁.setTop (entryFrame m #[(.ref a1), (.long q2), (.long q3), (.long q4), (.int p5), (.long q6), (.long q7)] 12)) (T16.setTop (mkF m 29 #[.val (.ref a1), .val (.long q2), .second, .val (.long q3), .second, .val (.long q4), .second, .val (.int p5), .val (.long q6), .second, .val (.long q7), .second] [(.long q6), (.ref a1)])) := fun t k => P18 t (by
    show Steps p.tables e below (T16.setTop (mkF m 26 #[.val (.ref a1), .val (.long q2), .second, .val (.long q3), .second, .val (.long q4), .second, .val (.int p5), .val (.long q6), .second, .val (.long q7), .second] [])) t
    refine XS.aloadN X16.here hx rfl (hb hby d2_26) rfl rfl ?_
    show Steps p.tables e below (T16.setTop (mkF m 27 #[.val (.ref a1), .val (.long q2), .second, .val (.long q3), .second, .val (.long q4), .second, .val (.int p5), .val (.long q6), .second, .val (.long q7), .second] [(.ref a1)])) t
    refine XS.lload X16.here hx rfl (hb hby d2_27) rfl ?_
    exact k)
  have f21 : Fld Z h16 a1 "com/example/carrel/carrel/bench/LoadReport" "unexpected" "J" (.long (0 : Int64)) := ((((F4.other W5 (Or.inr (slot_ne (Or.inr (hw _ (List.mem_of_getElem? (i := 32) rfl))) (Or.inr (hw _ (List.mem_of_getElem? (i := 24) rfl))) (by decide) (t := .long) (t' := .long) (by decide) (by decide)))).other W8 (Or.inr (slot_ne (Or.inr (hw _ (List.mem_of_getElem? (i := 32) rfl))) (Or.inr (hw _ (List.mem_of_getElem? (i := 26) rfl))) (by decide) (t := .long) (t' := .long) (by decide) (by decide)))).other W12 (Or.inr (slot_ne (Or.inr (hw _ (List.mem_of_getElem? (i := 32) rfl))) (Or.inr (hw _ (List.mem_of_getElem? (i := 28) rfl))) (by decide) (t := .long) (t' := .long) (by decide) (by decide)))).other W16 (Or.inr (slot_ne (Or.inr (hw _ (List.mem_of_getElem? (i := 32) rfl))) (Or.inr (hw _ (List.mem_of_getElem? (i := 30) rfl))) (by decide) (t := .long) (t' := .int) (by decide) (by decide))))
  obtain ⟨T20, h20, X20, e20, W20, st20⟩ := putF X16 hx hZ hown (host := "") (Or.inl (hw _ (List.mem_of_getElem? (i := 31) rfl))) Via.refl e16 f21 ((((E1.wr W5).wr W8).wr W12).wr W16) (Or.inr ⟨(hw _ (List.mem_of_getElem? (i := 32) rfl)), rfl, hnm⟩) (hw _ (List.mem_of_getElem? (i := 8) rfl)) (ty := .long) (by decide) rfl rfl (g := (mkF m 29 #[.val (.ref a1), .val (.long q2), .second, .val (.long q3), .second, .val (.long q4), .second, .val (.int p5), .val (.long q6), .second, .val (.long q7), .second] [(.long q6), (.ref a1)])) rfl rfl (hb hby d2_29)
  have Fw20 := f21.same W20
  have P22 : Rch p e below (s₁.setTop (entryFrame m #[(.ref a1), (.long q2), (.long q3), (.long q4), (.int p5), (.long q6), (.long q7)] 12)) (T20.setTop (mkF m 32 #[.val (.ref a1), .val (.long q2), .second, .val (.long q3), .second, .val (.long q4), .second, .val (.int p5), .val (.long q6), .second, .val (.long q7), .second] [])) := fun t k => P19 t (st20 t k)
  have N20 := Fr.snoc X20 N16 g1
  have P23 : Rch p e below (s₁.setTop (entryFrame m #[(.ref a1), (.long q2), (.long q3), (.long q4), (.int p5), (.long q6), (.long q7)] 12)) (T20.setTop (mkF m 35 #[.val (.ref a1), .val (.long q2), .second, .val (.long q3), .second, .val (.long q4), .second, .val (.int p5), .val (.long q6), .second, .val (.long q7), .second] [(.long q7), (.ref a1)])) := fun t k => P22 t (by
    show Steps p.tables e below (T20.setTop (mkF m 32 #[.val (.ref a1), .val (.long q2), .second, .val (.long q3), .second, .val (.long q4), .second, .val (.int p5), .val (.long q6), .second, .val (.long q7), .second] [])) t
    refine XS.aloadN X20.here hx rfl (hb hby d2_32) rfl rfl ?_
    show Steps p.tables e below (T20.setTop (mkF m 33 #[.val (.ref a1), .val (.long q2), .second, .val (.long q3), .second, .val (.long q4), .second, .val (.int p5), .val (.long q6), .second, .val (.long q7), .second] [(.ref a1)])) t
    refine XS.lload X20.here hx rfl (hb hby d2_33) rfl ?_
    exact k)
  have f25 : Fld Z h20 a1 "com/example/carrel/carrel/bench/LoadReport" "withoutRecord" "J" (.long (0 : Int64)) := (((((F5.other W5 (Or.inr (slot_ne (Or.inr (hw _ (List.mem_of_getElem? (i := 34) rfl))) (Or.inr (hw _ (List.mem_of_getElem? (i := 24) rfl))) (by decide) (t := .long) (t' := .long) (by decide) (by decide)))).other W8 (Or.inr (slot_ne (Or.inr (hw _ (List.mem_of_getElem? (i := 34) rfl))) (Or.inr (hw _ (List.mem_of_getElem? (i := 26) rfl))) (by decide) (t := .long) (t' := .long) (by decide) (by decide)))).other W12 (Or.inr (slot_ne (Or.inr (hw _ (List.mem_of_getElem? (i := 34) rfl))) (Or.inr (hw _ (List.mem_of_getElem? (i := 28) rfl))) (by decide) (t := .long) (t' := .long) (by decide) (by decide)))).other W16 (Or.inr (slot_ne (Or.inr (hw _ (List.mem_of_getElem? (i := 34) rfl))) (Or.inr (hw _ (List.mem_of_getElem? (i := 30) rfl))) (by decide) (t := .long) (t' := .int) (by decide) (by decide)))).other W20 (Or.inr (slot_ne (Or.inr (hw _ (List.mem_of_getElem? (i := 34) rfl))) (Or.inr (hw _ (List.mem_of_getElem? (i := 32) rfl))) (by decide) (t := .long) (t' := .long) (by decide) (by decide))))
  obtain ⟨T24, h24, X24, e24, W24, st24⟩ := putF X20 hx hZ hown (host := "") (Or.inl (hw _ (List.mem_of_getElem? (i := 33) rfl))) Via.refl e20 f25 (((((E1.wr W5).wr W8).wr W12).wr W16).wr W20) (Or.inr ⟨(hw _ (List.mem_of_getElem? (i := 34) rfl)), rfl, hnm⟩) (hw _ (List.mem_of_getElem? (i := 8) rfl)) (ty := .long) (by decide) rfl rfl (g := (mkF m 35 #[.val (.ref a1), .val (.long q2), .second, .val (.long q3), .second, .val (.long q4), .second, .val (.int p5), .val (.long q6), .second, .val (.long q7), .second] [(.long q7), (.ref a1)])) rfl rfl (hb hby d2_35)
  have Fw24 := f25.same W24
  have P26 : Rch p e below (s₁.setTop (entryFrame m #[(.ref a1), (.long q2), (.long q3), (.long q4), (.int p5), (.long q6), (.long q7)] 12)) (T24.setTop (mkF m 38 #[.val (.ref a1), .val (.long q2), .second, .val (.long q3), .second, .val (.long q4), .second, .val (.int p5), .val (.long q6), .second, .val (.long q7), .second] [])) := fun t k => P23 t (st24 t k)
  have N24 := Fr.snoc X24 N20 g1
  obtain ⟨fs, hr, hrun, hended, hW, hsame⟩ := X24.leave (v := none) (fun _ => rfl)
  refine ⟨_, _, P26 _ ?_, hrun, hended, _, _, rfl, ?_, ⟨_, rfl⟩, hW, hsame.mono (by decide) (by decide)⟩
  · exact X24.returnOut hx Bd.returns (hb hby d2_38) hr
  · show Q_rmI Z a1 q2 q3 q4 p5 q6 q7 h0 n0 _ T24.heap _
    rw [e24]
    have f27 : Keep h0 h24 [a1] := (((((((Keep.refl h0 [a1]).wr W5 (Or.inl (List.mem_of_getElem? (i := 0) rfl))).wr W8 (Or.inl (List.mem_of_getElem? (i := 0) rfl))).wr W12 (Or.inl (List.mem_of_getElem? (i := 0) rfl))).wr W16 (Or.inl (List.mem_of_getElem? (i := 0) rfl))).wr W20 (Or.inl (List.mem_of_getElem? (i := 0) rfl))).wr W24 (Or.inl (List.mem_of_getElem? (i := 0) rfl)))
    have f28 : Fld Z h24 a1 "com/example/carrel/carrel/bench/LoadReport" "rounds" "J" (.long q2) := (((((Fw5.other W8 (Or.inr (slot_ne (Or.inr (hw _ (List.mem_of_getElem? (i := 24) rfl))) (Or.inr (hw _ (List.mem_of_getElem? (i := 26) rfl))) (by decide) (t := .long) (t' := .long) (by decide) (by decide)))).other W12 (Or.inr (slot_ne (Or.inr (hw _ (List.mem_of_getElem? (i := 24) rfl))) (Or.inr (hw _ (List.mem_of_getElem? (i := 28) rfl))) (by decide) (t := .long) (t' := .long) (by decide) (by decide)))).other W16 (Or.inr (slot_ne (Or.inr (hw _ (List.mem_of_getElem? (i := 24) rfl))) (Or.inr (hw _ (List.mem_of_getElem? (i := 30) rfl))) (by decide) (t := .long) (t' := .int) (by decide) (by decide)))).other W20 (Or.inr (slot_ne (Or.inr (hw _ (List.mem_of_getElem? (i := 24) rfl))) (Or.inr (hw _ (List.mem_of_getElem? (i := 32) rfl))) (by decide) (t := .long) (t' := .long) (by decide) (by decide)))).other W24 (Or.inr (slot_ne (Or.inr (hw _ (List.mem_of_getElem? (i := 24) rfl))) (Or.inr (hw _ (List.mem_of_getElem? (i := 34) rfl))) (by decide) (t := .long) (t' := .long) (by decide) (by decide))))
    have f29 : Fld Z h24 a1 "com/example/carrel/carrel/bench/LoadReport" "wallNanos" "J" (.long q3) := ((((Fw8.other W12 (Or.inr (slot_ne (Or.inr (hw _ (List.mem_of_getElem? (i := 26) rfl))) (Or.inr (hw _ (List.mem_of_getElem? (i := 28) rfl))) (by decide) (t := .long) (t' := .long) (by decide) (by decide)))).other W16 (Or.inr (slot_ne (Or.inr (hw _ (List.mem_of_getElem? (i := 26) rfl))) (Or.inr (hw _ (List.mem_of_getElem? (i := 30) rfl))) (by decide) (t := .long) (t' := .int) (by decide) (by decide)))).other W20 (Or.inr (slot_ne (Or.inr (hw _ (List.mem_of_getElem? (i := 26) rfl))) (Or.inr (hw _ (List.mem_of_getElem? (i := 32) rfl))) (by decide) (t := .long) (t' := .long) (by decide) (by decide)))).other W24 (Or.inr (slot_ne (Or.inr (hw _ (List.mem_of_getElem? (i := 26) rfl))) (Or.inr (hw _ (List.mem_of_getElem? (i := 34) rfl))) (by decide) (t := .long) (t' := .long) (by decide) (by decide))))
    have f30 : Fld Z h24 a1 "com/example/carrel/carrel/bench/LoadReport" "cpuNanos" "J" (.long q4) := (((Fw12.other W16 (Or.inr (slot_ne (Or.inr (hw _ (List.mem_of_getElem? (i := 28) rfl))) (Or.inr (hw _ (List.mem_of_getElem? (i := 30) rfl))) (by decide) (t := .long) (t' := .int) (by decide) (by decide)))).other W20 (Or.inr (slot_ne (Or.inr (hw _ (List.mem_of_getElem? (i := 28) rfl))) (Or.inr (hw _ (List.mem_of_getElem? (i := 32) rfl))) (by decide) (t := .long) (t' := .long) (by decide) (by decide)))).other W24 (Or.inr (slot_ne (Or.inr (hw _ (List.mem_of_getElem? (i := 28) rfl))) (Or.inr (hw _ (List.mem_of_getElem? (i := 34) rfl))) (by decide) (t := .long) (t' := .long) (by decide) (by decide))))
    have f31 : Fld Z h24 a1 "com/example/carrel/carrel/bench/LoadReport" "cores" "I" (.int p5) := ((Fw16.other W20 (Or.inr (slot_ne (Or.inr (hw _ (List.mem_of_getElem? (i := 30) rfl))) (Or.inr (hw _ (List.mem_of_getElem? (i := 32) rfl))) (by decide) (t := .int) (t' := .long) (by decide) (by decide)))).other W24 (Or.inr (slot_ne (Or.inr (hw _ (List.mem_of_getElem? (i := 30) rfl))) (Or.inr (hw _ (List.mem_of_getElem? (i := 34) rfl))) (by decide) (t := .int) (t' := .long) (by decide) (by decide))))
    have f32 : Fld Z h24 a1 "com/example/carrel/carrel/bench/LoadReport" "unexpected" "J" (.long q6) := (Fw20.other W24 (Or.inr (slot_ne (Or.inr (hw _ (List.mem_of_getElem? (i := 32) rfl))) (Or.inr (hw _ (List.mem_of_getElem? (i := 34) rfl))) (by decide) (t := .long) (t' := .long) (by decide) (by decide))))
    exact ⟨rfl, N24, f27, ((((((E1.wr W5).wr W8).wr W12).wr W16).wr W20).wr W24), f28, f29, f30, f31, f32, Fw24⟩
def own_max (q1 : Int64) (q2 : Int64) : Int64 := (if q1 < q2 then q2 else q1)
def Q_rmM (Z : State) (q1 : Int64) (q2 : Int64) (h0 : Heap) (n0 : Nat) (v : Option Value) (h : Heap) (L : List Loc) : Prop := v = some (.long (own_max q1 q2)) ∧ Fr n0 L ∧ h = h0
set_option maxRecDepth 65536 in
set_option maxHeartbeats 40000000 in
theorem rmM (l : Launch) (Z : State) (a0 : Array Value) (hw : ∀ d ∈ tables_1, d.before a0 Z = true) (ws : List Jvm.Cond) (q1 : Int64) (q2 : Int64) (h0 : Heap) (n0 : Nat) (Z0 : n0 ≤ h0.size) :
    MetFree l (⟨"java/lang/Math", "max", "(JJ)J"⟩ : MethodName) (head1 (Jvm.Cond.code (⟨"java/lang/Math", "max", "(JJ)J"⟩ : MethodName) jdk_29_method_66_code 4 (some .long) :: ws) ({ frames := 0, cells := 0, slots := 0, locals := 0 } : Room)) (fun a U => a = #[(.long q1), (.long q2)] ∧ Z.Warmed39 U.vm ∧ U.heap = h0) (fun _ _ _ _ _ => True) (fun _ U o U' => ∃ v L, o = .returned v ∧ Q_rmM Z q1 q2 h0 n0 v U'.heap L ∧ FrameEnd U o U' L ({ frames := 0, cells := 0, slots := 0, locals := 0 } : Room).cells ({ frames := 0, cells := 0, slots := 0, locals := 0 } : Room).slots) := by
  refine MetFree.of_bodySF (Jvm.Free.JP.mathPlain rfl (by decide +kernel)) hisR ?_
  intro p e s m args below meth c s₁ Bd hml0 hP hK
  obtain ⟨rfl, hZ, hh⟩ := hP
  have hx := Bd.exec
  have hby := Bd.bytes
  have hml : c.maxLocals = 4 := hml0
  have hown : s.vm.findClass "java/lang/Math" = some m.cls := findClass_of_methodNamed Bd.named
  have hnm := (name_of_methodNamed Bd.named Bd.method).1
  have X0 : Stand p l e ({ frames := 0, cells := 0, slots := 0, locals := 0 } : Room) s m #[(.long q1), (.long q2)] below meth c s₁ [] 0 0 := Stand.of_body Bd
  have e0 : s₁.heap = h0 := by rw [← hh, Bd.state]; rfl
  have N0 := Fr.nil n0
  have P0 : Rch p e below (s₁.setTop (entryFrame m #[(.long q1), (.long q2)] 4)) (s₁.setTop (mkF m 0 #[.val (.long q1), .second, .val (.long q2), .second] [])) := fun t k => castTop (by first | rfl | (simp [entryFrame, mkF, argsToLocals, Value.category]; done)) k
  have P1 : Rch p e below (s₁.setTop (entryFrame m #[(.long q1), (.long q2)] 4)) (s₁.setTop (mkF m 3 #[.val (.long q1), .second, .val (.long q2), .second] [(.int (lcmpW q1 q2))])) := fun t k => P0 t (by
    show Steps p.tables e below (s₁.setTop (mkF m 0 #[.val (.long q1), .second, .val (.long q2), .second] [])) t
    refine XS.lloadN X0.here hx rfl (hb hby d1_0) rfl ?_
    show Steps p.tables e below (s₁.setTop (mkF m 1 #[.val (.long q1), .second, .val (.long q2), .second] [(.long q1)])) t
    refine XS.lloadN X0.here hx rfl (hb hby d1_1) rfl ?_
    show Steps p.tables e below (s₁.setTop (mkF m 2 #[.val (.long q1), .second, .val (.long q2), .second] [(.long q2), (.long q1)])) t
    refine XS.lcmp X0.here hx rfl (hb hby d1_2) rfl ?_
    exact k)
  obtain ⟨v3, hv3, P4⟩ : ∃ (v3 : Int64), v3 = (if q1 < q2 then q2 else q1) ∧ Rch p e below (s₁.setTop (entryFrame m #[(.long q1), (.long q2)] 4)) (s₁.setTop (mkF m 11 #[.val (.long q1), .second, .val (.long q2), .second] [(.long v3)])) := by
    by_cases c2 : q1 < q2
    · refine ⟨q2, (by first | rfl | rw [if_pos c2] | simp only [if_pos c2]), fun t k => P1 t ?_⟩
      show Steps p.tables e below (s₁.setTop (mkF m 3 #[.val (.long q1), .second, .val (.long q2), .second] [(.int (lcmpW q1 q2))])) t
      refine XS.ifYes X0.here hx rfl (pc0 := 3) (pc' := 10) rfl (hb hby d1_3) rfl ((if0 _ _).trans (tlt ((lw_lt q1 q2).mpr c2)).1) (by decide) (by decide) ?_
      show Steps p.tables e below (s₁.setTop (mkF m 10 #[.val (.long q1), .second, .val (.long q2), .second] [])) t
      refine XS.lloadN X0.here hx rfl (hb hby d1_10) rfl ?_
      exact k
    · refine ⟨q1, (by first | rfl | rw [if_neg c2] | simp only [if_neg c2]), fun t k => P1 t ?_⟩
      show Steps p.tables e below (s₁.setTop (mkF m 3 #[.val (.long q1), .second, .val (.long q2), .second] [(.int (lcmpW q1 q2))])) t
      refine XS.ifNo X0.here hx rfl (hb hby d1_3) rfl ((if0 _ _).trans (flt (fun q_ => c2 ((lw_lt q1 q2).mp q_))).1) ?_
      show Steps p.tables e below (s₁.setTop (mkF m 6 #[.val (.long q1), .second, .val (.long q2), .second] [])) t
      refine XS.lloadN X0.here hx rfl (hb hby d1_6) rfl ?_
      show Steps p.tables e below (s₁.setTop (mkF m 7 #[.val (.long q1), .second, .val (.long q2), .second] [(.long q1)])) t
      refine XS.goto X0.here hx rfl (pc0 := 7) (pc' := 11) rfl (hb hby d1_7) (by decide) (by decide) ?_
      exact k
  obtain ⟨fs, hr, hrun, hended, hW, hsame⟩ := X0.leave (v := some (.long v3)) (fun h => by rw [Bd.returns] at h; cases h)
  refine ⟨_, _, P4 _ ?_, hrun, hended, _, _, rfl, ?_, ⟨_, rfl⟩, hW, hsame.mono (by decide) (by decide)⟩
  · exact retOut X0 hx Bd.returns rfl (Or.inr (Or.inl ⟨rfl, rfl, _, rfl⟩)) (hb hby d1_11) hr
  · show Q_rmM Z q1 q2 h0 n0 _ s₁.heap _
    rw [e0]
    exact ⟨(by unfold own_max; subst hv3; first | rfl | rw [] | simp only [] | simp [*]), N0, rfl⟩
def own_lim (w1 : Int64) (w2 : Int32) (w3 : Int64) : Int32 := (if ((w2.toInt64) * w3) < ((2 : Int64) * w1) then (1 : Int32) else (0 : Int32))
def Q_rmL (Z : State) (a1 : Addr) (w1 : Int64) (w2 : Int32) (w3 : Int64) (h0 : Heap) (n0 : Nat) (v : Option Value) (h : Heap) (L : List Loc) : Prop := v = some (.int (own_lim w1 w2 w3)) ∧ Fr n0 L ∧ h = h0
set_option maxRecDepth 65536 in
set_option maxHeartbeats 40000000 in
theorem rmL (l : Launch) (Z : State) (a0 : Array Value) (hw : ∀ d ∈ tables_1, d.before a0 Z = true) (ws : List Jvm.Cond) (a1 : Addr) (w1 : Int64) (w2 : Int32) (w3 : Int64) (h0 : Heap) (n0 : Nat) (Z0 : n0 ≤ h0.size) (F1 : Fld Z h0 a1 "com/example/carrel/carrel/bench/LoadReport" "cpuNanos" "J" (.long w1)) (F2 : Fld Z h0 a1 "com/example/carrel/carrel/bench/LoadReport" "cores" "I" (.int w2)) (F3 : Fld Z h0 a1 "com/example/carrel/carrel/bench/LoadReport" "wallNanos" "J" (.long w3)) :
    MetFree l (⟨"com/example/carrel/carrel/bench/LoadReport", "limited", "()Z"⟩ : MethodName) (head1 (Jvm.Cond.code (⟨"com/example/carrel/carrel/bench/LoadReport", "limited", "()Z"⟩ : MethodName) prog_3_method_3_code 1 (some .boolean) :: ws) ({ frames := 0, cells := 0, slots := 0, locals := 0 } : Room)) (fun a U => a = #[(.ref a1)] ∧ Z.Warmed39 U.vm ∧ U.heap = h0) (fun _ _ _ _ _ => True) (fun _ U o U' => ∃ v L, o = .returned v ∧ Q_rmL Z a1 w1 w2 w3 h0 n0 v U'.heap L ∧ FrameEnd U o U' L ({ frames := 0, cells := 0, slots := 0, locals := 0 } : Room).cells ({ frames := 0, cells := 0, slots := 0, locals := 0 } : Room).slots) := by
  refine MetFree.of_bodySF (plainFor_of_name pn_1) hisR ?_
  intro p e s m args below meth c s₁ Bd hml0 hP hK
  obtain ⟨rfl, hZ, hh⟩ := hP
  have hx := Bd.exec
  have hby := Bd.bytes
  have hml : c.maxLocals = 1 := hml0
  have hown : s.vm.findClass "com/example/carrel/carrel/bench/LoadReport" = some m.cls := findClass_of_methodNamed Bd.named
  have hnm := (name_of_methodNamed Bd.named Bd.method).1
  have X0 : Stand p l e ({ frames := 0, cells := 0, slots := 0, locals := 0 } : Room) s m #[(.ref a1)] below meth c s₁ [] 0 0 := Stand.of_body Bd
  have e0 : s₁.heap = h0 := by rw [← hh, Bd.state]; rfl
  have N0 := Fr.nil n0
  have P0 : Rch p e below (s₁.setTop (entryFrame m #[(.ref a1)] 1)) (s₁.setTop (mkF m 0 #[.val (.ref a1)] [])) := fun t k => castTop (by first | rfl | (simp [entryFrame, mkF, argsToLocals, Value.category]; done)) k
  have P1 : Rch p e below (s₁.setTop (entryFrame m #[(.ref a1)] 1)) (s₁.setTop (mkF m 4 #[.val (.ref a1)] [(.ref a1), (.long (2 : Int64))])) := fun t k => P0 t (by
    show Steps p.tables e below (s₁.setTop (mkF m 0 #[.val (.ref a1)] [])) t
    refine X0.ldc2Long hx hown (mvT hZ (hw _ (List.mem_of_getElem? (i := 40) rfl))) (g := (mkF m 0 #[.val (.ref a1)] [])) rfl (hb hby d5_0) _ ?_
    show Steps p.tables e below (s₁.setTop (mkF m 3 #[.val (.ref a1)] [(.long (2 : Int64))])) t
    refine XS.aloadN X0.here hx rfl (hb hby d5_3) rfl rfl ?_
    exact k)
  obtain ⟨T2, X2, e2, st2⟩ := getF X0 hx hZ hown (host := "") (Or.inl (hw _ (List.mem_of_getElem? (i := 27) rfl))) Via.refl e0 F1 (g := (mkF m 4 #[.val (.ref a1)] [(.ref a1), (.long (2 : Int64))])) rfl rfl (hb hby d5_4)
  have P3 : Rch p e below (s₁.setTop (entryFrame m #[(.ref a1)] 1)) (T2.setTop (mkF m 7 #[.val (.ref a1)] [(.long w1), (.long (2 : Int64))])) := fun t k => P1 t (st2 t k)
  obtain ⟨y4, hy4⟩ : ∃ z : Int64, z = ((2 : Int64) * w1) := ⟨_, rfl⟩
  have P5 : Rch p e below (s₁.setTop (entryFrame m #[(.ref a1)] 1)) (T2.setTop (mkF m 9 #[.val (.ref a1)] [(.ref a1), (.long y4)])) := fun t k => P3 t (by
    subst hy4
    show Steps p.tables e below (T2.setTop (mkF m 7 #[.val (.ref a1)] [(.long w1), (.long (2 : Int64))])) t
    refine XS.lmul X2.here hx rfl (hb hby d5_7) rfl ?_
    show Steps p.tables e below (T2.setTop (mkF m 8 #[.val (.ref a1)] [(.long ((2 : Int64) * w1))])) t
    refine XS.aloadN X2.here hx rfl (hb hby d5_8) rfl rfl ?_
    exact k)
  obtain ⟨T6, X6, e6, st6⟩ := getF X2 hx hZ hown (host := "") (Or.inl (hw _ (List.mem_of_getElem? (i := 29) rfl))) Via.refl e2 F2 (g := (mkF m 9 #[.val (.ref a1)] [(.ref a1), (.long y4)])) rfl rfl (hb hby d5_9)
  have P7 : Rch p e below (s₁.setTop (entryFrame m #[(.ref a1)] 1)) (T6.setTop (mkF m 12 #[.val (.ref a1)] [(.int w2), (.long y4)])) := fun t k => P5 t (st6 t k)
  obtain ⟨y8, hy8⟩ : ∃ z : Int64, z = (w2.toInt64) := ⟨_, rfl⟩
  have P9 : Rch p e below (s₁.setTop (entryFrame m #[(.ref a1)] 1)) (T6.setTop (mkF m 14 #[.val (.ref a1)] [(.ref a1), (.long y8), (.long y4)])) := fun t k => P7 t (by
    subst hy8
    show Steps p.tables e below (T6.setTop (mkF m 12 #[.val (.ref a1)] [(.int w2), (.long y4)])) t
    refine XS.i2l X6.here hx rfl (hb hby d5_12) rfl ?_
    show Steps p.tables e below (T6.setTop (mkF m 13 #[.val (.ref a1)] [(.long (w2.toInt64)), (.long y4)])) t
    refine XS.aloadN X6.here hx rfl (hb hby d5_13) rfl rfl ?_
    exact k)
  obtain ⟨T10, X10, e10, st10⟩ := getF X6 hx hZ hown (host := "") (Or.inl (hw _ (List.mem_of_getElem? (i := 25) rfl))) Via.refl e6 F3 (g := (mkF m 14 #[.val (.ref a1)] [(.ref a1), (.long y8), (.long y4)])) rfl rfl (hb hby d5_14)
  have P11 : Rch p e below (s₁.setTop (entryFrame m #[(.ref a1)] 1)) (T10.setTop (mkF m 17 #[.val (.ref a1)] [(.long w3), (.long y8), (.long y4)])) := fun t k => P9 t (st10 t k)
  obtain ⟨y12, hy12⟩ : ∃ z : Int64, z = (y8 * w3) := ⟨_, rfl⟩
  have P13 : Rch p e below (s₁.setTop (entryFrame m #[(.ref a1)] 1)) (T10.setTop (mkF m 19 #[.val (.ref a1)] [(.int (lcmpW y4 y12))])) := fun t k => P11 t (by
    subst hy12
    show Steps p.tables e below (T10.setTop (mkF m 17 #[.val (.ref a1)] [(.long w3), (.long y8), (.long y4)])) t
    refine XS.lmul X10.here hx rfl (hb hby d5_17) rfl ?_
    show Steps p.tables e below (T10.setTop (mkF m 18 #[.val (.ref a1)] [(.long (y8 * w3)), (.long y4)])) t
    refine XS.lcmp X10.here hx rfl (hb hby d5_18) rfl ?_
    exact k)
  obtain ⟨v15, hv15, P16⟩ : ∃ (v15 : Int32), v15 = (if y12 < y4 then (1 : Int32) else (0 : Int32)) ∧ Rch p e below (s₁.setTop (entryFrame m #[(.ref a1)] 1)) (T10.setTop (mkF m 27 #[.val (.ref a1)] [(.int v15)])) := by
    by_cases c14 : y12 < y4
    · refine ⟨(1 : Int32), (by first | rfl | rw [if_pos c14] | simp only [if_pos c14]), fun t k => P13 t ?_⟩
      show Steps p.tables e below (T10.setTop (mkF m 19 #[.val (.ref a1)] [(.int (lcmpW y4 y12))])) t
      refine XS.ifNo X10.here hx rfl (hb hby d5_19) rfl ((if0 _ _).trans (tlt ((lw_gt y4 y12).mpr c14)).2.2.2) ?_
      show Steps p.tables e below (T10.setTop (mkF m 22 #[.val (.ref a1)] [])) t
      refine XS.iconst X10.here hx rfl (hb hby d5_22) ?_
      show Steps p.tables e below (T10.setTop (mkF m 23 #[.val (.ref a1)] [(.int (1 : Int32))])) t
      refine XS.goto X10.here hx rfl (pc0 := 23) (pc' := 27) rfl (hb hby d5_23) (by decide) (by decide) ?_
      exact k
    · refine ⟨(0 : Int32), (by first | rfl | rw [if_neg c14] | simp only [if_neg c14]), fun t k => P13 t ?_⟩
      show Steps p.tables e below (T10.setTop (mkF m 19 #[.val (.ref a1)] [(.int (lcmpW y4 y12))])) t
      refine XS.ifYes X10.here hx rfl (pc0 := 19) (pc' := 26) rfl (hb hby d5_19) rfl ((if0 _ _).trans (flt (fun q_ => c14 ((lw_gt y4 y12).mp q_))).2.2.2) (by decide) (by decide) ?_
      show Steps p.tables e below (T10.setTop (mkF m 26 #[.val (.ref a1)] [])) t
      refine XS.iconst X10.here hx rfl (hb hby d5_26) ?_
      exact k
  have hz17 : nar .boolean v15 = v15 := by rw [hv15]; (repeat' split) <;> rfl
  obtain ⟨fs, hr, hrun, hended, hW, hsame⟩ := X10.leave (v := some (.int (nar .boolean v15))) (fun h => by rw [Bd.returns] at h; cases h)
  refine ⟨_, _, P16 _ ?_, hrun, hended, _, _, rfl, ?_, ⟨_, rfl⟩, hW, hsame.mono (by decide) (by decide)⟩
  · exact retN X10 hx (t := .boolean) Bd.returns (by simp) (hb hby d5_27) hr
  · show Q_rmL Z a1 w1 w2 w3 h0 n0 _ T10.heap _
    rw [e10]
    exact ⟨(by rw [hz17]; unfold own_lim; subst hv15 hy12 hy8 hy4; first | rfl | rw [] | simp only [] | simp [*]), N0, rfl⟩

theorem own_cap (c : Int32) (w : Int64) (hc0 : 0 ≤ c.toInt) (hc1 : c.toInt < 65536) (hw0 : 0 ≤ w.toInt) (hw1 : w.toInt < 70368744177664) : 0 ≤ (c.toInt64 * w).toInt ∧ (c.toInt64 * w).toInt < 4611686018427387904 := by
  have h1 := c_lmul c.toInt64 w
  rw [c_i2l] at h1
  have r := rng64 (c.toInt64 * w)
  have m0 : 0 ≤ c.toInt * w.toInt := Int.mul_nonneg hc0 hw0
  have m1 : c.toInt * w.toInt ≤ 65535 * 70368744177663 := Int.mul_le_mul (by omega) (by omega) hw0 (by decide)
  generalize c.toInt * w.toInt = P at *
  generalize (c.toInt64 * w).toInt = Q at *
  omega
theorem own_key (cap cpu : Int64) (h0 : 0 ≤ cap.toInt) (h1 : cap.toInt < 4611686018427387904) (h2 : 0 ≤ cpu.toInt) (h3 : cpu.toInt < 4611686018427387904) : (cap < 2 * cpu ↔ cap / 2 < cpu) := by
  have e1 := c_lmul 2 cpu
  have e2 := (c_ldiv cap 2 2 rfl (by decide)).1 h0
  have r := rng64 (2 * cpu)
  have t2 : (2 : Int64).toInt = 2 := rfl
  rw [t2] at e1
  rw [Int64.lt_iff_toInt_lt, Int64.lt_iff_toInt_lt, e2]
  omega
theorem own_arm (c : Int32) (w cpu : Int64) (hc0 : 0 ≤ c.toInt) (hc1 : c.toInt < 65536) (hw0 : 0 ≤ w.toInt) (hw1 : w.toInt < 70368744177664) (h2 : 0 ≤ cpu.toInt) (h3 : cpu.toInt < 4611686018427387904) :
    (if own_lim cpu c w = (if c.toInt64 * w / 2 < cpu then (1 : Int32) else 0) then (1 : Int32) else 0) = 1 := by
  obtain ⟨k0, k1⟩ := own_cap c w hc0 hc1 hw0 hw1
  have k := own_key (c.toInt64 * w) cpu k0 k1 h2 h3
  unfold own_lim
  by_cases q : c.toInt64 * w / 2 < cpu
  · rw [if_pos q, if_pos (k.mpr q), if_pos rfl]
  · rw [if_neg q, if_neg (fun z => q (k.mp z)), if_pos rfl]
theorem own_c (p : Int32) : 0 ≤ (p &&& (65535 : Int32)).toInt ∧ (p &&& (65535 : Int32)).toInt < 65536 := by
  have := c_mask p 65535 16 (by decide) (by decide)
  rw [this]; omega
theorem own_w (q : Int64) : 0 ≤ (q &&& (70368744177663 : Int64)).toInt ∧ (q &&& (70368744177663 : Int64)).toInt < 70368744177664 := by
  have := c_maskL q 70368744177663 46 (by decide) (by decide)
  rw [this]; omega
theorem own_b (q : Int64) : 0 ≤ (q &&& (2305843009213693951 : Int64)).toInt ∧ (q &&& (2305843009213693951 : Int64)).toInt < 4611686018427387904 := by
  have := c_maskL q 2305843009213693951 61 (by decide) (by decide)
  rw [this]; omega
theorem own_a (cap : Int64) (p : Int32) (h0 : 0 ≤ cap.toInt) (h1 : cap.toInt < 4611686018427387904) : 0 ≤ (own_max (0 : Int64) (((cap / (2 : Int64)) + (p &&& (3 : Int32)).toInt64) - (1 : Int64))).toInt ∧ (own_max (0 : Int64) (((cap / (2 : Int64)) + (p &&& (3 : Int32)).toInt64) - (1 : Int64))).toInt < 4611686018427387904 := by
  have e2 := (c_ldiv cap 2 2 rfl (by decide)).1 h0
  have m := c_mask p 3 2 (by decide) (by decide)
  have a1 := c_ladd (cap / 2) (p &&& (3 : Int32)).toInt64
  have a2 := c_lsub ((cap / 2) + (p &&& (3 : Int32)).toInt64) 1
  have r1 := rng64 ((cap / 2) + (p &&& (3 : Int32)).toInt64)
  have r2 := rng64 (((cap / 2) + (p &&& (3 : Int32)).toInt64) - 1)
  rw [c_i2l, m] at a1
  have t1 : (1 : Int64).toInt = 1 := rfl
  rw [t1] at a2
  unfold own_max
  split
  · rename_i q
    rw [Int64.lt_iff_toInt_lt] at q
    have t0 : (0 : Int64).toInt = 0 := rfl
    omega
  · exact ⟨by decide, by decide⟩
theorem own_lawB (q1 q2 : Int64) (p3 : Int32) : (if own_lim (q1 &&& (2305843009213693951 : Int64)) (p3 &&& (65535 : Int32)) (q2 &&& (70368744177663 : Int64)) = (if ((p3 &&& (65535 : Int32)).toInt64 * (q2 &&& (70368744177663 : Int64))) / (2 : Int64) < (q1 &&& (2305843009213693951 : Int64)) then (1 : Int32) else (0 : Int32)) then (1 : Int32) else (0 : Int32)) = 1 :=
  own_arm _ _ _ (own_c p3).1 (own_c p3).2 (own_w q2).1 (own_w q2).2 (own_b q1).1 (own_b q1).2
theorem own_lawA (q2 : Int64) (p3 k : Int32) : (if own_lim (own_max (0 : Int64) (((((p3 &&& (65535 : Int32)).toInt64 * (q2 &&& (70368744177663 : Int64))) / (2 : Int64)) + (k &&& (3 : Int32)).toInt64) - (1 : Int64))) (p3 &&& (65535 : Int32)) (q2 &&& (70368744177663 : Int64)) = (if ((p3 &&& (65535 : Int32)).toInt64 * (q2 &&& (70368744177663 : Int64))) / (2 : Int64) < (own_max (0 : Int64) (((((p3 &&& (65535 : Int32)).toInt64 * (q2 &&& (70368744177663 : Int64))) / (2 : Int64)) + (k &&& (3 : Int32)).toInt64) - (1 : Int64))) then (1 : Int32) else (0 : Int32)) then (1 : Int32) else (0 : Int32)) = 1 := by
  have kc := own_cap _ _ (own_c p3).1 (own_c p3).2 (own_w q2).1 (own_w q2).2
  exact own_arm _ _ _ (own_c p3).1 (own_c p3).2 (own_w q2).1 (own_w q2).2 (own_a _ k kc.1 kc.2).1 (own_a _ k kc.1 kc.2).2

def Q_rm0 (Z : State) (q1 : Int64) (q2 : Int64) (p3 : Int32) (p4 : Int32) (q5 : Int64) (h0 : Heap) (n0 : Nat) (v : Option Value) (h : Heap) (L : List Loc) : Prop := v = some (.int (1 : Int32)) ∧ Fr n0 L
set_option maxRecDepth 65536 in
set_option maxHeartbeats 40000000 in
theorem rm0 (l : Launch) (Z : State) (a0 : Array Value) (hw : ∀ d ∈ tables_1, d.before a0 Z = true) (ws : List Jvm.Cond) (q1 : Int64) (q2 : Int64) (p3 : Int32) (p4 : Int32) (q5 : Int64) (h0 : Heap) (n0 : Nat) (Z0 : n0 ≤ h0.size) :
    MetFree l x (head1 (Jvm.Cond.code x code maxLocals ret :: ws) room_1) (fun a U => a = #[(.long q1), (.long q2), (.int p3), (.int p4), (.long q5)] ∧ Z.Warmed39 U.vm ∧ U.heap = h0) (fun _ _ _ _ _ => True) (fun _ U o U' => ∃ v L, o = .returned v ∧ Q_rm0 Z q1 q2 p3 p4 q5 h0 n0 v U'.heap L ∧ FrameEnd U o U' L room_1.cells room_1.slots) := by
  refine MetFree.of_bodySF (plainFor_of_name pn_2) hisR ?_
  intro p e s m args below meth c s₁ Bd hml0 hP hK
  obtain ⟨rfl, hZ, hh⟩ := hP
  have hx := Bd.exec
  have hby := Bd.bytes
  have hml : c.maxLocals = 19 := hml0
  have hown : s.vm.findClass "com/example/carrel/carrel/bench/LoadReportLimitedPinLaw" = some m.cls := findClass_of_methodNamed Bd.named
  have hnm := (name_of_methodNamed Bd.named Bd.method).1
  have X0 : Stand p l e room_1 s m #[(.long q1), (.long q2), (.int p3), (.int p4), (.long q5)] below meth c s₁ [] 0 0 := Stand.of_body Bd
  have e0 : s₁.heap = h0 := by rw [← hh, Bd.state]; rfl
  have N0 := Fr.nil n0
  have P0 : Rch p e below (s₁.setTop (entryFrame m #[(.long q1), (.long q2), (.int p3), (.int p4), (.long q5)] maxLocals)) (s₁.setTop (mkF m 0 #[.val (.long q1), .second, .val (.long q2), .second, .val (.int p3), .val (.int p4), .val (.long q5), .second, .unset, .unset, .unset, .unset, .unset, .unset, .unset, .unset, .unset, .unset, .unset] [])) := fun t k => castTop (by first | rfl | (simp [entryFrame, mkF, argsToLocals, Value.category, maxLocals]; done)) k
  obtain ⟨y1, hy1⟩ : ∃ z : Int64, z = (q2 &&& (70368744177663 : Int64)) := ⟨_, rfl⟩
  obtain ⟨x2, hx2⟩ : ∃ z : Int32, z = (p3 &&& (65535 : Int32)) := ⟨_, rfl⟩
  obtain ⟨y3, hy3⟩ : ∃ z : Int64, z = (((p3 &&& (65535 : Int32)).toInt64) * (q2 &&& (70368744177663 : Int64))) := ⟨_, rfl⟩
  have P4 : Rch p e below (s₁.setTop (entryFrame m #[(.long q1), (.long q2), (.int p3), (.int p4), (.long q5)] maxLocals)) (s₁.setTop (mkF m 22 #[.val (.long q1), .second, .val (.long q2), .second, .val (.int p3), .val (.int p4), .val (.long q5), .second, .val (.long y1), .second, .val (.int x2), .val (.long y3), .second, .unset, .unset, .unset, .unset, .unset, .unset] [])) := fun t k => P0 t (by
    subst hy1 hx2 hy3
    show Steps p.tables e below (s₁.setTop (mkF m 0 #[.val (.long q1), .second, .val (.long q2), .second, .val (.int p3), .val (.int p4), .val (.long q5), .second, .unset, .unset, .unset, .unset, .unset, .unset, .unset, .unset, .unset, .unset, .unset] [])) t
    refine XS.lloadN X0.here hx rfl (hb hby at_0) rfl ?_
    show Steps p.tables e below (s₁.setTop (mkF m 1 #[.val (.long q1), .second, .val (.long q2), .second, .val (.int p3), .val (.int p4), .val (.long q5), .second, .unset, .unset, .unset, .unset, .unset, .unset, .unset, .unset, .unset, .unset, .unset] [(.long q2)])) t
    refine X0.ldc2Long hx hown (mvT hZ (hw _ (List.mem_of_getElem? (i := 0) rfl))) (g := (mkF m 1 #[.val (.long q1), .second, .val (.long q2), .second, .val (.int p3), .val (.int p4), .val (.long q5), .second, .unset, .unset, .unset, .unset, .unset, .unset, .unset, .unset, .unset, .unset, .unset] [(.long q2)])) rfl (hb hby at_1) _ ?_
    show Steps p.tables e below (s₁.setTop (mkF m 4 #[.val (.long q1), .second, .val (.long q2), .second, .val (.int p3), .val (.int p4), .val (.long q5), .second, .unset, .unset, .unset, .unset, .unset, .unset, .unset, .unset, .unset, .unset, .unset] [(.long (70368744177663 : Int64)), (.long q2)])) t
    refine XS.land X0.here hx rfl (hb hby at_4) rfl ?_
    show Steps p.tables e below (s₁.setTop (mkF m 5 #[.val (.long q1), .second, .val (.long q2), .second, .val (.int p3), .val (.int p4), .val (.long q5), .second, .unset, .unset, .unset, .unset, .unset, .unset, .unset, .unset, .unset, .unset, .unset] [(.long (q2 &&& (70368744177663 : Int64)))])) t
    refine XS.lstore X0.here hx rfl (hb hby at_5) rfl (l' := #[.val (.long q1), .second, .val (.long q2), .second, .val (.int p3), .val (.int p4), .val (.long q5), .second, .val (.long (q2 &&& (70368744177663 : Int64))), .second, .unset, .unset, .unset, .unset, .unset, .unset, .unset, .unset, .unset]) rfl ?_
    show Steps p.tables e below (s₁.setTop (mkF m 7 #[.val (.long q1), .second, .val (.long q2), .second, .val (.int p3), .val (.int p4), .val (.long q5), .second, .val (.long (q2 &&& (70368744177663 : Int64))), .second, .unset, .unset, .unset, .unset, .unset, .unset, .unset, .unset, .unset] [])) t
    refine XS.iload X0.here hx rfl (hb hby at_7) rfl ?_
    show Steps p.tables e below (s₁.setTop (mkF m 9 #[.val (.long q1), .second, .val (.long q2), .second, .val (.int p3), .val (.int p4), .val (.long q5), .second, .val (.long (q2 &&& (70368744177663 : Int64))), .second, .unset, .unset, .unset, .unset, .unset, .unset, .unset, .unset, .unset] [(.int p3)])) t
    refine X0.ldcInt hx hown (mvT hZ (hw _ (List.mem_of_getElem? (i := 1) rfl))) (g := (mkF m 9 #[.val (.long q1), .second, .val (.long q2), .second, .val (.int p3), .val (.int p4), .val (.long q5), .second, .val (.long (q2 &&& (70368744177663 : Int64))), .second, .unset, .unset, .unset, .unset, .unset, .unset, .unset, .unset, .unset] [(.int p3)])) rfl (hb hby at_9) _ ?_
    show Steps p.tables e below (s₁.setTop (mkF m 11 #[.val (.long q1), .second, .val (.long q2), .second, .val (.int p3), .val (.int p4), .val (.long q5), .second, .val (.long (q2 &&& (70368744177663 : Int64))), .second, .unset, .unset, .unset, .unset, .unset, .unset, .unset, .unset, .unset] [(.int (65535 : Int32)), (.int p3)])) t
    refine XS.iand X0.here hx rfl (hb hby at_11) rfl ?_
    show Steps p.tables e below (s₁.setTop (mkF m 12 #[.val (.long q1), .second, .val (.long q2), .second, .val (.int p3), .val (.int p4), .val (.long q5), .second, .val (.long (q2 &&& (70368744177663 : Int64))), .second, .unset, .unset, .unset, .unset, .unset, .unset, .unset, .unset, .unset] [(.int (p3 &&& (65535 : Int32)))])) t
    refine XS.istore X0.here hx rfl (hb hby at_12) rfl (l' := #[.val (.long q1), .second, .val (.long q2), .second, .val (.int p3), .val (.int p4), .val (.long q5), .second, .val (.long (q2 &&& (70368744177663 : Int64))), .second, .val (.int (p3 &&& (65535 : Int32))), .unset, .unset, .unset, .unset, .unset, .unset, .unset, .unset]) rfl ?_
    show Steps p.tables e below (s₁.setTop (mkF m 14 #[.val (.long q1), .second, .val (.long q2), .second, .val (.int p3), .val (.int p4), .val (.long q5), .second, .val (.long (q2 &&& (70368744177663 : Int64))), .second, .val (.int (p3 &&& (65535 : Int32))), .unset, .unset, .unset, .unset, .unset, .unset, .unset, .unset] [])) t
    refine XS.iload X0.here hx rfl (hb hby at_14) rfl ?_
    show Steps p.tables e below (s₁.setTop (mkF m 16 #[.val (.long q1), .second, .val (.long q2), .second, .val (.int p3), .val (.int p4), .val (.long q5), .second, .val (.long (q2 &&& (70368744177663 : Int64))), .second, .val (.int (p3 &&& (65535 : Int32))), .unset, .unset, .unset, .unset, .unset, .unset, .unset, .unset] [(.int (p3 &&& (65535 : Int32)))])) t
    refine XS.i2l X0.here hx rfl (hb hby at_16) rfl ?_
    show Steps p.tables e below (s₁.setTop (mkF m 17 #[.val (.long q1), .second, .val (.long q2), .second, .val (.int p3), .val (.int p4), .val (.long q5), .second, .val (.long (q2 &&& (70368744177663 : Int64))), .second, .val (.int (p3 &&& (65535 : Int32))), .unset, .unset, .unset, .unset, .unset, .unset, .unset, .unset] [(.long ((p3 &&& (65535 : Int32)).toInt64))])) t
    refine XS.lload X0.here hx rfl (hb hby at_17) rfl ?_
    show Steps p.tables e below (s₁.setTop (mkF m 19 #[.val (.long q1), .second, .val (.long q2), .second, .val (.int p3), .val (.int p4), .val (.long q5), .second, .val (.long (q2 &&& (70368744177663 : Int64))), .second, .val (.int (p3 &&& (65535 : Int32))), .unset, .unset, .unset, .unset, .unset, .unset, .unset, .unset] [(.long (q2 &&& (70368744177663 : Int64))), (.long ((p3 &&& (65535 : Int32)).toInt64))])) t
    refine XS.lmul X0.here hx rfl (hb hby at_19) rfl ?_
    show Steps p.tables e below (s₁.setTop (mkF m 20 #[.val (.long q1), .second, .val (.long q2), .second, .val (.int p3), .val (.int p4), .val (.long q5), .second, .val (.long (q2 &&& (70368744177663 : Int64))), .second, .val (.int (p3 &&& (65535 : Int32))), .unset, .unset, .unset, .unset, .unset, .unset, .unset, .unset] [(.long (((p3 &&& (65535 : Int32)).toInt64) * (q2 &&& (70368744177663 : Int64))))])) t
    refine XS.lstore X0.here hx rfl (hb hby at_20) rfl (l' := #[.val (.long q1), .second, .val (.long q2), .second, .val (.int p3), .val (.int p4), .val (.long q5), .second, .val (.long (q2 &&& (70368744177663 : Int64))), .second, .val (.int (p3 &&& (65535 : Int32))), .val (.long (((p3 &&& (65535 : Int32)).toInt64) * (q2 &&& (70368744177663 : Int64)))), .second, .unset, .unset, .unset, .unset, .unset, .unset]) rfl ?_
    exact k)
  obtain ⟨y5, hy5⟩ : ∃ z : Int64, z = (y3 / (2 : Int64)) := ⟨_, rfl⟩
  obtain ⟨x6, hx6⟩ : ∃ z : Int32, z = (p4 &&& (1 : Int32)) := ⟨_, rfl⟩
  have P7 : Rch p e below (s₁.setTop (entryFrame m #[(.long q1), (.long q2), (.int p3), (.int p4), (.long q5)] maxLocals)) (s₁.setTop (mkF m 34 #[.val (.long q1), .second, .val (.long q2), .second, .val (.int p3), .val (.int p4), .val (.long q5), .second, .val (.long y1), .second, .val (.int x2), .val (.long y3), .second, .val (.long y5), .second, .unset, .unset, .unset, .unset] [(.int x6)])) := fun t k => P4 t (by
    subst hy5 hx6
    show Steps p.tables e below (s₁.setTop (mkF m 22 #[.val (.long q1), .second, .val (.long q2), .second, .val (.int p3), .val (.int p4), .val (.long q5), .second, .val (.long y1), .second, .val (.int x2), .val (.long y3), .second, .unset, .unset, .unset, .unset, .unset, .unset] [])) t
    refine XS.lload X0.here hx rfl (hb hby at_22) rfl ?_
    show Steps p.tables e below (s₁.setTop (mkF m 24 #[.val (.long q1), .second, .val (.long q2), .second, .val (.int p3), .val (.int p4), .val (.long q5), .second, .val (.long y1), .second, .val (.int x2), .val (.long y3), .second, .unset, .unset, .unset, .unset, .unset, .unset] [(.long y3)])) t
    refine X0.ldc2Long hx hown (mvT hZ (hw _ (List.mem_of_getElem? (i := 2) rfl))) (g := (mkF m 24 #[.val (.long q1), .second, .val (.long q2), .second, .val (.int p3), .val (.int p4), .val (.long q5), .second, .val (.long y1), .second, .val (.int x2), .val (.long y3), .second, .unset, .unset, .unset, .unset, .unset, .unset] [(.long y3)])) rfl (hb hby at_24) _ ?_
    show Steps p.tables e below (s₁.setTop (mkF m 27 #[.val (.long q1), .second, .val (.long q2), .second, .val (.int p3), .val (.int p4), .val (.long q5), .second, .val (.long y1), .second, .val (.int x2), .val (.long y3), .second, .unset, .unset, .unset, .unset, .unset, .unset] [(.long (2 : Int64)), (.long y3)])) t
    refine XS.ldiv X0.here hx rfl (hb hby at_27) rfl (by decide) ?_
    show Steps p.tables e below (s₁.setTop (mkF m 28 #[.val (.long q1), .second, .val (.long q2), .second, .val (.int p3), .val (.int p4), .val (.long q5), .second, .val (.long y1), .second, .val (.int x2), .val (.long y3), .second, .unset, .unset, .unset, .unset, .unset, .unset] [(.long (y3 / (2 : Int64)))])) t
    refine XS.lstore X0.here hx rfl (hb hby at_28) rfl (l' := #[.val (.long q1), .second, .val (.long q2), .second, .val (.int p3), .val (.int p4), .val (.long q5), .second, .val (.long y1), .second, .val (.int x2), .val (.long y3), .second, .val (.long (y3 / (2 : Int64))), .second, .unset, .unset, .unset, .unset]) rfl ?_
    show Steps p.tables e below (s₁.setTop (mkF m 30 #[.val (.long q1), .second, .val (.long q2), .second, .val (.int p3), .val (.int p4), .val (.long q5), .second, .val (.long y1), .second, .val (.int x2), .val (.long y3), .second, .val (.long (y3 / (2 : Int64))), .second, .unset, .unset, .unset, .unset] [])) t
    refine XS.iload X0.here hx rfl (hb hby at_30) rfl ?_
    show Steps p.tables e below (s₁.setTop (mkF m 32 #[.val (.long q1), .second, .val (.long q2), .second, .val (.int p3), .val (.int p4), .val (.long q5), .second, .val (.long y1), .second, .val (.int x2), .val (.long y3), .second, .val (.long (y3 / (2 : Int64))), .second, .unset, .unset, .unset, .unset] [(.int p4)])) t
    refine XS.iconst X0.here hx rfl (hb hby at_32) ?_
    show Steps p.tables e below (s₁.setTop (mkF m 33 #[.val (.long q1), .second, .val (.long q2), .second, .val (.int p3), .val (.int p4), .val (.long q5), .second, .val (.long y1), .second, .val (.int x2), .val (.long y3), .second, .val (.long (y3 / (2 : Int64))), .second, .unset, .unset, .unset, .unset] [(.int (1 : Int32)), (.int p4)])) t
    refine XS.iand X0.here hx rfl (hb hby at_33) rfl ?_
    exact k)
  by_cases c8 : x6 = (0 : Int32)
  · obtain ⟨y9, hy9⟩ : ∃ z : Int64, z = (q1 &&& (2305843009213693951 : Int64)) := ⟨_, rfl⟩
    have P10 : Rch p e below (s₁.setTop (entryFrame m #[(.long q1), (.long q2), (.int p3), (.int p4), (.long q5)] maxLocals)) (s₁.setTop (mkF m 65 #[.val (.long q1), .second, .val (.long q2), .second, .val (.int p3), .val (.int p4), .val (.long q5), .second, .val (.long y1), .second, .val (.int x2), .val (.long y3), .second, .val (.long y5), .second, .val (.long y9), .second, .unset, .unset] [])) := fun t k => P7 t (by
      subst hy9
      show Steps p.tables e below (s₁.setTop (mkF m 34 #[.val (.long q1), .second, .val (.long q2), .second, .val (.int p3), .val (.int p4), .val (.long q5), .second, .val (.long y1), .second, .val (.int x2), .val (.long y3), .second, .val (.long y5), .second, .unset, .unset, .unset, .unset] [(.int x6)])) t
      refine XS.ifYes X0.here hx rfl (pc0 := 34) (pc' := 58) rfl (hb hby at_34) rfl ((if0 _ _).trans (teq c8).1) (by decide) (by decide) ?_
      show Steps p.tables e below (s₁.setTop (mkF m 58 #[.val (.long q1), .second, .val (.long q2), .second, .val (.int p3), .val (.int p4), .val (.long q5), .second, .val (.long y1), .second, .val (.int x2), .val (.long y3), .second, .val (.long y5), .second, .unset, .unset, .unset, .unset] [])) t
      refine XS.lloadN X0.here hx rfl (hb hby at_58) rfl ?_
      show Steps p.tables e below (s₁.setTop (mkF m 59 #[.val (.long q1), .second, .val (.long q2), .second, .val (.int p3), .val (.int p4), .val (.long q5), .second, .val (.long y1), .second, .val (.int x2), .val (.long y3), .second, .val (.long y5), .second, .unset, .unset, .unset, .unset] [(.long q1)])) t
      refine X0.ldc2Long hx hown (mvT hZ (hw _ (List.mem_of_getElem? (i := 41) rfl))) (g := (mkF m 59 #[.val (.long q1), .second, .val (.long q2), .second, .val (.int p3), .val (.int p4), .val (.long q5), .second, .val (.long y1), .second, .val (.int x2), .val (.long y3), .second, .val (.long y5), .second, .unset, .unset, .unset, .unset] [(.long q1)])) rfl (hb hby at_59) _ ?_
      show Steps p.tables e below (s₁.setTop (mkF m 62 #[.val (.long q1), .second, .val (.long q2), .second, .val (.int p3), .val (.int p4), .val (.long q5), .second, .val (.long y1), .second, .val (.int x2), .val (.long y3), .second, .val (.long y5), .second, .unset, .unset, .unset, .unset] [(.long (2305843009213693951 : Int64)), (.long q1)])) t
      refine XS.land X0.here hx rfl (hb hby at_62) rfl ?_
      show Steps p.tables e below (s₁.setTop (mkF m 63 #[.val (.long q1), .second, .val (.long q2), .second, .val (.int p3), .val (.int p4), .val (.long q5), .second, .val (.long y1), .second, .val (.int x2), .val (.long y3), .second, .val (.long y5), .second, .unset, .unset, .unset, .unset] [(.long (q1 &&& (2305843009213693951 : Int64)))])) t
      refine XS.lstore X0.here hx rfl (hb hby at_63) rfl (l' := #[.val (.long q1), .second, .val (.long q2), .second, .val (.int p3), .val (.int p4), .val (.long q5), .second, .val (.long y1), .second, .val (.int x2), .val (.long y3), .second, .val (.long y5), .second, .val (.long (q1 &&& (2305843009213693951 : Int64))), .second, .unset, .unset]) rfl ?_
      exact k)
    obtain ⟨T11, h11, X11, e11, E11, A11, D11, -, st11⟩ := newO X0 hx hZ hown (hw _ (List.mem_of_getElem? (i := 7) rfl)) (hw _ (List.mem_of_getElem? (i := 8) rfl)) (hw _ (List.mem_of_getElem? (i := 9) rfl)) e0 (g := (mkF m 65 #[.val (.long q1), .second, .val (.long q2), .second, .val (.int p3), .val (.int p4), .val (.long q5), .second, .val (.long y1), .second, .val (.int x2), .val (.long y3), .second, .val (.long y5), .second, .val (.long y9), .second, .unset, .unset] [])) rfl (hb hby at_65) (by decide) (by decide)
    obtain ⟨b11, g11⟩ : ∃ z, z = h0.size := ⟨_, rfl⟩
    rw [← g11] at A11 D11 st11
    have g_b11 : n0 ≤ b11 := Nat.le_trans Z0 (Nat.le_of_eq g11.symm)
    have sz_b11 : h0.size ≤ b11 := Nat.le_trans (Keep.refl h0 []).1 (Nat.le_of_eq g11.symm)
    have F11_24 : Fld Z h11 b11 "com/example/carrel/carrel/bench/LoadReport" "rounds" "J" (.long (0 : Int64)) := D11 (Or.inr (hw _ (List.mem_of_getElem? (i := 24) rfl))) (ty := .long) (by decide)
    have F11_26 : Fld Z h11 b11 "com/example/carrel/carrel/bench/LoadReport" "wallNanos" "J" (.long (0 : Int64)) := D11 (Or.inr (hw _ (List.mem_of_getElem? (i := 26) rfl))) (ty := .long) (by decide)
    have F11_28 : Fld Z h11 b11 "com/example/carrel/carrel/bench/LoadReport" "cpuNanos" "J" (.long (0 : Int64)) := D11 (Or.inr (hw _ (List.mem_of_getElem? (i := 28) rfl))) (ty := .long) (by decide)
    have F11_30 : Fld Z h11 b11 "com/example/carrel/carrel/bench/LoadReport" "cores" "I" (.int (0 : Int32)) := D11 (Or.inr (hw _ (List.mem_of_getElem? (i := 30) rfl))) (ty := .int) (by decide)
    have F11_32 : Fld Z h11 b11 "com/example/carrel/carrel/bench/LoadReport" "unexpected" "J" (.long (0 : Int64)) := D11 (Or.inr (hw _ (List.mem_of_getElem? (i := 32) rfl))) (ty := .long) (by decide)
    have F11_34 : Fld Z h11 b11 "com/example/carrel/carrel/bench/LoadReport" "withoutRecord" "J" (.long (0 : Int64)) := D11 (Or.inr (hw _ (List.mem_of_getElem? (i := 34) rfl))) (ty := .long) (by decide)
    have P12 : Rch p e below (s₁.setTop (entryFrame m #[(.long q1), (.long q2), (.int p3), (.int p4), (.long q5)] maxLocals)) (T11.setTop (mkF m 68 #[.val (.long q1), .second, .val (.long q2), .second, .val (.int p3), .val (.int p4), .val (.long q5), .second, .val (.long y1), .second, .val (.int x2), .val (.long y3), .second, .val (.long y5), .second, .val (.long y9), .second, .unset, .unset] [(.ref b11)])) := fun t k => P10 t (st11 t k)
    obtain ⟨y13, hy13⟩ : ∃ z : Int64, z = (q5 ^^^ (5 : Int64)) := ⟨_, rfl⟩
    obtain ⟨y14, hy14⟩ : ∃ z : Int64, z = (q5 ^^^ (-1 : Int64)) := ⟨_, rfl⟩
    have P15 : Rch p e below (s₁.setTop (entryFrame m #[(.long q1), (.long q2), (.int p3), (.int p4), (.long q5)] maxLocals)) (T11.setTop (mkF m 89 #[.val (.long q1), .second, .val (.long q2), .second, .val (.int p3), .val (.int p4), .val (.long q5), .second, .val (.long y1), .second, .val (.int x2), .val (.long y3), .second, .val (.long y5), .second, .val (.long y9), .second, .unset, .unset] [(.long y13), (.long y14), (.int x2), (.long y9), (.long y1), (.long q5), (.ref b11), (.ref b11)])) := fun t k => P12 t (by
      subst hy13 hy14
      show Steps p.tables e below (T11.setTop (mkF m 68 #[.val (.long q1), .second, .val (.long q2), .second, .val (.int p3), .val (.int p4), .val (.long q5), .second, .val (.long y1), .second, .val (.int x2), .val (.long y3), .second, .val (.long y5), .second, .val (.long y9), .second, .unset, .unset] [(.ref b11)])) t
      refine XS.dup X11.here hx rfl (hb hby at_68) rfl rfl ?_
      show Steps p.tables e below (T11.setTop (mkF m 69 #[.val (.long q1), .second, .val (.long q2), .second, .val (.int p3), .val (.int p4), .val (.long q5), .second, .val (.long y1), .second, .val (.int x2), .val (.long y3), .second, .val (.long y5), .second, .val (.long y9), .second, .unset, .unset] [(.ref b11), (.ref b11)])) t
      refine XS.lload X11.here hx rfl (hb hby at_69) rfl ?_
      show Steps p.tables e below (T11.setTop (mkF m 71 #[.val (.long q1), .second, .val (.long q2), .second, .val (.int p3), .val (.int p4), .val (.long q5), .second, .val (.long y1), .second, .val (.int x2), .val (.long y3), .second, .val (.long y5), .second, .val (.long y9), .second, .unset, .unset] [(.long q5), (.ref b11), (.ref b11)])) t
      refine XS.lload X11.here hx rfl (hb hby at_71) rfl ?_
      show Steps p.tables e below (T11.setTop (mkF m 73 #[.val (.long q1), .second, .val (.long q2), .second, .val (.int p3), .val (.int p4), .val (.long q5), .second, .val (.long y1), .second, .val (.int x2), .val (.long y3), .second, .val (.long y5), .second, .val (.long y9), .second, .unset, .unset] [(.long y1), (.long q5), (.ref b11), (.ref b11)])) t
      refine XS.lload X11.here hx rfl (hb hby at_73) rfl ?_
      show Steps p.tables e below (T11.setTop (mkF m 75 #[.val (.long q1), .second, .val (.long q2), .second, .val (.int p3), .val (.int p4), .val (.long q5), .second, .val (.long y1), .second, .val (.int x2), .val (.long y3), .second, .val (.long y5), .second, .val (.long y9), .second, .unset, .unset] [(.long y9), (.long y1), (.long q5), (.ref b11), (.ref b11)])) t
      refine XS.iload X11.here hx rfl (hb hby at_75) rfl ?_
      show Steps p.tables e below (T11.setTop (mkF m 77 #[.val (.long q1), .second, .val (.long q2), .second, .val (.int p3), .val (.int p4), .val (.long q5), .second, .val (.long y1), .second, .val (.int x2), .val (.long y3), .second, .val (.long y5), .second, .val (.long y9), .second, .unset, .unset] [(.int x2), (.long y9), (.long y1), (.long q5), (.ref b11), (.ref b11)])) t
      refine XS.lload X11.here hx rfl (hb hby at_77) rfl ?_
      show Steps p.tables e below (T11.setTop (mkF m 79 #[.val (.long q1), .second, .val (.long q2), .second, .val (.int p3), .val (.int p4), .val (.long q5), .second, .val (.long y1), .second, .val (.int x2), .val (.long y3), .second, .val (.long y5), .second, .val (.long y9), .second, .unset, .unset] [(.long q5), (.int x2), (.long y9), (.long y1), (.long q5), (.ref b11), (.ref b11)])) t
      refine X11.ldc2Long hx hown (mvT hZ (hw _ (List.mem_of_getElem? (i := 10) rfl))) (g := (mkF m 79 #[.val (.long q1), .second, .val (.long q2), .second, .val (.int p3), .val (.int p4), .val (.long q5), .second, .val (.long y1), .second, .val (.int x2), .val (.long y3), .second, .val (.long y5), .second, .val (.long y9), .second, .unset, .unset] [(.long q5), (.int x2), (.long y9), (.long y1), (.long q5), (.ref b11), (.ref b11)])) rfl (hb hby at_79) _ ?_
      show Steps p.tables e below (T11.setTop (mkF m 82 #[.val (.long q1), .second, .val (.long q2), .second, .val (.int p3), .val (.int p4), .val (.long q5), .second, .val (.long y1), .second, .val (.int x2), .val (.long y3), .second, .val (.long y5), .second, .val (.long y9), .second, .unset, .unset] [(.long (-1 : Int64)), (.long q5), (.int x2), (.long y9), (.long y1), (.long q5), (.ref b11), (.ref b11)])) t
      refine XS.lxor X11.here hx rfl (hb hby at_82) rfl ?_
      show Steps p.tables e below (T11.setTop (mkF m 83 #[.val (.long q1), .second, .val (.long q2), .second, .val (.int p3), .val (.int p4), .val (.long q5), .second, .val (.long y1), .second, .val (.int x2), .val (.long y3), .second, .val (.long y5), .second, .val (.long y9), .second, .unset, .unset] [(.long (q5 ^^^ (-1 : Int64))), (.int x2), (.long y9), (.long y1), (.long q5), (.ref b11), (.ref b11)])) t
      refine XS.lload X11.here hx rfl (hb hby at_83) rfl ?_
      show Steps p.tables e below (T11.setTop (mkF m 85 #[.val (.long q1), .second, .val (.long q2), .second, .val (.int p3), .val (.int p4), .val (.long q5), .second, .val (.long y1), .second, .val (.int x2), .val (.long y3), .second, .val (.long y5), .second, .val (.long y9), .second, .unset, .unset] [(.long q5), (.long (q5 ^^^ (-1 : Int64))), (.int x2), (.long y9), (.long y1), (.long q5), (.ref b11), (.ref b11)])) t
      refine X11.ldc2Long hx hown (mvT hZ (hw _ (List.mem_of_getElem? (i := 11) rfl))) (g := (mkF m 85 #[.val (.long q1), .second, .val (.long q2), .second, .val (.int p3), .val (.int p4), .val (.long q5), .second, .val (.long y1), .second, .val (.int x2), .val (.long y3), .second, .val (.long y5), .second, .val (.long y9), .second, .unset, .unset] [(.long q5), (.long (q5 ^^^ (-1 : Int64))), (.int x2), (.long y9), (.long y1), (.long q5), (.ref b11), (.ref b11)])) rfl (hb hby at_85) _ ?_
      show Steps p.tables e below (T11.setTop (mkF m 88 #[.val (.long q1), .second, .val (.long q2), .second, .val (.int p3), .val (.int p4), .val (.long q5), .second, .val (.long y1), .second, .val (.int x2), .val (.long y3), .second, .val (.long y5), .second, .val (.long y9), .second, .unset, .unset] [(.long (5 : Int64)), (.long q5), (.long (q5 ^^^ (-1 : Int64))), (.int x2), (.long y9), (.long y1), (.long q5), (.ref b11), (.ref b11)])) t
      refine XS.lxor X11.here hx rfl (hb hby at_88) rfl ?_
      exact k)
    have f17 : n0 ≤ h11.size := (Nat.le_trans Z0 E11.1)
    obtain ⟨_, _, ⟨T16, L16, k16, n16⟩, -, X16, ⟨Lc16, hQ16, l16, y16, z16⟩, st16⟩ := X11.specialBack hx (y := (⟨"com/example/carrel/carrel/bench/LoadReport", "<init>", "(JJJIJJ)V"⟩ : MethodName)) rfl hown (mvT hZ (hw _ (List.mem_of_getElem? (i := 12) rfl))) (mvT hZ (hw _ (List.mem_of_getElem? (i := 13) rfl))) (mvT hZ (hw _ (List.mem_of_getElem? (i := 14) rfl))) (by decide) (backOf (W := 1) (rmI l Z a0 hw [] b11 q5 y1 y9 x2 y14 y13 h11 n0 f17 A11 g_b11 F11_24 F11_26 F11_28 F11_30 F11_32 F11_34) hZ (hw _ (List.mem_of_getElem? (i := 14) rfl)) (hw _ (List.mem_of_getElem? (i := 9) rfl)) (by decide) (by decide)) (g := (mkF m 89 #[.val (.long q1), .second, .val (.long q2), .second, .val (.int p3), .val (.int p4), .val (.long q5), .second, .val (.long y1), .second, .val (.int x2), .val (.long y3), .second, .val (.long y5), .second, .val (.long y9), .second, .unset, .unset] [(.long y13), (.long y14), (.int x2), (.long y9), (.long y1), (.long q5), (.ref b11), (.ref b11)])) rfl (by rw [hml]; rfl) (Steps.refl _) (a := b11) (argsL := [(.long q5), (.long y1), (.long y9), (.int x2), (.long y14), (.long y13)]) (rest := [(.ref b11)]) (lenOf pd_1 rfl) rfl (by show 2 * 0 + _ ≤ _; exact Nat.le_of_eq rfl) (hb hby at_89) (fun _ _ => ⟨rfl, e11, (by decide : 1 + 0 ≤ _), (by decide : 6 + 0 ≤ _)⟩)
    dsimp only [Pt.U, Pt.locs, Pt.cells, Pt.slots] at X16 l16 y16 z16 st16 hQ16
    subst l16 y16 z16
    obtain ⟨rfl, N16q, K16, E_16, G0_16, G1_16, G2_16, G3_16, G4_16, G5_16⟩ := hQ16
    have N16 := Fr.app N0 N16q
    have P18 : Rch p e below (s₁.setTop (entryFrame m #[(.long q1), (.long q2), (.int p3), (.int p4), (.long q5)] maxLocals)) (T16.setTop (mkF m 92 #[.val (.long q1), .second, .val (.long q2), .second, .val (.int p3), .val (.int p4), .val (.long q5), .second, .val (.long y1), .second, .val (.int x2), .val (.long y3), .second, .val (.long y5), .second, .val (.long y9), .second, .unset, .unset] [(.ref b11)])) := fun t k => P15 t (st16.trans k)
    have P19 : Rch p e below (s₁.setTop (entryFrame m #[(.long q1), (.long q2), (.int p3), (.int p4), (.long q5)] maxLocals)) (T16.setTop (mkF m 99 #[.val (.long q1), .second, .val (.long q2), .second, .val (.int p3), .val (.int p4), .val (.long q5), .second, .val (.long y1), .second, .val (.int x2), .val (.long y3), .second, .val (.long y5), .second, .val (.long y9), .second, .val (.ref b11), .unset] [(.int (lcmpW y9 y5))])) := fun t k => P18 t (by
      show Steps p.tables e below (T16.setTop (mkF m 92 #[.val (.long q1), .second, .val (.long q2), .second, .val (.int p3), .val (.int p4), .val (.long q5), .second, .val (.long y1), .second, .val (.int x2), .val (.long y3), .second, .val (.long y5), .second, .val (.long y9), .second, .unset, .unset] [(.ref b11)])) t
      refine XS.astore X16.here hx rfl (hb hby at_92) rfl rfl (l' := #[.val (.long q1), .second, .val (.long q2), .second, .val (.int p3), .val (.int p4), .val (.long q5), .second, .val (.long y1), .second, .val (.int x2), .val (.long y3), .second, .val (.long y5), .second, .val (.long y9), .second, .val (.ref b11), .unset]) rfl ?_
      show Steps p.tables e below (T16.setTop (mkF m 94 #[.val (.long q1), .second, .val (.long q2), .second, .val (.int p3), .val (.int p4), .val (.long q5), .second, .val (.long y1), .second, .val (.int x2), .val (.long y3), .second, .val (.long y5), .second, .val (.long y9), .second, .val (.ref b11), .unset] [])) t
      refine XS.lload X16.here hx rfl (hb hby at_94) rfl ?_
      show Steps p.tables e below (T16.setTop (mkF m 96 #[.val (.long q1), .second, .val (.long q2), .second, .val (.int p3), .val (.int p4), .val (.long q5), .second, .val (.long y1), .second, .val (.int x2), .val (.long y3), .second, .val (.long y5), .second, .val (.long y9), .second, .val (.ref b11), .unset] [(.long y9)])) t
      refine XS.lload X16.here hx rfl (hb hby at_96) rfl ?_
      show Steps p.tables e below (T16.setTop (mkF m 98 #[.val (.long q1), .second, .val (.long q2), .second, .val (.int p3), .val (.int p4), .val (.long q5), .second, .val (.long y1), .second, .val (.int x2), .val (.long y3), .second, .val (.long y5), .second, .val (.long y9), .second, .val (.ref b11), .unset] [(.long y5), (.long y9)])) t
      refine XS.lcmp X16.here hx rfl (hb hby at_98) rfl ?_
      exact k)
    obtain ⟨v21, hv21, P22⟩ : ∃ (v21 : Int32), v21 = (if y5 < y9 then (1 : Int32) else (0 : Int32)) ∧ Rch p e below (s₁.setTop (entryFrame m #[(.long q1), (.long q2), (.int p3), (.int p4), (.long q5)] maxLocals)) (T16.setTop (mkF m 107 #[.val (.long q1), .second, .val (.long q2), .second, .val (.int p3), .val (.int p4), .val (.long q5), .second, .val (.long y1), .second, .val (.int x2), .val (.long y3), .second, .val (.long y5), .second, .val (.long y9), .second, .val (.ref b11), .unset] [(.int v21)])) := by
      by_cases c20 : y5 < y9
      · refine ⟨(1 : Int32), (by first | rfl | rw [if_pos c20] | simp only [if_pos c20]), fun t k => P19 t ?_⟩
        show Steps p.tables e below (T16.setTop (mkF m 99 #[.val (.long q1), .second, .val (.long q2), .second, .val (.int p3), .val (.int p4), .val (.long q5), .second, .val (.long y1), .second, .val (.int x2), .val (.long y3), .second, .val (.long y5), .second, .val (.long y9), .second, .val (.ref b11), .unset] [(.int (lcmpW y9 y5))])) t
        refine XS.ifNo X16.here hx rfl (hb hby at_99) rfl ((if0 _ _).trans (tlt ((lw_gt y9 y5).mpr c20)).2.2.2) ?_
        show Steps p.tables e below (T16.setTop (mkF m 102 #[.val (.long q1), .second, .val (.long q2), .second, .val (.int p3), .val (.int p4), .val (.long q5), .second, .val (.long y1), .second, .val (.int x2), .val (.long y3), .second, .val (.long y5), .second, .val (.long y9), .second, .val (.ref b11), .unset] [])) t
        refine XS.iconst X16.here hx rfl (hb hby at_102) ?_
        show Steps p.tables e below (T16.setTop (mkF m 103 #[.val (.long q1), .second, .val (.long q2), .second, .val (.int p3), .val (.int p4), .val (.long q5), .second, .val (.long y1), .second, .val (.int x2), .val (.long y3), .second, .val (.long y5), .second, .val (.long y9), .second, .val (.ref b11), .unset] [(.int (1 : Int32))])) t
        refine XS.goto X16.here hx rfl (pc0 := 103) (pc' := 107) rfl (hb hby at_103) (by decide) (by decide) ?_
        exact k
      · refine ⟨(0 : Int32), (by first | rfl | rw [if_neg c20] | simp only [if_neg c20]), fun t k => P19 t ?_⟩
        show Steps p.tables e below (T16.setTop (mkF m 99 #[.val (.long q1), .second, .val (.long q2), .second, .val (.int p3), .val (.int p4), .val (.long q5), .second, .val (.long y1), .second, .val (.int x2), .val (.long y3), .second, .val (.long y5), .second, .val (.long y9), .second, .val (.ref b11), .unset] [(.int (lcmpW y9 y5))])) t
        refine XS.ifYes X16.here hx rfl (pc0 := 99) (pc' := 106) rfl (hb hby at_99) rfl ((if0 _ _).trans (flt (fun q_ => c20 ((lw_gt y9 y5).mp q_))).2.2.2) (by decide) (by decide) ?_
        show Steps p.tables e below (T16.setTop (mkF m 106 #[.val (.long q1), .second, .val (.long q2), .second, .val (.int p3), .val (.int p4), .val (.long q5), .second, .val (.long y1), .second, .val (.int x2), .val (.long y3), .second, .val (.long y5), .second, .val (.long y9), .second, .val (.ref b11), .unset] [])) t
        refine XS.iconst X16.here hx rfl (hb hby at_106) ?_
        exact k
    have P23 : Rch p e below (s₁.setTop (entryFrame m #[(.long q1), (.long q2), (.int p3), (.int p4), (.long q5)] maxLocals)) (T16.setTop (mkF m 111 #[.val (.long q1), .second, .val (.long q2), .second, .val (.int p3), .val (.int p4), .val (.long q5), .second, .val (.long y1), .second, .val (.int x2), .val (.long y3), .second, .val (.long y5), .second, .val (.long y9), .second, .val (.ref b11), .val (.int v21)] [(.ref b11)])) := fun t k => P22 t (by
      show Steps p.tables e below (T16.setTop (mkF m 107 #[.val (.long q1), .second, .val (.long q2), .second, .val (.int p3), .val (.int p4), .val (.long q5), .second, .val (.long y1), .second, .val (.int x2), .val (.long y3), .second, .val (.long y5), .second, .val (.long y9), .second, .val (.ref b11), .unset] [(.int v21)])) t
      refine XS.istore X16.here hx rfl (hb hby at_107) rfl (l' := #[.val (.long q1), .second, .val (.long q2), .second, .val (.int p3), .val (.int p4), .val (.long q5), .second, .val (.long y1), .second, .val (.int x2), .val (.long y3), .second, .val (.long y5), .second, .val (.long y9), .second, .val (.ref b11), .val (.int v21)]) rfl ?_
      show Steps p.tables e below (T16.setTop (mkF m 109 #[.val (.long q1), .second, .val (.long q2), .second, .val (.int p3), .val (.int p4), .val (.long q5), .second, .val (.long y1), .second, .val (.int x2), .val (.long y3), .second, .val (.long y5), .second, .val (.long y9), .second, .val (.ref b11), .val (.int v21)] [])) t
      refine XS.aload X16.here hx rfl (hb hby at_109) rfl rfl ?_
      exact k)
    have f25 : n0 ≤ T16.heap.size := (Nat.le_trans f17 K16.1)
    obtain ⟨cq24, kq24, q24a, q24b, q24c⟩ := isOf hZ rfl E_16
    obtain ⟨_, _, ⟨T24, L24, k24, n24⟩, -, X24, ⟨Lc24, hQ24, l24, y24, z24⟩, st24⟩ := X16.virtualBack hx (y := (⟨"com/example/carrel/carrel/bench/LoadReport", "limited", "()Z"⟩ : MethodName)) (z := (⟨"com/example/carrel/carrel/bench/LoadReport", "limited", "()Z"⟩ : MethodName)) hown (mvT hZ (hw _ (List.mem_of_getElem? (i := 35) rfl))) (mvT hZ (hw _ (List.mem_of_getElem? (i := 36) rfl))) (notFace_of_selects (args := #[]) (mvT hZ (hw _ (List.mem_of_getElem? (i := 38) rfl)))) (mvT hZ (hw _ (List.mem_of_getElem? (i := 38) rfl))) (mvT hZ (hw _ (List.mem_of_getElem? (i := 37) rfl))) (by decide) (backOf (W := 0) (rmL l Z a0 hw [] b11 y9 x2 y1 T16.heap n0 f25 G2_16 G3_16 G1_16) hZ (hw _ (List.mem_of_getElem? (i := 39) rfl)) (hw _ (List.mem_of_getElem? (i := 9) rfl)) (by decide) (by decide)) q24a q24c (g := (mkF m 111 #[.val (.long q1), .second, .val (.long q2), .second, .val (.int p3), .val (.int p4), .val (.long q5), .second, .val (.long y1), .second, .val (.int x2), .val (.long y3), .second, .val (.long y5), .second, .val (.long y9), .second, .val (.ref b11), .val (.int v21)] [(.ref b11)])) rfl (by rw [hml]; rfl) (Steps.refl _) (argsL := []) (rest := []) (lenOf pd_2 rfl) rfl (by show 2 * 0 + _ ≤ _; exact Nat.le_of_eq rfl) (hb hby at_111) (fun _ _ => ⟨rfl, rfl, (by decide : 1 + 0 ≤ _), (by decide : 6 + 0 ≤ _)⟩)
    dsimp only [Pt.U, Pt.locs, Pt.cells, Pt.slots] at X24 l24 y24 z24 st24 hQ24
    subst l24 y24 z24
    obtain ⟨rfl, N24q, e24⟩ := hQ24
    have N24 := Fr.app N16 N24q
    have P26 : Rch p e below (s₁.setTop (entryFrame m #[(.long q1), (.long q2), (.int p3), (.int p4), (.long q5)] maxLocals)) (T24.setTop (mkF m 114 #[.val (.long q1), .second, .val (.long q2), .second, .val (.int p3), .val (.int p4), .val (.long q5), .second, .val (.long y1), .second, .val (.int x2), .val (.long y3), .second, .val (.long y5), .second, .val (.long y9), .second, .val (.ref b11), .val (.int v21)] [(.int (own_lim y9 x2 y1))])) := fun t k => P23 t (st24.trans k)
    obtain ⟨x27, hx27⟩ : ∃ z : Int32, z = (own_lim y9 x2 y1) := ⟨_, rfl⟩
    rw [← hx27] at P26
    have P28 : Rch p e below (s₁.setTop (entryFrame m #[(.long q1), (.long q2), (.int p3), (.int p4), (.long q5)] maxLocals)) (T24.setTop (mkF m 116 #[.val (.long q1), .second, .val (.long q2), .second, .val (.int p3), .val (.int p4), .val (.long q5), .second, .val (.long y1), .second, .val (.int x2), .val (.long y3), .second, .val (.long y5), .second, .val (.long y9), .second, .val (.ref b11), .val (.int v21)] [(.int v21), (.int x27)])) := fun t k => P26 t (by
      show Steps p.tables e below (T24.setTop (mkF m 114 #[.val (.long q1), .second, .val (.long q2), .second, .val (.int p3), .val (.int p4), .val (.long q5), .second, .val (.long y1), .second, .val (.int x2), .val (.long y3), .second, .val (.long y5), .second, .val (.long y9), .second, .val (.ref b11), .val (.int v21)] [(.int x27)])) t
      refine XS.iload X24.here hx rfl (hb hby at_114) rfl ?_
      exact k)
    obtain ⟨v30, hv30, P31⟩ : ∃ (v30 : Int32), v30 = (if x27 = v21 then (1 : Int32) else (0 : Int32)) ∧ Rch p e below (s₁.setTop (entryFrame m #[(.long q1), (.long q2), (.int p3), (.int p4), (.long q5)] maxLocals)) (T24.setTop (mkF m 124 #[.val (.long q1), .second, .val (.long q2), .second, .val (.int p3), .val (.int p4), .val (.long q5), .second, .val (.long y1), .second, .val (.int x2), .val (.long y3), .second, .val (.long y5), .second, .val (.long y9), .second, .val (.ref b11), .val (.int v21)] [(.int v30)])) := by
      by_cases c29 : x27 = v21
      · refine ⟨(1 : Int32), (by first | rfl | rw [if_pos c29] | simp only [if_pos c29]), fun t k => P28 t ?_⟩
        show Steps p.tables e below (T24.setTop (mkF m 116 #[.val (.long q1), .second, .val (.long q2), .second, .val (.int p3), .val (.int p4), .val (.long q5), .second, .val (.long y1), .second, .val (.int x2), .val (.long y3), .second, .val (.long y5), .second, .val (.long y9), .second, .val (.ref b11), .val (.int v21)] [(.int v21), (.int x27)])) t
        refine XS.icmpNo X24.here hx rfl (hb hby at_116) rfl (teq c29).2 ?_
        show Steps p.tables e below (T24.setTop (mkF m 119 #[.val (.long q1), .second, .val (.long q2), .second, .val (.int p3), .val (.int p4), .val (.long q5), .second, .val (.long y1), .second, .val (.int x2), .val (.long y3), .second, .val (.long y5), .second, .val (.long y9), .second, .val (.ref b11), .val (.int v21)] [])) t
        refine XS.iconst X24.here hx rfl (hb hby at_119) ?_
        show Steps p.tables e below (T24.setTop (mkF m 120 #[.val (.long q1), .second, .val (.long q2), .second, .val (.int p3), .val (.int p4), .val (.long q5), .second, .val (.long y1), .second, .val (.int x2), .val (.long y3), .second, .val (.long y5), .second, .val (.long y9), .second, .val (.ref b11), .val (.int v21)] [(.int (1 : Int32))])) t
        refine XS.goto X24.here hx rfl (pc0 := 120) (pc' := 124) rfl (hb hby at_120) (by decide) (by decide) ?_
        exact k
      · refine ⟨(0 : Int32), (by first | rfl | rw [if_neg c29] | simp only [if_neg c29]), fun t k => P28 t ?_⟩
        show Steps p.tables e below (T24.setTop (mkF m 116 #[.val (.long q1), .second, .val (.long q2), .second, .val (.int p3), .val (.int p4), .val (.long q5), .second, .val (.long y1), .second, .val (.int x2), .val (.long y3), .second, .val (.long y5), .second, .val (.long y9), .second, .val (.ref b11), .val (.int v21)] [(.int v21), (.int x27)])) t
        refine XS.icmpYes X24.here hx rfl (pc0 := 116) (pc' := 123) rfl (hb hby at_116) rfl (feq c29).2 (by decide) (by decide) ?_
        show Steps p.tables e below (T24.setTop (mkF m 123 #[.val (.long q1), .second, .val (.long q2), .second, .val (.int p3), .val (.int p4), .val (.long q5), .second, .val (.long y1), .second, .val (.int x2), .val (.long y3), .second, .val (.long y5), .second, .val (.long y9), .second, .val (.ref b11), .val (.int v21)] [])) t
        refine XS.iconst X24.here hx rfl (hb hby at_123) ?_
        exact k
    have hfin : v30 = (1 : Int32) := by
      subst hv30 hx27 hv21 hy14 hy13 hy9 hx6 hy5 hy3 hx2 hy1
      first | exact own_lawB q1 q2 p3 | exact own_lawA q2 p3 _
    have P32 : Rch p e below (s₁.setTop (entryFrame m #[(.long q1), (.long q2), (.int p3), (.int p4), (.long q5)] maxLocals)) (T24.setTop (mkF m 124 #[.val (.long q1), .second, .val (.long q2), .second, .val (.int p3), .val (.int p4), .val (.long q5), .second, .val (.long y1), .second, .val (.int x2), .val (.long y3), .second, .val (.long y5), .second, .val (.long y9), .second, .val (.ref b11), .val (.int v21)] [(.int (1 : Int32))])) := by have q_ := P31; rw [hfin] at q_; exact q_
    obtain ⟨fs, hr, hrun, hended, hW, hsame⟩ := X24.leave (v := some (.int (1 : Int32))) (fun h => by rw [Bd.returns] at h; cases h)
    refine ⟨_, _, P32 _ ?_, hrun, hended, _, _, rfl, ?_, ⟨_, rfl⟩, hW, hsame.mono (by decide) (by decide)⟩
    · exact retN X24 hx (t := .boolean) Bd.returns (by simp) (hb hby at_124) hr
    · show Q_rm0 Z q1 q2 p3 p4 q5 h0 n0 _ T24.heap _
      rw [e24]
      exact ⟨rfl, N24⟩
  · obtain ⟨y33, hy33⟩ : ∃ z : Int64, z = ((y5 + (((p4 >>> ((1 : Int32) &&& 31)) &&& (3 : Int32)).toInt64)) - (1 : Int64)) := ⟨_, rfl⟩
    have P34 : Rch p e below (s₁.setTop (entryFrame m #[(.long q1), (.long q2), (.int p3), (.int p4), (.long q5)] maxLocals)) (s₁.setTop (mkF m 50 #[.val (.long q1), .second, .val (.long q2), .second, .val (.int p3), .val (.int p4), .val (.long q5), .second, .val (.long y1), .second, .val (.int x2), .val (.long y3), .second, .val (.long y5), .second, .unset, .unset, .unset, .unset] [(.long y33), (.long (0 : Int64))])) := fun t k => P7 t (by
      subst hy33
      show Steps p.tables e below (s₁.setTop (mkF m 34 #[.val (.long q1), .second, .val (.long q2), .second, .val (.int p3), .val (.int p4), .val (.long q5), .second, .val (.long y1), .second, .val (.int x2), .val (.long y3), .second, .val (.long y5), .second, .unset, .unset, .unset, .unset] [(.int x6)])) t
      refine XS.ifNo X0.here hx rfl (hb hby at_34) rfl ((if0 _ _).trans (feq c8).1) ?_
      show Steps p.tables e below (s₁.setTop (mkF m 37 #[.val (.long q1), .second, .val (.long q2), .second, .val (.int p3), .val (.int p4), .val (.long q5), .second, .val (.long y1), .second, .val (.int x2), .val (.long y3), .second, .val (.long y5), .second, .unset, .unset, .unset, .unset] [])) t
      refine XS.lconst X0.here hx rfl (hb hby at_37) ?_
      show Steps p.tables e below (s₁.setTop (mkF m 38 #[.val (.long q1), .second, .val (.long q2), .second, .val (.int p3), .val (.int p4), .val (.long q5), .second, .val (.long y1), .second, .val (.int x2), .val (.long y3), .second, .val (.long y5), .second, .unset, .unset, .unset, .unset] [(.long (0 : Int64))])) t
      refine XS.lload X0.here hx rfl (hb hby at_38) rfl ?_
      show Steps p.tables e below (s₁.setTop (mkF m 40 #[.val (.long q1), .second, .val (.long q2), .second, .val (.int p3), .val (.int p4), .val (.long q5), .second, .val (.long y1), .second, .val (.int x2), .val (.long y3), .second, .val (.long y5), .second, .unset, .unset, .unset, .unset] [(.long y5), (.long (0 : Int64))])) t
      refine XS.iload X0.here hx rfl (hb hby at_40) rfl ?_
      show Steps p.tables e below (s₁.setTop (mkF m 42 #[.val (.long q1), .second, .val (.long q2), .second, .val (.int p3), .val (.int p4), .val (.long q5), .second, .val (.long y1), .second, .val (.int x2), .val (.long y3), .second, .val (.long y5), .second, .unset, .unset, .unset, .unset] [(.int p4), (.long y5), (.long (0 : Int64))])) t
      refine XS.iconst X0.here hx rfl (hb hby at_42) ?_
      show Steps p.tables e below (s₁.setTop (mkF m 43 #[.val (.long q1), .second, .val (.long q2), .second, .val (.int p3), .val (.int p4), .val (.long q5), .second, .val (.long y1), .second, .val (.int x2), .val (.long y3), .second, .val (.long y5), .second, .unset, .unset, .unset, .unset] [(.int (1 : Int32)), (.int p4), (.long y5), (.long (0 : Int64))])) t
      refine XS.ishr X0.here hx rfl (hb hby at_43) rfl ?_
      show Steps p.tables e below (s₁.setTop (mkF m 44 #[.val (.long q1), .second, .val (.long q2), .second, .val (.int p3), .val (.int p4), .val (.long q5), .second, .val (.long y1), .second, .val (.int x2), .val (.long y3), .second, .val (.long y5), .second, .unset, .unset, .unset, .unset] [(.int (p4 >>> ((1 : Int32) &&& 31))), (.long y5), (.long (0 : Int64))])) t
      refine XS.iconst X0.here hx rfl (hb hby at_44) ?_
      show Steps p.tables e below (s₁.setTop (mkF m 45 #[.val (.long q1), .second, .val (.long q2), .second, .val (.int p3), .val (.int p4), .val (.long q5), .second, .val (.long y1), .second, .val (.int x2), .val (.long y3), .second, .val (.long y5), .second, .unset, .unset, .unset, .unset] [(.int (3 : Int32)), (.int (p4 >>> ((1 : Int32) &&& 31))), (.long y5), (.long (0 : Int64))])) t
      refine XS.iand X0.here hx rfl (hb hby at_45) rfl ?_
      show Steps p.tables e below (s₁.setTop (mkF m 46 #[.val (.long q1), .second, .val (.long q2), .second, .val (.int p3), .val (.int p4), .val (.long q5), .second, .val (.long y1), .second, .val (.int x2), .val (.long y3), .second, .val (.long y5), .second, .unset, .unset, .unset, .unset] [(.int ((p4 >>> ((1 : Int32) &&& 31)) &&& (3 : Int32))), (.long y5), (.long (0 : Int64))])) t
      refine XS.i2l X0.here hx rfl (hb hby at_46) rfl ?_
      show Steps p.tables e below (s₁.setTop (mkF m 47 #[.val (.long q1), .second, .val (.long q2), .second, .val (.int p3), .val (.int p4), .val (.long q5), .second, .val (.long y1), .second, .val (.int x2), .val (.long y3), .second, .val (.long y5), .second, .unset, .unset, .unset, .unset] [(.long (((p4 >>> ((1 : Int32) &&& 31)) &&& (3 : Int32)).toInt64)), (.long y5), (.long (0 : Int64))])) t
      refine XS.ladd X0.here hx rfl (hb hby at_47) rfl ?_
      show Steps p.tables e below (s₁.setTop (mkF m 48 #[.val (.long q1), .second, .val (.long q2), .second, .val (.int p3), .val (.int p4), .val (.long q5), .second, .val (.long y1), .second, .val (.int x2), .val (.long y3), .second, .val (.long y5), .second, .unset, .unset, .unset, .unset] [(.long (y5 + (((p4 >>> ((1 : Int32) &&& 31)) &&& (3 : Int32)).toInt64))), (.long (0 : Int64))])) t
      refine XS.lconst X0.here hx rfl (hb hby at_48) ?_
      show Steps p.tables e below (s₁.setTop (mkF m 49 #[.val (.long q1), .second, .val (.long q2), .second, .val (.int p3), .val (.int p4), .val (.long q5), .second, .val (.long y1), .second, .val (.int x2), .val (.long y3), .second, .val (.long y5), .second, .unset, .unset, .unset, .unset] [(.long (1 : Int64)), (.long (y5 + (((p4 >>> ((1 : Int32) &&& 31)) &&& (3 : Int32)).toInt64))), (.long (0 : Int64))])) t
      refine XS.lsub X0.here hx rfl (hb hby at_49) rfl ?_
      exact k)
    obtain ⟨_, _, ⟨T35, L35, k35, n35⟩, -, X35, ⟨Lc35, hQ35, l35, y35, z35⟩, st35⟩ := Jvm.LawKit.callS X0 hx (y := (⟨"java/lang/Math", "max", "(JJ)J"⟩ : MethodName)) hown (mvT hZ (hw _ (List.mem_of_getElem? (i := 3) rfl))) (mvT hZ (hw _ (List.mem_of_getElem? (i := 4) rfl))) (mvT hZ (hw _ (List.mem_of_getElem? (i := 5) rfl))) (mvT hZ (hw _ (List.mem_of_getElem? (i := 6) rfl))) (by decide) (backOf (W := 0) (rmM l Z a0 hw [] (0 : Int64) y33 h0 n0 Z0 ) hZ (hw _ (List.mem_of_getElem? (i := 6) rfl)) (hw _ (List.mem_of_getElem? (i := 5) rfl)) (by decide) (by decide)) (g := (mkF m 50 #[.val (.long q1), .second, .val (.long q2), .second, .val (.int p3), .val (.int p4), .val (.long q5), .second, .val (.long y1), .second, .val (.int x2), .val (.long y3), .second, .val (.long y5), .second, .unset, .unset, .unset, .unset] [(.long y33), (.long (0 : Int64))])) rfl (by rw [hml]; rfl) (argsL := [(.long (0 : Int64)), (.long y33)]) (rest := []) (lenOf pd_3 rfl) rfl (by show 2 * 0 + _ ≤ _; exact Nat.le_of_eq rfl) (hb hby at_50) (fun _ _ => ⟨rfl, e0, (by decide : 0 + 0 ≤ _), (by decide : 0 + 0 ≤ _)⟩)
    dsimp only [Pt.U, Pt.locs, Pt.cells, Pt.slots] at X35 l35 y35 z35 st35 hQ35
    subst l35 y35 z35
    obtain ⟨rfl, N35q, e35⟩ := hQ35
    have N35 := Fr.app N0 N35q
    have P36 : Rch p e below (s₁.setTop (entryFrame m #[(.long q1), (.long q2), (.int p3), (.int p4), (.long q5)] maxLocals)) (T35.setTop (mkF m 53 #[.val (.long q1), .second, .val (.long q2), .second, .val (.int p3), .val (.int p4), .val (.long q5), .second, .val (.long y1), .second, .val (.int x2), .val (.long y3), .second, .val (.long y5), .second, .unset, .unset, .unset, .unset] [(.long (own_max (0 : Int64) y33))])) := fun t k => P34 t (st35 t k)
    obtain ⟨y37, hy37⟩ : ∃ z : Int64, z = (own_max (0 : Int64) y33) := ⟨_, rfl⟩
    rw [← hy37] at P36
    have P38 : Rch p e below (s₁.setTop (entryFrame m #[(.long q1), (.long q2), (.int p3), (.int p4), (.long q5)] maxLocals)) (T35.setTop (mkF m 65 #[.val (.long q1), .second, .val (.long q2), .second, .val (.int p3), .val (.int p4), .val (.long q5), .second, .val (.long y1), .second, .val (.int x2), .val (.long y3), .second, .val (.long y5), .second, .val (.long y37), .second, .unset, .unset] [])) := fun t k => P36 t (by
      show Steps p.tables e below (T35.setTop (mkF m 53 #[.val (.long q1), .second, .val (.long q2), .second, .val (.int p3), .val (.int p4), .val (.long q5), .second, .val (.long y1), .second, .val (.int x2), .val (.long y3), .second, .val (.long y5), .second, .unset, .unset, .unset, .unset] [(.long y37)])) t
      refine XS.lstore X35.here hx rfl (hb hby at_53) rfl (l' := #[.val (.long q1), .second, .val (.long q2), .second, .val (.int p3), .val (.int p4), .val (.long q5), .second, .val (.long y1), .second, .val (.int x2), .val (.long y3), .second, .val (.long y5), .second, .val (.long y37), .second, .unset, .unset]) rfl ?_
      show Steps p.tables e below (T35.setTop (mkF m 55 #[.val (.long q1), .second, .val (.long q2), .second, .val (.int p3), .val (.int p4), .val (.long q5), .second, .val (.long y1), .second, .val (.int x2), .val (.long y3), .second, .val (.long y5), .second, .val (.long y37), .second, .unset, .unset] [])) t
      refine XS.goto X35.here hx rfl (pc0 := 55) (pc' := 65) rfl (hb hby at_55) (by decide) (by decide) ?_
      exact k)
    obtain ⟨T39, h39, X39, e39, E39, A39, D39, -, st39⟩ := newO X35 hx hZ hown (hw _ (List.mem_of_getElem? (i := 7) rfl)) (hw _ (List.mem_of_getElem? (i := 8) rfl)) (hw _ (List.mem_of_getElem? (i := 9) rfl)) e35 (g := (mkF m 65 #[.val (.long q1), .second, .val (.long q2), .second, .val (.int p3), .val (.int p4), .val (.long q5), .second, .val (.long y1), .second, .val (.int x2), .val (.long y3), .second, .val (.long y5), .second, .val (.long y37), .second, .unset, .unset] [])) rfl (hb hby at_65) (by decide) (by decide)
    obtain ⟨b39, g39⟩ : ∃ z, z = h0.size := ⟨_, rfl⟩
    rw [← g39] at A39 D39 st39
    have g_b39 : n0 ≤ b39 := Nat.le_trans Z0 (Nat.le_of_eq g39.symm)
    have sz_b39 : h0.size ≤ b39 := Nat.le_trans (Keep.refl h0 []).1 (Nat.le_of_eq g39.symm)
    have F39_24 : Fld Z h39 b39 "com/example/carrel/carrel/bench/LoadReport" "rounds" "J" (.long (0 : Int64)) := D39 (Or.inr (hw _ (List.mem_of_getElem? (i := 24) rfl))) (ty := .long) (by decide)
    have F39_26 : Fld Z h39 b39 "com/example/carrel/carrel/bench/LoadReport" "wallNanos" "J" (.long (0 : Int64)) := D39 (Or.inr (hw _ (List.mem_of_getElem? (i := 26) rfl))) (ty := .long) (by decide)
    have F39_28 : Fld Z h39 b39 "com/example/carrel/carrel/bench/LoadReport" "cpuNanos" "J" (.long (0 : Int64)) := D39 (Or.inr (hw _ (List.mem_of_getElem? (i := 28) rfl))) (ty := .long) (by decide)
    have F39_30 : Fld Z h39 b39 "com/example/carrel/carrel/bench/LoadReport" "cores" "I" (.int (0 : Int32)) := D39 (Or.inr (hw _ (List.mem_of_getElem? (i := 30) rfl))) (ty := .int) (by decide)
    have F39_32 : Fld Z h39 b39 "com/example/carrel/carrel/bench/LoadReport" "unexpected" "J" (.long (0 : Int64)) := D39 (Or.inr (hw _ (List.mem_of_getElem? (i := 32) rfl))) (ty := .long) (by decide)
    have F39_34 : Fld Z h39 b39 "com/example/carrel/carrel/bench/LoadReport" "withoutRecord" "J" (.long (0 : Int64)) := D39 (Or.inr (hw _ (List.mem_of_getElem? (i := 34) rfl))) (ty := .long) (by decide)
    have P40 : Rch p e below (s₁.setTop (entryFrame m #[(.long q1), (.long q2), (.int p3), (.int p4), (.long q5)] maxLocals)) (T39.setTop (mkF m 68 #[.val (.long q1), .second, .val (.long q2), .second, .val (.int p3), .val (.int p4), .val (.long q5), .second, .val (.long y1), .second, .val (.int x2), .val (.long y3), .second, .val (.long y5), .second, .val (.long y37), .second, .unset, .unset] [(.ref b39)])) := fun t k => P38 t (st39 t k)
    obtain ⟨y41, hy41⟩ : ∃ z : Int64, z = (q5 ^^^ (5 : Int64)) := ⟨_, rfl⟩
    obtain ⟨y42, hy42⟩ : ∃ z : Int64, z = (q5 ^^^ (-1 : Int64)) := ⟨_, rfl⟩
    have P43 : Rch p e below (s₁.setTop (entryFrame m #[(.long q1), (.long q2), (.int p3), (.int p4), (.long q5)] maxLocals)) (T39.setTop (mkF m 89 #[.val (.long q1), .second, .val (.long q2), .second, .val (.int p3), .val (.int p4), .val (.long q5), .second, .val (.long y1), .second, .val (.int x2), .val (.long y3), .second, .val (.long y5), .second, .val (.long y37), .second, .unset, .unset] [(.long y41), (.long y42), (.int x2), (.long y37), (.long y1), (.long q5), (.ref b39), (.ref b39)])) := fun t k => P40 t (by
      subst hy41 hy42
      show Steps p.tables e below (T39.setTop (mkF m 68 #[.val (.long q1), .second, .val (.long q2), .second, .val (.int p3), .val (.int p4), .val (.long q5), .second, .val (.long y1), .second, .val (.int x2), .val (.long y3), .second, .val (.long y5), .second, .val (.long y37), .second, .unset, .unset] [(.ref b39)])) t
      refine XS.dup X39.here hx rfl (hb hby at_68) rfl rfl ?_
      show Steps p.tables e below (T39.setTop (mkF m 69 #[.val (.long q1), .second, .val (.long q2), .second, .val (.int p3), .val (.int p4), .val (.long q5), .second, .val (.long y1), .second, .val (.int x2), .val (.long y3), .second, .val (.long y5), .second, .val (.long y37), .second, .unset, .unset] [(.ref b39), (.ref b39)])) t
      refine XS.lload X39.here hx rfl (hb hby at_69) rfl ?_
      show Steps p.tables e below (T39.setTop (mkF m 71 #[.val (.long q1), .second, .val (.long q2), .second, .val (.int p3), .val (.int p4), .val (.long q5), .second, .val (.long y1), .second, .val (.int x2), .val (.long y3), .second, .val (.long y5), .second, .val (.long y37), .second, .unset, .unset] [(.long q5), (.ref b39), (.ref b39)])) t
      refine XS.lload X39.here hx rfl (hb hby at_71) rfl ?_
      show Steps p.tables e below (T39.setTop (mkF m 73 #[.val (.long q1), .second, .val (.long q2), .second, .val (.int p3), .val (.int p4), .val (.long q5), .second, .val (.long y1), .second, .val (.int x2), .val (.long y3), .second, .val (.long y5), .second, .val (.long y37), .second, .unset, .unset] [(.long y1), (.long q5), (.ref b39), (.ref b39)])) t
      refine XS.lload X39.here hx rfl (hb hby at_73) rfl ?_
      show Steps p.tables e below (T39.setTop (mkF m 75 #[.val (.long q1), .second, .val (.long q2), .second, .val (.int p3), .val (.int p4), .val (.long q5), .second, .val (.long y1), .second, .val (.int x2), .val (.long y3), .second, .val (.long y5), .second, .val (.long y37), .second, .unset, .unset] [(.long y37), (.long y1), (.long q5), (.ref b39), (.ref b39)])) t
      refine XS.iload X39.here hx rfl (hb hby at_75) rfl ?_
      show Steps p.tables e below (T39.setTop (mkF m 77 #[.val (.long q1), .second, .val (.long q2), .second, .val (.int p3), .val (.int p4), .val (.long q5), .second, .val (.long y1), .second, .val (.int x2), .val (.long y3), .second, .val (.long y5), .second, .val (.long y37), .second, .unset, .unset] [(.int x2), (.long y37), (.long y1), (.long q5), (.ref b39), (.ref b39)])) t
      refine XS.lload X39.here hx rfl (hb hby at_77) rfl ?_
      show Steps p.tables e below (T39.setTop (mkF m 79 #[.val (.long q1), .second, .val (.long q2), .second, .val (.int p3), .val (.int p4), .val (.long q5), .second, .val (.long y1), .second, .val (.int x2), .val (.long y3), .second, .val (.long y5), .second, .val (.long y37), .second, .unset, .unset] [(.long q5), (.int x2), (.long y37), (.long y1), (.long q5), (.ref b39), (.ref b39)])) t
      refine X39.ldc2Long hx hown (mvT hZ (hw _ (List.mem_of_getElem? (i := 10) rfl))) (g := (mkF m 79 #[.val (.long q1), .second, .val (.long q2), .second, .val (.int p3), .val (.int p4), .val (.long q5), .second, .val (.long y1), .second, .val (.int x2), .val (.long y3), .second, .val (.long y5), .second, .val (.long y37), .second, .unset, .unset] [(.long q5), (.int x2), (.long y37), (.long y1), (.long q5), (.ref b39), (.ref b39)])) rfl (hb hby at_79) _ ?_
      show Steps p.tables e below (T39.setTop (mkF m 82 #[.val (.long q1), .second, .val (.long q2), .second, .val (.int p3), .val (.int p4), .val (.long q5), .second, .val (.long y1), .second, .val (.int x2), .val (.long y3), .second, .val (.long y5), .second, .val (.long y37), .second, .unset, .unset] [(.long (-1 : Int64)), (.long q5), (.int x2), (.long y37), (.long y1), (.long q5), (.ref b39), (.ref b39)])) t
      refine XS.lxor X39.here hx rfl (hb hby at_82) rfl ?_
      show Steps p.tables e below (T39.setTop (mkF m 83 #[.val (.long q1), .second, .val (.long q2), .second, .val (.int p3), .val (.int p4), .val (.long q5), .second, .val (.long y1), .second, .val (.int x2), .val (.long y3), .second, .val (.long y5), .second, .val (.long y37), .second, .unset, .unset] [(.long (q5 ^^^ (-1 : Int64))), (.int x2), (.long y37), (.long y1), (.long q5), (.ref b39), (.ref b39)])) t
      refine XS.lload X39.here hx rfl (hb hby at_83) rfl ?_
      show Steps p.tables e below (T39.setTop (mkF m 85 #[.val (.long q1), .second, .val (.long q2), .second, .val (.int p3), .val (.int p4), .val (.long q5), .second, .val (.long y1), .second, .val (.int x2), .val (.long y3), .second, .val (.long y5), .second, .val (.long y37), .second, .unset, .unset] [(.long q5), (.long (q5 ^^^ (-1 : Int64))), (.int x2), (.long y37), (.long y1), (.long q5), (.ref b39), (.ref b39)])) t
      refine X39.ldc2Long hx hown (mvT hZ (hw _ (List.mem_of_getElem? (i := 11) rfl))) (g := (mkF m 85 #[.val (.long q1), .second, .val (.long q2), .second, .val (.int p3), .val (.int p4), .val (.long q5), .second, .val (.long y1), .second, .val (.int x2), .val (.long y3), .second, .val (.long y5), .second, .val (.long y37), .second, .unset, .unset] [(.long q5), (.long (q5 ^^^ (-1 : Int64))), (.int x2), (.long y37), (.long y1), (.long q5), (.ref b39), (.ref b39)])) rfl (hb hby at_85) _ ?_
      show Steps p.tables e below (T39.setTop (mkF m 88 #[.val (.long q1), .second, .val (.long q2), .second, .val (.int p3), .val (.int p4), .val (.long q5), .second, .val (.long y1), .second, .val (.int x2), .val (.long y3), .second, .val (.long y5), .second, .val (.long y37), .second, .unset, .unset] [(.long (5 : Int64)), (.long q5), (.long (q5 ^^^ (-1 : Int64))), (.int x2), (.long y37), (.long y1), (.long q5), (.ref b39), (.ref b39)])) t
      refine XS.lxor X39.here hx rfl (hb hby at_88) rfl ?_
      exact k)
    have f45 : n0 ≤ h39.size := (Nat.le_trans Z0 E39.1)
    obtain ⟨_, _, ⟨T44, L44, k44, n44⟩, -, X44, ⟨Lc44, hQ44, l44, y44, z44⟩, st44⟩ := X39.specialBack hx (y := (⟨"com/example/carrel/carrel/bench/LoadReport", "<init>", "(JJJIJJ)V"⟩ : MethodName)) rfl hown (mvT hZ (hw _ (List.mem_of_getElem? (i := 12) rfl))) (mvT hZ (hw _ (List.mem_of_getElem? (i := 13) rfl))) (mvT hZ (hw _ (List.mem_of_getElem? (i := 14) rfl))) (by decide) (backOf (W := 1) (rmI l Z a0 hw [] b39 q5 y1 y37 x2 y42 y41 h39 n0 f45 A39 g_b39 F39_24 F39_26 F39_28 F39_30 F39_32 F39_34) hZ (hw _ (List.mem_of_getElem? (i := 14) rfl)) (hw _ (List.mem_of_getElem? (i := 9) rfl)) (by decide) (by decide)) (g := (mkF m 89 #[.val (.long q1), .second, .val (.long q2), .second, .val (.int p3), .val (.int p4), .val (.long q5), .second, .val (.long y1), .second, .val (.int x2), .val (.long y3), .second, .val (.long y5), .second, .val (.long y37), .second, .unset, .unset] [(.long y41), (.long y42), (.int x2), (.long y37), (.long y1), (.long q5), (.ref b39), (.ref b39)])) rfl (by rw [hml]; rfl) (Steps.refl _) (a := b39) (argsL := [(.long q5), (.long y1), (.long y37), (.int x2), (.long y42), (.long y41)]) (rest := [(.ref b39)]) (lenOf pd_1 rfl) rfl (by show 2 * 0 + _ ≤ _; exact Nat.le_of_eq rfl) (hb hby at_89) (fun _ _ => ⟨rfl, e39, (by decide : 1 + 0 ≤ _), (by decide : 6 + 0 ≤ _)⟩)
    dsimp only [Pt.U, Pt.locs, Pt.cells, Pt.slots] at X44 l44 y44 z44 st44 hQ44
    subst l44 y44 z44
    obtain ⟨rfl, N44q, K44, E_44, G0_44, G1_44, G2_44, G3_44, G4_44, G5_44⟩ := hQ44
    have N44 := Fr.app N35 N44q
    have P46 : Rch p e below (s₁.setTop (entryFrame m #[(.long q1), (.long q2), (.int p3), (.int p4), (.long q5)] maxLocals)) (T44.setTop (mkF m 92 #[.val (.long q1), .second, .val (.long q2), .second, .val (.int p3), .val (.int p4), .val (.long q5), .second, .val (.long y1), .second, .val (.int x2), .val (.long y3), .second, .val (.long y5), .second, .val (.long y37), .second, .unset, .unset] [(.ref b39)])) := fun t k => P43 t (st44.trans k)
    have P47 : Rch p e below (s₁.setTop (entryFrame m #[(.long q1), (.long q2), (.int p3), (.int p4), (.long q5)] maxLocals)) (T44.setTop (mkF m 99 #[.val (.long q1), .second, .val (.long q2), .second, .val (.int p3), .val (.int p4), .val (.long q5), .second, .val (.long y1), .second, .val (.int x2), .val (.long y3), .second, .val (.long y5), .second, .val (.long y37), .second, .val (.ref b39), .unset] [(.int (lcmpW y37 y5))])) := fun t k => P46 t (by
      show Steps p.tables e below (T44.setTop (mkF m 92 #[.val (.long q1), .second, .val (.long q2), .second, .val (.int p3), .val (.int p4), .val (.long q5), .second, .val (.long y1), .second, .val (.int x2), .val (.long y3), .second, .val (.long y5), .second, .val (.long y37), .second, .unset, .unset] [(.ref b39)])) t
      refine XS.astore X44.here hx rfl (hb hby at_92) rfl rfl (l' := #[.val (.long q1), .second, .val (.long q2), .second, .val (.int p3), .val (.int p4), .val (.long q5), .second, .val (.long y1), .second, .val (.int x2), .val (.long y3), .second, .val (.long y5), .second, .val (.long y37), .second, .val (.ref b39), .unset]) rfl ?_
      show Steps p.tables e below (T44.setTop (mkF m 94 #[.val (.long q1), .second, .val (.long q2), .second, .val (.int p3), .val (.int p4), .val (.long q5), .second, .val (.long y1), .second, .val (.int x2), .val (.long y3), .second, .val (.long y5), .second, .val (.long y37), .second, .val (.ref b39), .unset] [])) t
      refine XS.lload X44.here hx rfl (hb hby at_94) rfl ?_
      show Steps p.tables e below (T44.setTop (mkF m 96 #[.val (.long q1), .second, .val (.long q2), .second, .val (.int p3), .val (.int p4), .val (.long q5), .second, .val (.long y1), .second, .val (.int x2), .val (.long y3), .second, .val (.long y5), .second, .val (.long y37), .second, .val (.ref b39), .unset] [(.long y37)])) t
      refine XS.lload X44.here hx rfl (hb hby at_96) rfl ?_
      show Steps p.tables e below (T44.setTop (mkF m 98 #[.val (.long q1), .second, .val (.long q2), .second, .val (.int p3), .val (.int p4), .val (.long q5), .second, .val (.long y1), .second, .val (.int x2), .val (.long y3), .second, .val (.long y5), .second, .val (.long y37), .second, .val (.ref b39), .unset] [(.long y5), (.long y37)])) t
      refine XS.lcmp X44.here hx rfl (hb hby at_98) rfl ?_
      exact k)
    obtain ⟨v49, hv49, P50⟩ : ∃ (v49 : Int32), v49 = (if y5 < y37 then (1 : Int32) else (0 : Int32)) ∧ Rch p e below (s₁.setTop (entryFrame m #[(.long q1), (.long q2), (.int p3), (.int p4), (.long q5)] maxLocals)) (T44.setTop (mkF m 107 #[.val (.long q1), .second, .val (.long q2), .second, .val (.int p3), .val (.int p4), .val (.long q5), .second, .val (.long y1), .second, .val (.int x2), .val (.long y3), .second, .val (.long y5), .second, .val (.long y37), .second, .val (.ref b39), .unset] [(.int v49)])) := by
      by_cases c48 : y5 < y37
      · refine ⟨(1 : Int32), (by first | rfl | rw [if_pos c48] | simp only [if_pos c48]), fun t k => P47 t ?_⟩
        show Steps p.tables e below (T44.setTop (mkF m 99 #[.val (.long q1), .second, .val (.long q2), .second, .val (.int p3), .val (.int p4), .val (.long q5), .second, .val (.long y1), .second, .val (.int x2), .val (.long y3), .second, .val (.long y5), .second, .val (.long y37), .second, .val (.ref b39), .unset] [(.int (lcmpW y37 y5))])) t
        refine XS.ifNo X44.here hx rfl (hb hby at_99) rfl ((if0 _ _).trans (tlt ((lw_gt y37 y5).mpr c48)).2.2.2) ?_
        show Steps p.tables e below (T44.setTop (mkF m 102 #[.val (.long q1), .second, .val (.long q2), .second, .val (.int p3), .val (.int p4), .val (.long q5), .second, .val (.long y1), .second, .val (.int x2), .val (.long y3), .second, .val (.long y5), .second, .val (.long y37), .second, .val (.ref b39), .unset] [])) t
        refine XS.iconst X44.here hx rfl (hb hby at_102) ?_
        show Steps p.tables e below (T44.setTop (mkF m 103 #[.val (.long q1), .second, .val (.long q2), .second, .val (.int p3), .val (.int p4), .val (.long q5), .second, .val (.long y1), .second, .val (.int x2), .val (.long y3), .second, .val (.long y5), .second, .val (.long y37), .second, .val (.ref b39), .unset] [(.int (1 : Int32))])) t
        refine XS.goto X44.here hx rfl (pc0 := 103) (pc' := 107) rfl (hb hby at_103) (by decide) (by decide) ?_
        exact k
      · refine ⟨(0 : Int32), (by first | rfl | rw [if_neg c48] | simp only [if_neg c48]), fun t k => P47 t ?_⟩
        show Steps p.tables e below (T44.setTop (mkF m 99 #[.val (.long q1), .second, .val (.long q2), .second, .val (.int p3), .val (.int p4), .val (.long q5), .second, .val (.long y1), .second, .val (.int x2), .val (.long y3), .second, .val (.long y5), .second, .val (.long y37), .second, .val (.ref b39), .unset] [(.int (lcmpW y37 y5))])) t
        refine XS.ifYes X44.here hx rfl (pc0 := 99) (pc' := 106) rfl (hb hby at_99) rfl ((if0 _ _).trans (flt (fun q_ => c48 ((lw_gt y37 y5).mp q_))).2.2.2) (by decide) (by decide) ?_
        show Steps p.tables e below (T44.setTop (mkF m 106 #[.val (.long q1), .second, .val (.long q2), .second, .val (.int p3), .val (.int p4), .val (.long q5), .second, .val (.long y1), .second, .val (.int x2), .val (.long y3), .second, .val (.long y5), .second, .val (.long y37), .second, .val (.ref b39), .unset] [])) t
        refine XS.iconst X44.here hx rfl (hb hby at_106) ?_
        exact k
    have P51 : Rch p e below (s₁.setTop (entryFrame m #[(.long q1), (.long q2), (.int p3), (.int p4), (.long q5)] maxLocals)) (T44.setTop (mkF m 111 #[.val (.long q1), .second, .val (.long q2), .second, .val (.int p3), .val (.int p4), .val (.long q5), .second, .val (.long y1), .second, .val (.int x2), .val (.long y3), .second, .val (.long y5), .second, .val (.long y37), .second, .val (.ref b39), .val (.int v49)] [(.ref b39)])) := fun t k => P50 t (by
      show Steps p.tables e below (T44.setTop (mkF m 107 #[.val (.long q1), .second, .val (.long q2), .second, .val (.int p3), .val (.int p4), .val (.long q5), .second, .val (.long y1), .second, .val (.int x2), .val (.long y3), .second, .val (.long y5), .second, .val (.long y37), .second, .val (.ref b39), .unset] [(.int v49)])) t
      refine XS.istore X44.here hx rfl (hb hby at_107) rfl (l' := #[.val (.long q1), .second, .val (.long q2), .second, .val (.int p3), .val (.int p4), .val (.long q5), .second, .val (.long y1), .second, .val (.int x2), .val (.long y3), .second, .val (.long y5), .second, .val (.long y37), .second, .val (.ref b39), .val (.int v49)]) rfl ?_
      show Steps p.tables e below (T44.setTop (mkF m 109 #[.val (.long q1), .second, .val (.long q2), .second, .val (.int p3), .val (.int p4), .val (.long q5), .second, .val (.long y1), .second, .val (.int x2), .val (.long y3), .second, .val (.long y5), .second, .val (.long y37), .second, .val (.ref b39), .val (.int v49)] [])) t
      refine XS.aload X44.here hx rfl (hb hby at_109) rfl rfl ?_
      exact k)
    have f53 : n0 ≤ T44.heap.size := (Nat.le_trans f45 K44.1)
    obtain ⟨cq52, kq52, q52a, q52b, q52c⟩ := isOf hZ rfl E_44
    obtain ⟨_, _, ⟨T52, L52, k52, n52⟩, -, X52, ⟨Lc52, hQ52, l52, y52, z52⟩, st52⟩ := X44.virtualBack hx (y := (⟨"com/example/carrel/carrel/bench/LoadReport", "limited", "()Z"⟩ : MethodName)) (z := (⟨"com/example/carrel/carrel/bench/LoadReport", "limited", "()Z"⟩ : MethodName)) hown (mvT hZ (hw _ (List.mem_of_getElem? (i := 35) rfl))) (mvT hZ (hw _ (List.mem_of_getElem? (i := 36) rfl))) (notFace_of_selects (args := #[]) (mvT hZ (hw _ (List.mem_of_getElem? (i := 38) rfl)))) (mvT hZ (hw _ (List.mem_of_getElem? (i := 38) rfl))) (mvT hZ (hw _ (List.mem_of_getElem? (i := 37) rfl))) (by decide) (backOf (W := 0) (rmL l Z a0 hw [] b39 y37 x2 y1 T44.heap n0 f53 G2_44 G3_44 G1_44) hZ (hw _ (List.mem_of_getElem? (i := 39) rfl)) (hw _ (List.mem_of_getElem? (i := 9) rfl)) (by decide) (by decide)) q52a q52c (g := (mkF m 111 #[.val (.long q1), .second, .val (.long q2), .second, .val (.int p3), .val (.int p4), .val (.long q5), .second, .val (.long y1), .second, .val (.int x2), .val (.long y3), .second, .val (.long y5), .second, .val (.long y37), .second, .val (.ref b39), .val (.int v49)] [(.ref b39)])) rfl (by rw [hml]; rfl) (Steps.refl _) (argsL := []) (rest := []) (lenOf pd_2 rfl) rfl (by show 2 * 0 + _ ≤ _; exact Nat.le_of_eq rfl) (hb hby at_111) (fun _ _ => ⟨rfl, rfl, (by decide : 1 + 0 ≤ _), (by decide : 6 + 0 ≤ _)⟩)
    dsimp only [Pt.U, Pt.locs, Pt.cells, Pt.slots] at X52 l52 y52 z52 st52 hQ52
    subst l52 y52 z52
    obtain ⟨rfl, N52q, e52⟩ := hQ52
    have N52 := Fr.app N44 N52q
    have P54 : Rch p e below (s₁.setTop (entryFrame m #[(.long q1), (.long q2), (.int p3), (.int p4), (.long q5)] maxLocals)) (T52.setTop (mkF m 114 #[.val (.long q1), .second, .val (.long q2), .second, .val (.int p3), .val (.int p4), .val (.long q5), .second, .val (.long y1), .second, .val (.int x2), .val (.long y3), .second, .val (.long y5), .second, .val (.long y37), .second, .val (.ref b39), .val (.int v49)] [(.int (own_lim y37 x2 y1))])) := fun t k => P51 t (st52.trans k)
    obtain ⟨x55, hx55⟩ : ∃ z : Int32, z = (own_lim y37 x2 y1) := ⟨_, rfl⟩
    rw [← hx55] at P54
    have P56 : Rch p e below (s₁.setTop (entryFrame m #[(.long q1), (.long q2), (.int p3), (.int p4), (.long q5)] maxLocals)) (T52.setTop (mkF m 116 #[.val (.long q1), .second, .val (.long q2), .second, .val (.int p3), .val (.int p4), .val (.long q5), .second, .val (.long y1), .second, .val (.int x2), .val (.long y3), .second, .val (.long y5), .second, .val (.long y37), .second, .val (.ref b39), .val (.int v49)] [(.int v49), (.int x55)])) := fun t k => P54 t (by
      show Steps p.tables e below (T52.setTop (mkF m 114 #[.val (.long q1), .second, .val (.long q2), .second, .val (.int p3), .val (.int p4), .val (.long q5), .second, .val (.long y1), .second, .val (.int x2), .val (.long y3), .second, .val (.long y5), .second, .val (.long y37), .second, .val (.ref b39), .val (.int v49)] [(.int x55)])) t
      refine XS.iload X52.here hx rfl (hb hby at_114) rfl ?_
      exact k)
    obtain ⟨v58, hv58, P59⟩ : ∃ (v58 : Int32), v58 = (if x55 = v49 then (1 : Int32) else (0 : Int32)) ∧ Rch p e below (s₁.setTop (entryFrame m #[(.long q1), (.long q2), (.int p3), (.int p4), (.long q5)] maxLocals)) (T52.setTop (mkF m 124 #[.val (.long q1), .second, .val (.long q2), .second, .val (.int p3), .val (.int p4), .val (.long q5), .second, .val (.long y1), .second, .val (.int x2), .val (.long y3), .second, .val (.long y5), .second, .val (.long y37), .second, .val (.ref b39), .val (.int v49)] [(.int v58)])) := by
      by_cases c57 : x55 = v49
      · refine ⟨(1 : Int32), (by first | rfl | rw [if_pos c57] | simp only [if_pos c57]), fun t k => P56 t ?_⟩
        show Steps p.tables e below (T52.setTop (mkF m 116 #[.val (.long q1), .second, .val (.long q2), .second, .val (.int p3), .val (.int p4), .val (.long q5), .second, .val (.long y1), .second, .val (.int x2), .val (.long y3), .second, .val (.long y5), .second, .val (.long y37), .second, .val (.ref b39), .val (.int v49)] [(.int v49), (.int x55)])) t
        refine XS.icmpNo X52.here hx rfl (hb hby at_116) rfl (teq c57).2 ?_
        show Steps p.tables e below (T52.setTop (mkF m 119 #[.val (.long q1), .second, .val (.long q2), .second, .val (.int p3), .val (.int p4), .val (.long q5), .second, .val (.long y1), .second, .val (.int x2), .val (.long y3), .second, .val (.long y5), .second, .val (.long y37), .second, .val (.ref b39), .val (.int v49)] [])) t
        refine XS.iconst X52.here hx rfl (hb hby at_119) ?_
        show Steps p.tables e below (T52.setTop (mkF m 120 #[.val (.long q1), .second, .val (.long q2), .second, .val (.int p3), .val (.int p4), .val (.long q5), .second, .val (.long y1), .second, .val (.int x2), .val (.long y3), .second, .val (.long y5), .second, .val (.long y37), .second, .val (.ref b39), .val (.int v49)] [(.int (1 : Int32))])) t
        refine XS.goto X52.here hx rfl (pc0 := 120) (pc' := 124) rfl (hb hby at_120) (by decide) (by decide) ?_
        exact k
      · refine ⟨(0 : Int32), (by first | rfl | rw [if_neg c57] | simp only [if_neg c57]), fun t k => P56 t ?_⟩
        show Steps p.tables e below (T52.setTop (mkF m 116 #[.val (.long q1), .second, .val (.long q2), .second, .val (.int p3), .val (.int p4), .val (.long q5), .second, .val (.long y1), .second, .val (.int x2), .val (.long y3), .second, .val (.long y5), .second, .val (.long y37), .second, .val (.ref b39), .val (.int v49)] [(.int v49), (.int x55)])) t
        refine XS.icmpYes X52.here hx rfl (pc0 := 116) (pc' := 123) rfl (hb hby at_116) rfl (feq c57).2 (by decide) (by decide) ?_
        show Steps p.tables e below (T52.setTop (mkF m 123 #[.val (.long q1), .second, .val (.long q2), .second, .val (.int p3), .val (.int p4), .val (.long q5), .second, .val (.long y1), .second, .val (.int x2), .val (.long y3), .second, .val (.long y5), .second, .val (.long y37), .second, .val (.ref b39), .val (.int v49)] [])) t
        refine XS.iconst X52.here hx rfl (hb hby at_123) ?_
        exact k
    have hfin : v58 = (1 : Int32) := by
      subst hv58 hx55 hv49 hy42 hy41 hy37 hy33 hx6 hy5 hy3 hx2 hy1
      first | exact own_lawB q1 q2 p3 | exact own_lawA q2 p3 _
    have P60 : Rch p e below (s₁.setTop (entryFrame m #[(.long q1), (.long q2), (.int p3), (.int p4), (.long q5)] maxLocals)) (T52.setTop (mkF m 124 #[.val (.long q1), .second, .val (.long q2), .second, .val (.int p3), .val (.int p4), .val (.long q5), .second, .val (.long y1), .second, .val (.int x2), .val (.long y3), .second, .val (.long y5), .second, .val (.long y37), .second, .val (.ref b39), .val (.int v49)] [(.int (1 : Int32))])) := by have q_ := P59; rw [hfin] at q_; exact q_
    obtain ⟨fs, hr, hrun, hended, hW, hsame⟩ := X52.leave (v := some (.int (1 : Int32))) (fun h => by rw [Bd.returns] at h; cases h)
    refine ⟨_, _, P60 _ ?_, hrun, hended, _, _, rfl, ?_, ⟨_, rfl⟩, hW, hsame.mono (by decide) (by decide)⟩
    · exact retN X52 hx (t := .boolean) Bd.returns (by simp) (hb hby at_124) hr
    · show Q_rm0 Z q1 q2 p3 p4 q5 h0 n0 _ T52.heap _
      rw [e52]
      exact ⟨rfl, N52⟩
set_option maxRecDepth 65536 in
set_option maxHeartbeats 40000000 in
theorem comes_1 {Post : Tables → Env → Array Value → State → Outcome → State → Prop} (hpost : ∀ tb e args s v u, (limb_1_1.after args s (.returned v) u = true ∧ limb_1_2.after args s (.returned v) u = true ∧ True) → FrameEnd s (.returned v) u (Jvm.fieldLocs frame_1_writes args s ++ Jvm.arrayLocs frame_1_arrays args s ++ Jvm.staticLocs frame_1_statics s) 16 128 → Post tb e args s (.returned v) u) :
    ArmFor flags0 classFile x code maxLocals ret World_1 tables_1 room_1 Calls_1 rest_1 Pre_1 Post := by
  intro l hfl _ _ p e ha hc hk s m args below hf hA hF happ hP
  obtain ⟨hcalls, hrest, hpre⟩ := hP
  obtain ⟨-, -, -, hnamed, -, -, -, hat⟩ := (Spec.applies_iff hf).mp happ
  obtain ⟨hg, hn⟩ := and_e (Cond.before_iff.mp (show (Jvm.Cond.and given_1 narrow_1).before args s = true from hpre))
  obtain ⟨gc, gr0⟩ := and_e hg
  obtain ⟨ga0, gr1⟩ := and_e gr0
  obtain ⟨ga1, gr2⟩ := and_e gr1
  obtain ⟨ga2, gr3⟩ := and_e gr2
  obtain ⟨ga3, gr4⟩ := and_e gr3
  obtain ⟨w0, w1, w2, w3, w4, rfl⟩ : ∃ w0 w1 w2 w3 w4 : Value, args = #[w0, w1, w2, w3, w4] := by
    have hs : args.size = 5 := by simpa [Cond.value, given_1] using gc
    obtain ⟨L⟩ := args
    match L, hs with
    | [w0, w1, w2, w3, w4], _ => exact ⟨w0, w1, w2, w3, w4, rfl⟩
  have hw := fun d (hd : d ∈ tables_1) => atoms_spec (ws := Jvm.Cond.code x code maxLocals ret :: tables_1) hat d (List.mem_cons_of_mem _ hd)
  have hfit : Fit s := fun {y c} hc i hi => by
    obtain ⟨ha, rfl⟩ := Array.getElem?_eq_some_iff.mp hc
    have q := List.all_eq_true.mp ((Array.all_eq_true_iff_forall_mem.mp hF) _ (Array.getElem_mem ha)) i (List.mem_range.mpr hi)
    simpa [Array.getElem?_eq_getElem hi] using q
  obtain ⟨i0, ei0⟩ := isL_v ga0
  obtain rfl : w0 = (.long i0) := Option.some.inj ei0
  obtain ⟨i1, ei1⟩ := isL_v ga1
  obtain rfl : w1 = (.long i1) := Option.some.inj ei1
  obtain ⟨i2, ei2⟩ := is_v ga2
  obtain rfl : w2 = (.int i2) := Option.some.inj ei2
  obtain ⟨i3, ei3⟩ := is_v ga3
  obtain rfl : w3 = (.int i3) := Option.some.inj ei3
  obtain ⟨i4, ei4⟩ := isL_v gr4
  obtain rfl : w4 = (.long i4) := Option.some.inj ei4
  obtain ⟨n, o, h1, h2, h3, _, L, rfl, ⟨rfl, N⟩, hq⟩ := rm0 l s _ hw tables_1 i0 i1 i2 i3 i4 s.heap s.heap.size (Nat.le_refl _)  p e ha hc hk s m _ below hf ((Spec.applies_iff_loose hf).mp happ).1 ⟨rfl, State.Warmed39.refl s, rfl⟩ trivial
  refine ⟨n, _, h1, h2, h3, hpost _ _ _ _ _ _ ⟨Cond.after_iff.mpr rfl, Cond.after_iff.mpr (eq_i res_at (Term.int_eval (1)) rfl), trivial⟩ ⟨hq.1, hq.2.1, (hq.2.2.sift fun y hy => Or.inr (N y hy)).mono (by decide) (by decide)⟩⟩
theorem main_1_1 : Claimed_1_1 := comes_1 fun _ _ _ _ _ _ h hF => ⟨h.1, hF⟩
theorem main_1_2 : Claimed_1_2 := comes_1 fun _ _ _ _ _ _ h hF => ⟨h.2.1, hF⟩
end Jvm.Pilot.@@N@@
namespace Jvm.Pilot.@@N@@
open Jvm Jvm.ClassFile Sem Op Lib Jvm.Free Jvm.Stand Jvm.Pilot.@@N@@.Jvm.D
/-! MADE BY PROGRAM (witnessworld.py) out of the Statement's table words and the real class files: 11 classes; the members and pool entries that the words name. The judged class is class 1, her method 1. -/
namespace start1
open Jvm.ClassFile
def u (s : String) : CpInfo := .utf8 (stringToUtf16 s)
/-- a pool by its gaps: so many unusable entries, then the entry; so many at the end -/
def gap : Nat → List CpInfo → List CpInfo
  | 0, r => r
  | n + 1, r => .unusable :: gap n r
def poolList (es : List (Nat × CpInfo)) (last : Nat) : List CpInfo := es.foldr (fun e r => gap e.1 (e.2 :: r)) (gap last [])
def pool (es : List (Nat × CpInfo)) (last : Nat) : Array CpInfo := ⟨poolList es last⟩
def fileOf (pool : Array CpInfo) (this : Nat) (attrs : Array Attribute := #[]) (ms : Array MethodInfo := #[]) (fl : Nat := 33) (sup : Nat := 0) (ifs : Array Nat := #[]) (fds : Array FieldInfo := #[]) : ClassFile where
  minorVersion := 0
  majorVersion := 65
  constantPool := pool
  accessFlags := fl
  thisClass := this
  superClass := sup
  interfaces := ifs
  fields := fds
  methods := ms
  attributes := attrs
def plain (name : String) (sup : Option ClassId) : Class where
  name := name
  kind := .ordinary
  loader := none
  accessFlags := 33
  super := sup
  interfaces := #[]
  cf := none
  fields := #[]
  methods := #[]
  instanceTypes := #[]
  staticTypes := #[]
  resolved := #[]
  callSites := []
  init := .initialized
  statics := none
  mirror := none

def pool0 : Array CpInfo := pool [(5, u "<init>"), (0, u "()V"), (1, .class_ 10), (1, u "java/lang/Object")] 113

def k0c0 : Code := { maxStack := 0, maxLocals := 1, code := object_method_1_code, exceptionTable := #[], attributes := #[] }
def k0m0 : Method := { name := "<init>", desc := "()V", sig := { parameters := [], returnType := none }, accessFlags := 1, code := some k0c0 }
/-- java/lang/Object -/
def k0 : Class := { plain "java/lang/Object" none with
  accessFlags := 33
  interfaces := #[]
  cf := some (fileOf pool0 8 #[] #[{ accessFlags := 1, nameIndex := 5, descriptorIndex := 6, attributes := #[] }] 33 0 #[] #[])
  fields := #[]
  methods := #[k0m0]
  instanceTypes := #[]
  staticTypes := #[]
  resolved := Array.replicate 124 none
  statics := none }

def pool1 : Array CpInfo := pool [(2, .class_ 4), (1, u "java/lang/Object"), (0, u "<init>"), (0, u "()V"), (0, .long 70368744177663), (1, .integer 65535), (0, .long 2), (1, .methodref 13 14), (0, .class_ 15), (0, .nameAndType 16 17), (0, u "java/lang/Math"), (0, u "max"), (0, u "(JJ)J"), (0, .long 2305843009213693951), (1, .class_ 21), (0, u "com/example/carrel/carrel/bench/LoadReport"), (0, .long 18446744073709551615), (1, .long 5), (1, .methodref 20 27), (0, .nameAndType 5 28), (0, u "(JJJIJJ)V"), (0, .methodref 20 30), (0, .nameAndType 31 32), (0, u "limited"), (0, u "()Z"), (0, .class_ 34), (0, u "com/example/carrel/carrel/bench/LoadReportLimitedPinLaw"), (2, u "law"), (0, u "(JJIIJ)Z")] 3

def k1m0 : Method := { name := "<init>", desc := "()V", sig := { parameters := [], returnType := none }, accessFlags := 1, code := none }
def k1c1 : Code := { maxStack := 15, maxLocals := 19, code := code, exceptionTable := #[], attributes := #[] }
def k1m1 : Method := { name := "law", desc := "(JJIIJ)Z", sig := { parameters := [.long, .long, .int, .int, .long], returnType := some .boolean }, accessFlags := 9, code := some k1c1 }
/-- com/example/carrel/carrel/bench/LoadReportLimitedPinLaw -/
def k1 : Class := { plain "com/example/carrel/carrel/bench/LoadReportLimitedPinLaw" (some 0) with
  accessFlags := 49
  interfaces := #[]
  cf := some (fileOf pool1 33 #[] #[{ accessFlags := 1, nameIndex := 5, descriptorIndex := 6, attributes := #[] }, { accessFlags := 9, nameIndex := 37, descriptorIndex := 38, attributes := #[] }] 49 2 #[] #[])
  fields := #[]
  methods := #[k1m0, k1m1]
  instanceTypes := #[]
  staticTypes := #[]
  resolved := Array.replicate 42 none
  statics := none }

def pool2 : Array CpInfo := pool [(1, .class_ 2), (0, u "java/lang/Math"), (1, .class_ 6), (1, u "java/lang/Object"), (0, u "<init>"), (0, u "()V"), (89, .class_ 100), (1, u "java/lang/Math$RandomNumberGeneratorHolder"), (20, u "(JJ)J"), (50, u "negativeZeroFloatBits"), (0, u "J"), (2, u "negativeZeroDoubleBits"), (21, u "max"), (46, u "$assertionsDisabled"), (0, u "Z"), (91, u "twoToTheDoubleScaleDown"), (0, u "D"), (4, u "twoToTheDoubleScaleUp"), (9, u "E"), (3, u "PI"), (2, u "TAU"), (2, u "DEGREES_TO_RADIANS"), (0, u "RADIANS_TO_DEGREES")] 94

def k2m0 : Method := { name := "<init>", desc := "()V", sig := { parameters := [], returnType := none }, accessFlags := 2, code := none }
def k2c1 : Code := { maxStack := 4, maxLocals := 4, code := jdk_29_method_66_code, exceptionTable := #[], attributes := #[] }
def k2m1 : Method := { name := "max", desc := "(JJ)J", sig := { parameters := [.long, .long], returnType := some .long }, accessFlags := 9, code := some k2c1 }
/-- java/lang/Math -/
def k2 : Class := { plain "java/lang/Math" (some 0) with
  accessFlags := 49
  interfaces := #[]
  cf := some (fileOf pool2 1 #[.nestMembers #[98]] #[{ accessFlags := 2, nameIndex := 7, descriptorIndex := 8, attributes := #[] }, { accessFlags := 9, nameIndex := 198, descriptorIndex := 121, attributes := #[] }] 49 4 #[] #[{ accessFlags := 25, nameIndex := 354, descriptorIndex := 339, attributes := #[] }, { accessFlags := 25, nameIndex := 358, descriptorIndex := 339, attributes := #[] }, { accessFlags := 25, nameIndex := 361, descriptorIndex := 339, attributes := #[] }, { accessFlags := 26, nameIndex := 364, descriptorIndex := 339, attributes := #[] }, { accessFlags := 26, nameIndex := 365, descriptorIndex := 339, attributes := #[] }, { accessFlags := 26, nameIndex := 172, descriptorIndex := 173, attributes := #[] }, { accessFlags := 26, nameIndex := 176, descriptorIndex := 173, attributes := #[] }, { accessFlags := 8, nameIndex := 344, descriptorIndex := 339, attributes := #[] }, { accessFlags := 8, nameIndex := 338, descriptorIndex := 339, attributes := #[] }, { accessFlags := 4120, nameIndex := 245, descriptorIndex := 246, attributes := #[] }])
  fields := #[{ name := "E", type := .double, accessFlags := 25, slot := 0, constantValue := 0 }, { name := "PI", type := .double, accessFlags := 25, slot := 1, constantValue := 0 }, { name := "TAU", type := .double, accessFlags := 25, slot := 2, constantValue := 0 }, { name := "DEGREES_TO_RADIANS", type := .double, accessFlags := 26, slot := 3, constantValue := 0 }, { name := "RADIANS_TO_DEGREES", type := .double, accessFlags := 26, slot := 4, constantValue := 0 }, { name := "negativeZeroFloatBits", type := .long, accessFlags := 26, slot := 5, constantValue := 0 }, { name := "negativeZeroDoubleBits", type := .long, accessFlags := 26, slot := 6, constantValue := 0 }, { name := "twoToTheDoubleScaleUp", type := .double, accessFlags := 8, slot := 7, constantValue := 0 }, { name := "twoToTheDoubleScaleDown", type := .double, accessFlags := 8, slot := 8, constantValue := 0 }, { name := "$assertionsDisabled", type := .boolean, accessFlags := 4120, slot := 9, constantValue := 0 }]
  methods := #[k2m0, k2m1]
  instanceTypes := #[]
  staticTypes := #[.double, .double, .double, .double, .double, .long, .long, .double, .double, .boolean]
  resolved := Array.replicate 460 none
  statics := none }

def pool3 : Array CpInfo := pool [(1, .methodref 2 3), (0, .class_ 4), (0, .nameAndType 5 6), (0, u "java/lang/Object"), (0, u "<init>"), (0, u "()V"), (0, .class_ 8), (0, u "java/lang/Record")] 13

def k3c0 : Code := { maxStack := 1, maxLocals := 1, code := jdk_30_method_1_code, exceptionTable := #[], attributes := #[] }
def k3m0 : Method := { name := "<init>", desc := "()V", sig := { parameters := [], returnType := none }, accessFlags := 4, code := some k3c0 }
/-- java/lang/Record -/
def k3 : Class := { plain "java/lang/Record" (some 0) with
  accessFlags := 1057
  interfaces := #[]
  cf := some (fileOf pool3 7 #[] #[{ accessFlags := 4, nameIndex := 5, descriptorIndex := 6, attributes := #[] }] 1057 2 #[] #[])
  fields := #[]
  methods := #[k3m0]
  instanceTypes := #[]
  staticTypes := #[]
  resolved := Array.replicate 22 none
  statics := none }

def pool4 : Array CpInfo := pool [(1, .methodref 2 3), (0, .class_ 4), (0, .nameAndType 5 6), (0, u "java/lang/Record"), (0, u "<init>"), (0, u "()V"), (0, .fieldref 8 9), (0, .class_ 10), (0, .nameAndType 11 12), (0, u "com/example/carrel/carrel/bench/LoadReport"), (0, u "rounds"), (0, u "J"), (0, .fieldref 8 14), (0, .nameAndType 15 12), (0, u "wallNanos"), (0, .fieldref 8 17), (0, .nameAndType 18 12), (0, u "cpuNanos"), (0, .fieldref 8 20), (0, .nameAndType 21 22), (0, u "cores"), (0, u "I"), (0, .fieldref 8 24), (0, .nameAndType 25 12), (0, u "unexpected"), (0, .fieldref 8 27), (0, .nameAndType 28 12), (0, u "withoutRecord"), (2, .long 2), (3, u "limited"), (0, u "()Z"), (52, u "NANOS"), (0, u "D"), (1, u "(JJJIJJ)V")] 37

def k4c0 : Code := { maxStack := 3, maxLocals := 12, code := prog_3_method_1_code, exceptionTable := #[], attributes := #[] }
def k4m0 : Method := { name := "<init>", desc := "(JJJIJJ)V", sig := { parameters := [.long, .long, .long, .int, .long, .long], returnType := none }, accessFlags := 0, code := some k4c0 }
def k4c1 : Code := { maxStack := 6, maxLocals := 1, code := prog_3_method_3_code, exceptionTable := #[], attributes := #[] }
def k4m1 : Method := { name := "limited", desc := "()Z", sig := { parameters := [], returnType := some .boolean }, accessFlags := 0, code := some k4c1 }
/-- com/example/carrel/carrel/bench/LoadReport -/
def k4 : Class := { plain "com/example/carrel/carrel/bench/LoadReport" (some 3) with
  accessFlags := 48
  interfaces := #[]
  cf := some (fileOf pool4 8 #[] #[{ accessFlags := 0, nameIndex := 5, descriptorIndex := 92, attributes := #[] }, { accessFlags := 0, nameIndex := 35, descriptorIndex := 36, attributes := #[] }] 48 2 #[] #[{ accessFlags := 18, nameIndex := 11, descriptorIndex := 12, attributes := #[] }, { accessFlags := 18, nameIndex := 15, descriptorIndex := 12, attributes := #[] }, { accessFlags := 18, nameIndex := 18, descriptorIndex := 12, attributes := #[] }, { accessFlags := 18, nameIndex := 21, descriptorIndex := 22, attributes := #[] }, { accessFlags := 18, nameIndex := 25, descriptorIndex := 12, attributes := #[] }, { accessFlags := 18, nameIndex := 28, descriptorIndex := 12, attributes := #[] }, { accessFlags := 26, nameIndex := 89, descriptorIndex := 90, attributes := #[] }])
  fields := #[{ name := "rounds", type := .long, accessFlags := 18, slot := 0, constantValue := 0 }, { name := "wallNanos", type := .long, accessFlags := 18, slot := 1, constantValue := 0 }, { name := "cpuNanos", type := .long, accessFlags := 18, slot := 2, constantValue := 0 }, { name := "cores", type := .int, accessFlags := 18, slot := 3, constantValue := 0 }, { name := "unexpected", type := .long, accessFlags := 18, slot := 4, constantValue := 0 }, { name := "withoutRecord", type := .long, accessFlags := 18, slot := 5, constantValue := 0 }, { name := "NANOS", type := .double, accessFlags := 26, slot := 0, constantValue := 0 }]
  methods := #[k4m0, k4m1]
  instanceTypes := #[.long, .long, .long, .int, .long, .long]
  staticTypes := #[.double]
  resolved := Array.replicate 130 none
  statics := none }

def pool5 : Array CpInfo := pool [(1, u "java/lang/Cloneable"), (0, .class_ 1), (0, u "java/lang/Object"), (0, .class_ 3)] 3

/-- java/lang/Cloneable -/
def k5 : Class := { plain "java/lang/Cloneable" (some 0) with
  accessFlags := 1537
  interfaces := #[]
  cf := some (fileOf pool5 2 #[] #[] 1537 4 #[] #[])
  fields := #[]
  methods := #[]
  instanceTypes := #[]
  staticTypes := #[]
  resolved := Array.replicate 8 none
  statics := none }

def pool6 : Array CpInfo := pool [(1, u "java/io/Serializable"), (0, .class_ 1), (0, u "java/lang/Object"), (0, .class_ 3)] 3

/-- java/io/Serializable -/
def k6 : Class := { plain "java/io/Serializable" (some 0) with
  accessFlags := 1537
  interfaces := #[]
  cf := some (fileOf pool6 2 #[] #[] 1537 4 #[] #[])
  fields := #[]
  methods := #[]
  instanceTypes := #[]
  staticTypes := #[]
  resolved := Array.replicate 8 none
  statics := none }

/-- the primitive byte -/
def k7 : Class := { plain "byte" none with kind := .primitive 'B', accessFlags := 0x411 }
/-- [B -/
def k8 : Class := { plain "[B" (some 0) with kind := .array 7 .byte, interfaces := #[5, 6], accessFlags := 1041 }

/-- the primitive int -/
def k9 : Class := { plain "int" none with kind := .primitive 'I', accessFlags := 0x411 }
/-- [I -/
def k10 : Class := { plain "[I" (some 0) with kind := .array 9 .int, interfaces := #[5, 6], accessFlags := 1041 }

def heap : Heap := #[]
def classes : Array Class := #[k0, k1, k2, k3, k4, k5, k6, k7, k8, k9, k10]
def interned : List (Array UInt16 × Addr) := []
def slotsUsed : Nat := 0
def theMethod : MethodId := ⟨1, 1⟩
def args0 : Array Value := #[.long 5, .long 7, .int 3, .int 1, .long 9]
def aboutOver (below : List Frame) : State where
  vm := { classes := classes, interned := interned.toArray }
  heap := heap
  slotsUsed := slotsUsed
  threads := #[{ frames := .invoking theMethod args0 :: below }]
def below0 : List Frame := [.native { method := ⟨0, 0⟩, args := #[] }]
def about1 : State := aboutOver below0
def p0 : Program := .bare "" "" ""
def e0 : Env := launch0.env 0 0 0
theorem w_frames : about1.frames = Frame.invoking theMethod args0 :: below0 := rfl
set_option maxRecDepth 65536 in
theorem w_args : argsFit about1.vm theMethod args0 = true := by decide +kernel
set_option maxRecDepth 65536 in
theorem w_heap : heapFits about1 = true := by decide +kernel
set_option maxRecDepth 65536 in
theorem w_runnable : about1.curStatus? = some .runnable := by decide +kernel
set_option maxRecDepth 65536 in
theorem w_alone : about1.alone = true := by decide +kernel
set_option maxRecDepth 65536 in
theorem w_named : about1.methodNamed? x = some theMethod := by decide +kernel
set_option maxRecDepth 65536 in
theorem w_hears : about1.hears theMethod below0 = true := by decide +kernel
set_option maxRecDepth 65536 in
theorem w_ripe : about1.ripe theMethod args0 below0 = true := by decide +kernel
theorem w_running : about1.status = .running := rfl
set_option maxRecDepth 65536 in
theorem w_room : about1.hasRoom e0.platform room_1 = true :=
  launch0.hasRoom_least _ room_1 (by decide +kernel) (by decide +kernel) (by decide +kernel) (by decide +kernel) (by decide +kernel) (by decide +kernel)
theorem allAtoms_all (ts : List Jvm.Cond) (a : Array Jvm.Value) (st : Jvm.State) : (allAtoms ts).before a st = ts.all (fun c => c.before a st) := by
  induction ts with
  | nil => rfl
  | cons c t ih =>
    show (Jvm.Cond.and c (allAtoms t)).before a st = _
    rw [Jvm.Cond.before_and, ih, List.all_cons]
def words1 : List Jvm.Cond := Jvm.Cond.code x code maxLocals ret :: tables_1
/-- a 'code' word, met by the world's own term for the bytes: nothing is compared byte by byte -/
theorem code_word {y : MethodName} {bytes : ByteArray} {mx : Nat} {rt : Option FieldType} {a : Array Value} {s : State} {m : MethodId} {meth : Method} {c : Code} (h1 : s.methodNamed? y = some m) (h2 : s.vm.method? m = some meth) (h3 : meth.code = some c) (h4 : c.code = bytes)
    (h5 : (c.maxLocals == mx && c.exceptionTable.isEmpty && decide (c.maxStack ≤ mostOperands) && decide (meth.sig.returnType = rt) && !meth.locks && decide (parseMethodDescriptor y.desc = some meth.sig)) = true) : (Jvm.Cond.code y bytes mx rt).before a s = true := by
  simp only [Bool.and_eq_true, beq_iff_eq, Bool.not_eq_true', decide_eq_true_eq] at h5
  obtain ⟨⟨⟨⟨⟨g1, g2⟩, g3⟩, g4⟩, g5⟩, g6⟩ := h5
  simp [Cond.before, Cond.holds, Cond.value, h1, h2, h3, h4, g1, g2, g3, g4, g5, g6]
def isCode : Jvm.Cond → Bool
  | .code _ _ _ _ => true
  | _ => false
theorem all_split {L : List Jvm.Cond} {P : Jvm.Cond → Bool} (h1 : L.all (fun c => isCode c || P c) = true) (h2 : ∀ c ∈ L.filter isCode, P c = true) : L.all P = true := by
  refine List.all_eq_true.mpr fun c hc => ?_
  have h := List.all_eq_true.mp h1 c hc
  rcases Bool.eq_false_or_eq_true (isCode c) with hi | hi
  · exact h2 c (List.mem_filter.mpr ⟨hc, hi⟩)
  · simpa [hi] using h
set_option maxRecDepth 65536 in
theorem w_c0 : (Jvm.Cond.code x code maxLocals ret).before args0 about1 = true := code_word (m := ⟨1, 1⟩) (meth := k1m1) (c := k1c1) (by decide +kernel) rfl rfl rfl (by decide +kernel)
set_option maxRecDepth 65536 in
theorem w_c1 : (Jvm.Cond.code ({ cls := "java/lang/Math", name := "max", desc := "(JJ)J" } : Jvm.MethodName) jdk_29_method_66_code (4 : Nat) (Option.some Jvm.ClassFile.FieldType.long)).before args0 about1 = true := code_word (m := ⟨2, 1⟩) (meth := k2m1) (c := k2c1) (by decide +kernel) rfl rfl rfl (by decide +kernel)
set_option maxRecDepth 65536 in
theorem w_c2 : (Jvm.Cond.code ({ cls := "com/example/carrel/carrel/bench/LoadReport", name := "<init>", desc := "(JJJIJJ)V" } : Jvm.MethodName) prog_3_method_1_code (12 : Nat) (Option.none : Option Jvm.ClassFile.FieldType)).before args0 about1 = true := code_word (m := ⟨4, 0⟩) (meth := k4m0) (c := k4c0) (by decide +kernel) rfl rfl rfl (by decide +kernel)
set_option maxRecDepth 65536 in
theorem w_c3 : (Jvm.Cond.code ({ cls := "java/lang/Record", name := "<init>", desc := "()V" } : Jvm.MethodName) jdk_30_method_1_code (1 : Nat) (Option.none : Option Jvm.ClassFile.FieldType)).before args0 about1 = true := code_word (m := ⟨3, 0⟩) (meth := k3m0) (c := k3c0) (by decide +kernel) rfl rfl rfl (by decide +kernel)
set_option maxRecDepth 65536 in
theorem w_c4 : (Jvm.Cond.code ({ cls := "java/lang/Object", name := "<init>", desc := "()V" } : Jvm.MethodName) object_method_1_code (1 : Nat) (Option.none : Option Jvm.ClassFile.FieldType)).before args0 about1 = true := code_word (m := ⟨0, 0⟩) (meth := k0m0) (c := k0c0) (by decide +kernel) rfl rfl rfl (by decide +kernel)
set_option maxRecDepth 65536 in
theorem w_c5 : (Jvm.Cond.code ({ cls := "com/example/carrel/carrel/bench/LoadReport", name := "limited", desc := "()Z" } : Jvm.MethodName) prog_3_method_3_code (1 : Nat) (Option.some Jvm.ClassFile.FieldType.boolean)).before args0 about1 = true := code_word (m := ⟨4, 1⟩) (meth := k4m1) (c := k4c1) (by decide +kernel) rfl rfl rfl (by decide +kernel)
def codes1 : List Jvm.Cond := [Jvm.Cond.code x code maxLocals ret, Jvm.Cond.code ({ cls := "java/lang/Math", name := "max", desc := "(JJ)J" } : Jvm.MethodName) jdk_29_method_66_code (4 : Nat) (Option.some Jvm.ClassFile.FieldType.long), Jvm.Cond.code ({ cls := "com/example/carrel/carrel/bench/LoadReport", name := "<init>", desc := "(JJJIJJ)V" } : Jvm.MethodName) prog_3_method_1_code (12 : Nat) (Option.none : Option Jvm.ClassFile.FieldType), Jvm.Cond.code ({ cls := "java/lang/Record", name := "<init>", desc := "()V" } : Jvm.MethodName) jdk_30_method_1_code (1 : Nat) (Option.none : Option Jvm.ClassFile.FieldType), Jvm.Cond.code ({ cls := "java/lang/Object", name := "<init>", desc := "()V" } : Jvm.MethodName) object_method_1_code (1 : Nat) (Option.none : Option Jvm.ClassFile.FieldType), Jvm.Cond.code ({ cls := "com/example/carrel/carrel/bench/LoadReport", name := "limited", desc := "()Z" } : Jvm.MethodName) prog_3_method_3_code (1 : Nat) (Option.some Jvm.ClassFile.FieldType.boolean)]
set_option maxRecDepth 65536 in
theorem codes_eq : words1.filter isCode = codes1 := rfl
theorem w_codes : ∀ c ∈ words1.filter isCode, c.before args0 about1 = true := by
  rw [codes_eq]
  intro c hc
  simp only [codes1, List.mem_cons, List.not_mem_nil, or_false] at hc
  rcases hc with rfl | rfl | rfl | rfl | rfl | rfl
  · exact w_c0
  · exact w_c1
  · exact w_c2
  · exact w_c3
  · exact w_c4
  · exact w_c5
set_option maxRecDepth 65536 in
theorem w_t1 : (words1.take 24).all (fun c => isCode c || c.before args0 about1) = true := by decide +kernel
set_option maxRecDepth 65536 in
theorem w_t2 : (words1.drop 24).all (fun c => isCode c || c.before args0 about1) = true := by decide +kernel
theorem w_tables : (allAtoms (Jvm.Cond.code x code maxLocals ret :: tables_1)).before args0 about1 = true := by
  rw [allAtoms_all]
  show words1.all (fun c => c.before args0 about1) = true
  refine all_split ?_ w_codes
  rw [← List.take_append_drop 24 words1, List.all_append, w_t1, w_t2]
  rfl
set_option maxRecDepth 65536 in
theorem w_case : (Jvm.Cond.and given_1 narrow_1).before args0 about1 = true := by decide +kernel
theorem w_applies : (headSpec (Jvm.Cond.code x code maxLocals ret :: tables_1) room_1).applies x e0.platform about1 = true :=
  (Spec.applies_iff w_frames).mpr ⟨w_running, w_runnable, w_alone, w_named, w_hears, w_ripe, w_room, w_tables⟩
theorem atStart : AtStart classFile x code maxLocals ret World_1 tables_1 room_1 Calls_1 rest_1 Pre_1 launch0 p0 e0 about1 theMethod args0 below0 :=
  ⟨lists_1, trivial, launch0.admits_env _ _ _, launch0.least_env, fairChoices_fair.cas, fairChoices_fair.clock, w_frames, w_args, w_heap, w_applies, trivial, trivial, w_case⟩
end start1
theorem witness_1 : WitnessClaimed_1 := ⟨start1.p0, start1.e0, start1.about1, start1.theMethod, start1.args0, start1.below0, start1.atStart⟩
end Jvm.Pilot.@@N@@
