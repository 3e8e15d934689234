import JvmDerived
import JvmDerived.Pilot.@@N@@Statement
import JvmDerived.Pilot.@@N@@Code
set_option linter.unusedVariables false
set_option linter.unusedSimpArgs false
namespace Jvm.RoadKit
open Sem ClassFile Op Lib Jvm.Stand Jvm.Free Jvm.LawKit
section New
variable {p : Program} {l : Launch} {e : Env} {R : Room} {s : State} {m : MethodId} {args : Array Value} {below : List Frame} {meth : Method} {c : Code} {T : State} {locs : List Loc} {cells slots : Nat}
theorem retI (X : Stand p l e R s m args below meth c T locs cells slots) (hx : p.tables.exec = Jvm.exec) {pc : Nat} {Ls : Array Slot} {z : Int32} {rest : List Value} (hret : meth.sig.returnType = some .int) (hd : decode c.code pc = .ok (.ireturn, 1)) {fs : List Frame}
    (hl : ∀ (f : JFrame) (acts : List Action), f.method = m → f.locked = none → f.entered = [] → (doReturn e (T.setTop f) acts (some (.int z))).1 = T.setFrames fs) : Steps p.tables e below (T.setTop (mkF m pc Ls (.int z :: rest))) (T.setFrames fs) := by
  have hm' : T.vm.method? m = some meth := X.method'
  have hn : narrow .int (.int z) = .int z := rfl
  show Steps p.tables e below (T.setTop { method := m, pc := pc, locals := Ls, stack := _ :: rest, locked := none }) _
  jvm_step X.here [X.here.top, hx, hd, hm', hret, hn]
  first | (intro acts; rw [hl _ acts rfl rfl rfl]) | rw [hl _ _ rfl rfl rfl]
  exact Steps.refl _
end New
end Jvm.RoadKit
namespace Jvm.Pilot.@@N@@
open Jvm Jvm.ClassFile Sem Op Lib Jvm.Free Jvm.Stand Jvm.LawKit Jvm.RoadKit Bundle Jvm.Pilot.@@N@@.Jvm.D
theorem own_more {p : Program} {l : Launch} {e : Env} {R : Room} {s : State} {m : MethodId} {args : Array Value} {below : List Frame} {meth : Method} {c : Code} {T : State} {locs : List Loc} {k n k' n' : Nat} (X : Stand p l e R s m args below meth c T locs k n) (hk : k ≤ k') (hn : n ≤ n') : Stand p l e R s m args below meth c T locs k' n' := { X with same := X.same.mono hk hn }
theorem own_nar {t : FieldType} {v : Value} (h : v.isRef = true) (ht : t.isReference = true := by rfl) : narrow t v = v := by
  rcases ref_cases h with rfl | ⟨a, rfl⟩ <;> cases t <;> first | rfl | (cases ht; done)
theorem own_fit {t : FieldType} {v : Value} (h : v.isRef = true) (ht : t.isReference = true := by rfl) : fits t v = true := by
  rcases ref_cases h with rfl | ⟨a, rfl⟩ <;> cases t <;> first | rfl | (cases ht; done)
theorem own_cat {v : Value} (h : v.isRef = true) : v.category = 1 := by rcases ref_cases h with rfl | ⟨a, rfl⟩ <;> rfl
abbrev Rch (p : Program) (e : Env) (below : List Frame) (A B : State) : Prop := ∀ t, Steps p.tables e below B t → Steps p.tables e below A t
theorem own_pos {x : Int64} (h : (0 : Int64) < x) : ¬ (x = 0) := by rintro rfl; exact absurd h (by decide)

theorem d1_0 : decode prog_78_method_1_code 0 = .ok (.aload_n 0, 1) := by decide +kernel
theorem d1_1 : decode prog_78_method_1_code 1 = .ok (.invokespecial 1, 3) := by decide +kernel
theorem d1_4 : decode prog_78_method_1_code 4 = .ok (.aload_n 0, 1) := by decide +kernel
theorem d1_5 : decode prog_78_method_1_code 5 = .ok (.ldc2_w 9, 3) := by decide +kernel
theorem d1_8 : decode prog_78_method_1_code 8 = .ok (.putfield 11, 3) := by decide +kernel
theorem d1_11 : decode prog_78_method_1_code 11 = .ok (.return_, 1) := by decide +kernel
theorem pn_0 : plainName "com/example/usher/usher/server/Traffic" = true := by first | (simp [plainName, overriddenIn]; done) | decide +kernel
theorem d3_0 : decode prog_78_method_8_code 0 = .ok (.aload_n 0, 1) := by decide +kernel
theorem d3_1 : decode prog_78_method_8_code 1 = .ok (.dup, 1) := by decide +kernel
theorem d3_2 : decode prog_78_method_8_code 2 = .ok (.getfield 24, 3) := by decide +kernel
theorem d3_5 : decode prog_78_method_8_code 5 = .ok (.lconst 1, 1) := by decide +kernel
theorem d3_6 : decode prog_78_method_8_code 6 = .ok (.ladd, 1) := by decide +kernel
theorem d3_7 : decode prog_78_method_8_code 7 = .ok (.putfield 24, 3) := by decide +kernel
theorem d3_10 : decode prog_78_method_8_code 10 = .ok (.return_, 1) := by decide +kernel
theorem d6_0 : decode jdk_29_method_70_code 0 = .ok (.lload_n 0, 1) := by decide +kernel
theorem d6_1 : decode jdk_29_method_70_code 1 = .ok (.lload_n 2, 1) := by decide +kernel
theorem d6_2 : decode jdk_29_method_70_code 2 = .ok (.lcmp, 1) := by decide +kernel
theorem d6_3 : decode jdk_29_method_70_code 3 = .ok (.ifCond .gt 7, 3) := by decide +kernel
theorem d6_10 : decode jdk_29_method_70_code 10 = .ok (.lload_n 2, 1) := by decide +kernel
theorem d6_6 : decode jdk_29_method_70_code 6 = .ok (.lload_n 0, 1) := by decide +kernel
theorem d6_7 : decode jdk_29_method_70_code 7 = .ok (.goto 4, 3) := by decide +kernel
theorem d6_11 : decode jdk_29_method_70_code 11 = .ok (.lreturn, 1) := by decide +kernel
theorem d7_0 : decode jdk_29_method_66_code 0 = .ok (.lload_n 0, 1) := by decide +kernel
theorem d7_1 : decode jdk_29_method_66_code 1 = .ok (.lload_n 2, 1) := by decide +kernel
theorem d7_2 : decode jdk_29_method_66_code 2 = .ok (.lcmp, 1) := by decide +kernel
theorem d7_3 : decode jdk_29_method_66_code 3 = .ok (.ifCond .lt 7, 3) := by decide +kernel
theorem d7_10 : decode jdk_29_method_66_code 10 = .ok (.lload_n 2, 1) := by decide +kernel
theorem d7_6 : decode jdk_29_method_66_code 6 = .ok (.lload_n 0, 1) := by decide +kernel
theorem d7_7 : decode jdk_29_method_66_code 7 = .ok (.goto 4, 3) := by decide +kernel
theorem d7_11 : decode jdk_29_method_66_code 11 = .ok (.lreturn, 1) := by decide +kernel
theorem d5_0 : decode prog_78_method_5_code 0 = .ok (.aload_n 0, 1) := by decide +kernel
theorem d5_1 : decode prog_78_method_5_code 1 = .ok (.dup, 1) := by decide +kernel
theorem d5_2 : decode prog_78_method_5_code 2 = .ok (.getfield 24, 3) := by decide +kernel
theorem d5_5 : decode prog_78_method_5_code 5 = .ok (.lconst 1, 1) := by decide +kernel
theorem d5_6 : decode prog_78_method_5_code 6 = .ok (.ladd, 1) := by decide +kernel
theorem d5_7 : decode prog_78_method_5_code 7 = .ok (.putfield 24, 3) := by decide +kernel
theorem d5_10 : decode prog_78_method_5_code 10 = .ok (.aload_n 0, 1) := by decide +kernel
theorem d5_11 : decode prog_78_method_5_code 11 = .ok (.dup, 1) := by decide +kernel
theorem d5_12 : decode prog_78_method_5_code 12 = .ok (.getfield 27, 3) := by decide +kernel
theorem d5_15 : decode prog_78_method_5_code 15 = .ok (.lconst 1, 1) := by decide +kernel
theorem d5_16 : decode prog_78_method_5_code 16 = .ok (.ladd, 1) := by decide +kernel
theorem d5_17 : decode prog_78_method_5_code 17 = .ok (.putfield 27, 3) := by decide +kernel
theorem d5_20 : decode prog_78_method_5_code 20 = .ok (.aload_n 0, 1) := by decide +kernel
theorem d5_21 : decode prog_78_method_5_code 21 = .ok (.aload_n 0, 1) := by decide +kernel
theorem d5_22 : decode prog_78_method_5_code 22 = .ok (.getfield 11, 3) := by decide +kernel
theorem d5_25 : decode prog_78_method_5_code 25 = .ok (.lload_n 1, 1) := by decide +kernel
theorem d5_26 : decode prog_78_method_5_code 26 = .ok (.invokestatic 30, 3) := by decide +kernel
theorem d5_29 : decode prog_78_method_5_code 29 = .ok (.putfield 11, 3) := by decide +kernel
theorem d5_32 : decode prog_78_method_5_code 32 = .ok (.aload_n 0, 1) := by decide +kernel
theorem d5_33 : decode prog_78_method_5_code 33 = .ok (.aload_n 0, 1) := by decide +kernel
theorem d5_34 : decode prog_78_method_5_code 34 = .ok (.getfield 36, 3) := by decide +kernel
theorem d5_37 : decode prog_78_method_5_code 37 = .ok (.lload_n 1, 1) := by decide +kernel
theorem d5_38 : decode prog_78_method_5_code 38 = .ok (.invokestatic 39, 3) := by decide +kernel
theorem d5_41 : decode prog_78_method_5_code 41 = .ok (.putfield 36, 3) := by decide +kernel
theorem d5_44 : decode prog_78_method_5_code 44 = .ok (.aload_n 0, 1) := by decide +kernel
theorem d5_45 : decode prog_78_method_5_code 45 = .ok (.dup, 1) := by decide +kernel
theorem d5_46 : decode prog_78_method_5_code 46 = .ok (.getfield 42, 3) := by decide +kernel
theorem d5_49 : decode prog_78_method_5_code 49 = .ok (.lload_n 1, 1) := by decide +kernel
theorem d5_50 : decode prog_78_method_5_code 50 = .ok (.ladd, 1) := by decide +kernel
theorem d5_51 : decode prog_78_method_5_code 51 = .ok (.putfield 42, 3) := by decide +kernel
theorem d5_54 : decode prog_78_method_5_code 54 = .ok (.return_, 1) := by decide +kernel
theorem d4_0 : decode prog_78_method_13_code 0 = .ok (.iconst 3, 1) := by decide +kernel
theorem d4_1 : decode prog_78_method_13_code 1 = .ok (.newarray .long, 2) := by decide +kernel
theorem d4_3 : decode prog_78_method_13_code 3 = .ok (.astore_n 1, 1) := by decide +kernel
theorem d4_4 : decode prog_78_method_13_code 4 = .ok (.aload_n 0, 1) := by decide +kernel
theorem d4_5 : decode prog_78_method_13_code 5 = .ok (.getfield 27, 3) := by decide +kernel
theorem d4_8 : decode prog_78_method_13_code 8 = .ok (.lconst 0, 1) := by decide +kernel
theorem d4_9 : decode prog_78_method_13_code 9 = .ok (.lcmp, 1) := by decide +kernel
theorem d4_10 : decode prog_78_method_13_code 10 = .ok (.ifCond .le 41, 3) := by decide +kernel
theorem d4_13 : decode prog_78_method_13_code 13 = .ok (.aload_n 1, 1) := by decide +kernel
theorem d4_14 : decode prog_78_method_13_code 14 = .ok (.iconst 0, 1) := by decide +kernel
theorem d4_15 : decode prog_78_method_13_code 15 = .ok (.aload_n 0, 1) := by decide +kernel
theorem d4_16 : decode prog_78_method_13_code 16 = .ok (.getfield 11, 3) := by decide +kernel
theorem d4_19 : decode prog_78_method_13_code 19 = .ok (.ldc2_w 48, 3) := by decide +kernel
theorem d4_22 : decode prog_78_method_13_code 22 = .ok (.ldiv, 1) := by decide +kernel
theorem d4_23 : decode prog_78_method_13_code 23 = .ok (.lastore, 1) := by decide +kernel
theorem d4_24 : decode prog_78_method_13_code 24 = .ok (.aload_n 1, 1) := by decide +kernel
theorem d4_25 : decode prog_78_method_13_code 25 = .ok (.iconst 1, 1) := by decide +kernel
theorem d4_26 : decode prog_78_method_13_code 26 = .ok (.aload_n 0, 1) := by decide +kernel
theorem d4_27 : decode prog_78_method_13_code 27 = .ok (.getfield 42, 3) := by decide +kernel
theorem d4_30 : decode prog_78_method_13_code 30 = .ok (.aload_n 0, 1) := by decide +kernel
theorem d4_31 : decode prog_78_method_13_code 31 = .ok (.getfield 27, 3) := by decide +kernel
theorem d4_34 : decode prog_78_method_13_code 34 = .ok (.ldiv, 1) := by decide +kernel
theorem d4_35 : decode prog_78_method_13_code 35 = .ok (.ldc2_w 48, 3) := by decide +kernel
theorem d4_38 : decode prog_78_method_13_code 38 = .ok (.ldiv, 1) := by decide +kernel
theorem d4_39 : decode prog_78_method_13_code 39 = .ok (.lastore, 1) := by decide +kernel
theorem d4_40 : decode prog_78_method_13_code 40 = .ok (.aload_n 1, 1) := by decide +kernel
theorem d4_41 : decode prog_78_method_13_code 41 = .ok (.iconst 2, 1) := by decide +kernel
theorem d4_42 : decode prog_78_method_13_code 42 = .ok (.aload_n 0, 1) := by decide +kernel
theorem d4_43 : decode prog_78_method_13_code 43 = .ok (.getfield 36, 3) := by decide +kernel
theorem d4_46 : decode prog_78_method_13_code 46 = .ok (.ldc2_w 48, 3) := by decide +kernel
theorem d4_49 : decode prog_78_method_13_code 49 = .ok (.ldiv, 1) := by decide +kernel
theorem d4_50 : decode prog_78_method_13_code 50 = .ok (.lastore, 1) := by decide +kernel
theorem d4_51 : decode prog_78_method_13_code 51 = .ok (.aload_n 1, 1) := by decide +kernel
theorem d4_52 : decode prog_78_method_13_code 52 = .ok (.areturn, 1) := by decide +kernel
theorem pn_1 : plainName "com/example/usher/usher/server/TrafficLatencyMillisPinLaw" = true := by first | (simp [plainName, overriddenIn]; done) | decide +kernel
theorem pd_0 : parseMethodDescriptor "(JJ)J" = some ⟨[.long, .long], some .long⟩ := by decide +kernel
theorem pd_1 : parseMethodDescriptor "()V" = some ⟨[], none⟩ := by decide +kernel
theorem pd_2 : parseMethodDescriptor "()[J" = some ⟨[], some (.array .long)⟩ := by decide +kernel
theorem pd_3 : parseMethodDescriptor "(J)V" = some ⟨[.long], none⟩ := by decide +kernel
def Q_rmI (Z : State) (a1 : Addr) (h0 : Heap) (n0 : Nat) (v : Option Value) (h : Heap) (L : List Loc) : Prop := v = none ∧ Fr n0 L ∧ Keep h0 h [a1] ∧ (Exa Z h a1 "com/example/usher/usher/server/Traffic") ∧ (Fld Z h a1 "com/example/usher/usher/server/Traffic" "sent" "J" (.long (0 : Int64))) ∧ (Fld Z h a1 "com/example/usher/usher/server/Traffic" "answered" "J" (.long (0 : Int64))) ∧ (Fld Z h a1 "com/example/usher/usher/server/Traffic" "latencyMin" "J" (.long (9223372036854775807 : Int64))) ∧ (Fld Z h a1 "com/example/usher/usher/server/Traffic" "latencyMax" "J" (.long (0 : Int64))) ∧ (Fld Z h a1 "com/example/usher/usher/server/Traffic" "latencyTotal" "J" (.long (0 : Int64)))
set_option maxRecDepth 65536 in
set_option maxHeartbeats 40000000 in
theorem rmI (l : Launch) (Z : State) (a0 : Array Value) (hw : ∀ d ∈ tables_1, d.before a0 Z = true) (ws : List Jvm.Cond) (a1 : Addr) (h0 : Heap) (n0 : Nat) (Z0 : n0 ≤ h0.size) (E1 : Exa Z h0 a1 "com/example/usher/usher/server/Traffic") (g1 : n0 ≤ a1) (F0 : Fld Z h0 a1 "com/example/usher/usher/server/Traffic" "sent" "J" (.long (0 : Int64))) (F1 : Fld Z h0 a1 "com/example/usher/usher/server/Traffic" "answered" "J" (.long (0 : Int64))) (F2 : Fld Z h0 a1 "com/example/usher/usher/server/Traffic" "latencyMin" "J" (.long (0 : Int64))) (F3 : Fld Z h0 a1 "com/example/usher/usher/server/Traffic" "latencyMax" "J" (.long (0 : Int64))) (F4 : Fld Z h0 a1 "com/example/usher/usher/server/Traffic" "latencyTotal" "J" (.long (0 : Int64))) :
    MetFree l (⟨"com/example/usher/usher/server/Traffic", "<init>", "()V"⟩ : MethodName) (head1 (Jvm.Cond.code (⟨"com/example/usher/usher/server/Traffic", "<init>", "()V"⟩ : MethodName) prog_78_method_1_code 1 none :: ws) ({ frames := 1, cells := 0, slots := 0, locals := 12 } : Room)) (fun a U => a = #[(.ref a1)] ∧ Z.Warmed39 U.vm ∧ U.heap = h0) (fun _ _ _ _ _ => True) (fun _ U o U' => ∃ v L, o = .returned v ∧ Q_rmI Z a1 h0 n0 v U'.heap L ∧ FrameEnd U o U' L ({ frames := 1, cells := 0, slots := 0, locals := 12 } : Room).cells ({ frames := 1, cells := 0, slots := 0, locals := 12 } : Room).slots) := by
  refine MetFree.of_bodySF (plainFor_of_name pn_0) hisR ?_
  intro p e s m args below meth c s₁ Bd hml0 hP hK
  obtain ⟨rfl, hZ, hh⟩ := hP
  have hx := Bd.exec
  have hby := Bd.bytes
  have hml : c.maxLocals = 1 := hml0
  have hown : s.vm.findClass "com/example/usher/usher/server/Traffic" = some m.cls := findClass_of_methodNamed Bd.named
  have hnm := (name_of_methodNamed Bd.named Bd.method).1
  have X0 : Stand p l e ({ frames := 1, cells := 0, slots := 0, locals := 12 } : Room) s m #[(.ref a1)] below meth c s₁ [] 0 0 := Stand.of_body Bd
  have e0 : s₁.heap = h0 := by rw [← hh, Bd.state]; rfl
  have N0 := Fr.nil n0
  have P0 : Rch p e below (s₁.setTop (entryFrame m #[(.ref a1)] 1)) (s₁.setTop (mkF m 0 #[.val (.ref a1)] [])) := fun t k => castTop (by first | (simp [entryFrame, mkF, argsToLocals, Value.category]; done) | rfl) k
  have P1 : Rch p e below (s₁.setTop (entryFrame m #[(.ref a1)] 1)) (s₁.setTop (mkF m 1 #[.val (.ref a1)] [(.ref a1)])) := fun t k => P0 t (by
    show Steps p.tables e below (s₁.setTop (mkF m 0 #[.val (.ref a1)] [])) t
    refine XS.aloadN X0.here hx rfl (hb hby d1_0) rfl rfl ?_
    exact k)
  obtain ⟨T2, X2, e2, st2⟩ := initO X0 hx hZ hown (hw _ (List.mem_of_getElem? (i := 7) rfl)) (hw _ (List.mem_of_getElem? (i := 8) rfl)) (hw _ (List.mem_of_getElem? (i := 9) rfl)) e0 (g := (mkF m 1 #[.val (.ref a1)] [(.ref a1)])) rfl (by rw [hml]; rfl) rfl (hb hby d1_1) (by decide) (W := 0) (by show 2 * 0 + _ ≤ _; exact Nat.le_of_eq rfl) (by decide)
  have P3 : Rch p e below (s₁.setTop (entryFrame m #[(.ref a1)] 1)) (T2.setTop (mkF m 4 #[.val (.ref a1)] [])) := fun t k => P1 t (st2 t k)
  have P4 : Rch p e below (s₁.setTop (entryFrame m #[(.ref a1)] 1)) (T2.setTop (mkF m 8 #[.val (.ref a1)] [(.long (9223372036854775807 : Int64)), (.ref a1)])) := fun t k => P3 t (by
    show Steps p.tables e below (T2.setTop (mkF m 4 #[.val (.ref a1)] [])) t
    refine XS.aloadN X2.here hx rfl (hb hby d1_4) rfl rfl ?_
    show Steps p.tables e below (T2.setTop (mkF m 5 #[.val (.ref a1)] [(.ref a1)])) t
    refine X2.ldc2Long hx hown (mvT hZ (hw _ (List.mem_of_getElem? (i := 10) rfl))) (g := (mkF m 5 #[.val (.ref a1)] [(.ref a1)])) rfl (hb hby d1_5) _ ?_
    exact k)
  obtain ⟨T5, h5, X5, e5, W5, st5⟩ := putF X2 hx hZ hown (host := "") (Or.inl (hw _ (List.mem_of_getElem? (i := 11) rfl))) Via.refl e2 F2 E1 (Or.inl (hw _ (List.mem_of_getElem? (i := 12) rfl))) (hw _ (List.mem_of_getElem? (i := 2) rfl)) (ty := .long) (by decide) rfl rfl (g := (mkF m 8 #[.val (.ref a1)] [(.long (9223372036854775807 : Int64)), (.ref a1)])) rfl rfl (hb hby d1_8)
  have Fw5 := F2.same W5
  have P6 : Rch p e below (s₁.setTop (entryFrame m #[(.ref a1)] 1)) (T5.setTop (mkF m 11 #[.val (.ref a1)] [])) := fun t k => P4 t (st5 t k)
  have N5 := Fr.snoc X5 N0 g1
  obtain ⟨fs, hr, hrun, hended, hW, hsame⟩ := X5.leave (v := none) (fun _ => rfl)
  refine ⟨_, _, P6 _ ?_, hrun, hended, _, _, rfl, ?_, ⟨_, rfl⟩, hW, hsame.mono (by decide) (by decide)⟩
  · exact X5.returnOut hx Bd.returns (hb hby d1_11) hr
  · show Q_rmI Z a1 h0 n0 _ T5.heap _
    rw [e5]
    have f7 : Keep h0 h5 [a1] := ((Keep.refl h0 [a1]).wr W5 (Or.inl (List.mem_of_getElem? (i := 0) rfl)))
    have f8 : Fld Z h5 a1 "com/example/usher/usher/server/Traffic" "sent" "J" (.long (0 : Int64)) := (F0.other W5 (Or.inr (slot_ne (Or.inl (hw _ (List.mem_of_getElem? (i := 19) rfl))) (Or.inl (hw _ (List.mem_of_getElem? (i := 12) rfl))) (by decide) (t := .long) (t' := .long) (by decide) (by decide))))
    have f9 : Fld Z h5 a1 "com/example/usher/usher/server/Traffic" "answered" "J" (.long (0 : Int64)) := (F1.other W5 (Or.inr (slot_ne (Or.inl (hw _ (List.mem_of_getElem? (i := 27) rfl))) (Or.inl (hw _ (List.mem_of_getElem? (i := 12) rfl))) (by decide) (t := .long) (t' := .long) (by decide) (by decide))))
    have f10 : Fld Z h5 a1 "com/example/usher/usher/server/Traffic" "latencyMax" "J" (.long (0 : Int64)) := (F3.other W5 (Or.inr (slot_ne (Or.inl (hw _ (List.mem_of_getElem? (i := 38) rfl))) (Or.inl (hw _ (List.mem_of_getElem? (i := 12) rfl))) (by decide) (t := .long) (t' := .long) (by decide) (by decide))))
    have f11 : Fld Z h5 a1 "com/example/usher/usher/server/Traffic" "latencyTotal" "J" (.long (0 : Int64)) := (F4.other W5 (Or.inr (slot_ne (Or.inl (hw _ (List.mem_of_getElem? (i := 43) rfl))) (Or.inl (hw _ (List.mem_of_getElem? (i := 12) rfl))) (by decide) (t := .long) (t' := .long) (by decide) (by decide))))
    exact ⟨rfl, N5, f7, (E1.wr W5), f8, f9, Fw5, f10, f11⟩
def Q_rmN (Z : State) (a1 : Addr) (w1 : Int64) (w2 : Int64) (w3 : Int64) (w4 : Int64) (w5 : Int64) (h0 : Heap) (n0 : Nat) (v : Option Value) (h : Heap) (L : List Loc) : Prop := v = none ∧ Fr n0 L ∧ Keep h0 h [a1] ∧ (Exa Z h a1 "com/example/usher/usher/server/Traffic") ∧ (Fld Z h a1 "com/example/usher/usher/server/Traffic" "sent" "J" (.long (w1 + (1 : Int64)))) ∧ (Fld Z h a1 "com/example/usher/usher/server/Traffic" "answered" "J" (.long w2)) ∧ (Fld Z h a1 "com/example/usher/usher/server/Traffic" "latencyMin" "J" (.long w3)) ∧ (Fld Z h a1 "com/example/usher/usher/server/Traffic" "latencyMax" "J" (.long w4)) ∧ (Fld Z h a1 "com/example/usher/usher/server/Traffic" "latencyTotal" "J" (.long w5))
set_option maxRecDepth 65536 in
set_option maxHeartbeats 40000000 in
theorem rmN (l : Launch) (Z : State) (a0 : Array Value) (hw : ∀ d ∈ tables_1, d.before a0 Z = true) (ws : List Jvm.Cond) (a1 : Addr) (w1 : Int64) (w2 : Int64) (w3 : Int64) (w4 : Int64) (w5 : Int64) (h0 : Heap) (n0 : Nat) (Z0 : n0 ≤ h0.size) (E1 : Exa Z h0 a1 "com/example/usher/usher/server/Traffic") (g1 : n0 ≤ a1) (F0 : Fld Z h0 a1 "com/example/usher/usher/server/Traffic" "sent" "J" (.long w1)) (F1 : Fld Z h0 a1 "com/example/usher/usher/server/Traffic" "answered" "J" (.long w2)) (F2 : Fld Z h0 a1 "com/example/usher/usher/server/Traffic" "latencyMin" "J" (.long w3)) (F3 : Fld Z h0 a1 "com/example/usher/usher/server/Traffic" "latencyMax" "J" (.long w4)) (F4 : Fld Z h0 a1 "com/example/usher/usher/server/Traffic" "latencyTotal" "J" (.long w5)) :
    MetFree l (⟨"com/example/usher/usher/server/Traffic", "notificationSent", "()V"⟩ : MethodName) (head1 (Jvm.Cond.code (⟨"com/example/usher/usher/server/Traffic", "notificationSent", "()V"⟩ : MethodName) prog_78_method_8_code 1 none :: ws) ({ frames := 0, cells := 0, slots := 0, locals := 0 } : Room)) (fun a U => a = #[(.ref a1)] ∧ Z.Warmed39 U.vm ∧ U.heap = h0) (fun _ _ _ _ _ => True) (fun _ U o U' => ∃ v L, o = .returned v ∧ Q_rmN Z a1 w1 w2 w3 w4 w5 h0 n0 v U'.heap L ∧ FrameEnd U o U' L ({ frames := 0, cells := 0, slots := 0, locals := 0 } : Room).cells ({ frames := 0, cells := 0, slots := 0, locals := 0 } : Room).slots) := by
  refine MetFree.of_bodySF (plainFor_of_name pn_0) hisR ?_
  intro p e s m args below meth c s₁ Bd hml0 hP hK
  obtain ⟨rfl, hZ, hh⟩ := hP
  have hx := Bd.exec
  have hby := Bd.bytes
  have hml : c.maxLocals = 1 := hml0
  have hown : s.vm.findClass "com/example/usher/usher/server/Traffic" = some m.cls := findClass_of_methodNamed Bd.named
  have hnm := (name_of_methodNamed Bd.named Bd.method).1
  have X0 : Stand p l e ({ frames := 0, cells := 0, slots := 0, locals := 0 } : Room) s m #[(.ref a1)] below meth c s₁ [] 0 0 := Stand.of_body Bd
  have e0 : s₁.heap = h0 := by rw [← hh, Bd.state]; rfl
  have N0 := Fr.nil n0
  have P0 : Rch p e below (s₁.setTop (entryFrame m #[(.ref a1)] 1)) (s₁.setTop (mkF m 0 #[.val (.ref a1)] [])) := fun t k => castTop (by first | (simp [entryFrame, mkF, argsToLocals, Value.category]; done) | rfl) k
  have P1 : Rch p e below (s₁.setTop (entryFrame m #[(.ref a1)] 1)) (s₁.setTop (mkF m 2 #[.val (.ref a1)] [(.ref a1), (.ref a1)])) := fun t k => P0 t (by
    show Steps p.tables e below (s₁.setTop (mkF m 0 #[.val (.ref a1)] [])) t
    refine XS.aloadN X0.here hx rfl (hb hby d3_0) rfl rfl ?_
    show Steps p.tables e below (s₁.setTop (mkF m 1 #[.val (.ref a1)] [(.ref a1)])) t
    refine XS.dup X0.here hx rfl (hb hby d3_1) rfl rfl ?_
    exact k)
  obtain ⟨T2, X2, e2, st2⟩ := getF X0 hx hZ hown (host := "") (Or.inl (hw _ (List.mem_of_getElem? (i := 18) rfl))) Via.refl e0 F0 (g := (mkF m 2 #[.val (.ref a1)] [(.ref a1), (.ref a1)])) rfl rfl (hb hby d3_2)
  have P3 : Rch p e below (s₁.setTop (entryFrame m #[(.ref a1)] 1)) (T2.setTop (mkF m 5 #[.val (.ref a1)] [(.long w1), (.ref a1)])) := fun t k => P1 t (st2 t k)
  obtain ⟨y4, hy4⟩ : ∃ z : Int64, z = (w1 + (1 : Int64)) := ⟨_, rfl⟩
  have P5 : Rch p e below (s₁.setTop (entryFrame m #[(.ref a1)] 1)) (T2.setTop (mkF m 7 #[.val (.ref a1)] [(.long y4), (.ref a1)])) := fun t k => P3 t (by
    subst hy4
    show Steps p.tables e below (T2.setTop (mkF m 5 #[.val (.ref a1)] [(.long w1), (.ref a1)])) t
    refine XS.lconst X2.here hx rfl (hb hby d3_5) ?_
    show Steps p.tables e below (T2.setTop (mkF m 6 #[.val (.ref a1)] [(.long (1 : Int64)), (.long w1), (.ref a1)])) t
    refine XS.ladd X2.here hx rfl (hb hby d3_6) rfl ?_
    exact k)
  obtain ⟨T6, h6, X6, e6, W6, st6⟩ := putF X2 hx hZ hown (host := "") (Or.inl (hw _ (List.mem_of_getElem? (i := 18) rfl))) Via.refl e2 F0 E1 (Or.inl (hw _ (List.mem_of_getElem? (i := 19) rfl))) (hw _ (List.mem_of_getElem? (i := 2) rfl)) (ty := .long) (by decide) rfl rfl (g := (mkF m 7 #[.val (.ref a1)] [(.long y4), (.ref a1)])) rfl rfl (hb hby d3_7)
  have Fw6 := F0.same W6
  have P7 : Rch p e below (s₁.setTop (entryFrame m #[(.ref a1)] 1)) (T6.setTop (mkF m 10 #[.val (.ref a1)] [])) := fun t k => P5 t (st6 t k)
  have N6 := Fr.snoc X6 N0 g1
  obtain ⟨fs, hr, hrun, hended, hW, hsame⟩ := X6.leave (v := none) (fun _ => rfl)
  refine ⟨_, _, P7 _ ?_, hrun, hended, _, _, rfl, ?_, ⟨_, rfl⟩, hW, hsame.mono (by decide) (by decide)⟩
  · exact X6.returnOut hx Bd.returns (hb hby d3_10) hr
  · show Q_rmN Z a1 w1 w2 w3 w4 w5 h0 n0 _ T6.heap _
    rw [e6]
    have q0_ : (w1 + (1 : Int64)) = y4 := by rw [hy4]
    have f8 : Fld Z h6 a1 "com/example/usher/usher/server/Traffic" "answered" "J" (.long w2) := (F1.other W6 (Or.inr (slot_ne (Or.inl (hw _ (List.mem_of_getElem? (i := 27) rfl))) (Or.inl (hw _ (List.mem_of_getElem? (i := 19) rfl))) (by decide) (t := .long) (t' := .long) (by decide) (by decide))))
    have f9 : Fld Z h6 a1 "com/example/usher/usher/server/Traffic" "latencyMin" "J" (.long w3) := (F2.other W6 (Or.inr (slot_ne (Or.inl (hw _ (List.mem_of_getElem? (i := 12) rfl))) (Or.inl (hw _ (List.mem_of_getElem? (i := 19) rfl))) (by decide) (t := .long) (t' := .long) (by decide) (by decide))))
    have f10 : Fld Z h6 a1 "com/example/usher/usher/server/Traffic" "latencyMax" "J" (.long w4) := (F3.other W6 (Or.inr (slot_ne (Or.inl (hw _ (List.mem_of_getElem? (i := 38) rfl))) (Or.inl (hw _ (List.mem_of_getElem? (i := 19) rfl))) (by decide) (t := .long) (t' := .long) (by decide) (by decide))))
    have f11 : Fld Z h6 a1 "com/example/usher/usher/server/Traffic" "latencyTotal" "J" (.long w5) := (F4.other W6 (Or.inr (slot_ne (Or.inl (hw _ (List.mem_of_getElem? (i := 43) rfl))) (Or.inl (hw _ (List.mem_of_getElem? (i := 19) rfl))) (by decide) (t := .long) (t' := .long) (by decide) (by decide))))
    have f12 : Keep h0 h6 [a1] := ((Keep.refl h0 [a1]).wr W6 (Or.inl (List.mem_of_getElem? (i := 0) rfl)))
    exact ⟨rfl, N6, f12, (E1.wr W6), (by rw [q0_]; exact Fw6), f8, f9, f10, f11⟩
def own_min (q1 : Int64) (q2 : Int64) : Int64 := (if q2 < q1 then q2 else q1)
def Q_rmMin (Z : State) (q1 : Int64) (q2 : Int64) (h0 : Heap) (n0 : Nat) (v : Option Value) (h : Heap) (L : List Loc) : Prop := v = some (.long (own_min q1 q2)) ∧ Fr n0 L ∧ h = h0
set_option maxRecDepth 65536 in
set_option maxHeartbeats 40000000 in
theorem rmMin (l : Launch) (Z : State) (a0 : Array Value) (hw : ∀ d ∈ tables_1, d.before a0 Z = true) (ws : List Jvm.Cond) (q1 : Int64) (q2 : Int64) (h0 : Heap) (n0 : Nat) (Z0 : n0 ≤ h0.size) :
    MetFree l (⟨"java/lang/Math", "min", "(JJ)J"⟩ : MethodName) (head1 (Jvm.Cond.code (⟨"java/lang/Math", "min", "(JJ)J"⟩ : MethodName) jdk_29_method_70_code 4 (some .long) :: ws) ({ frames := 0, cells := 0, slots := 0, locals := 0 } : Room)) (fun a U => a = #[(.long q1), (.long q2)] ∧ Z.Warmed39 U.vm ∧ U.heap = h0) (fun _ _ _ _ _ => True) (fun _ U o U' => ∃ v L, o = .returned v ∧ Q_rmMin Z q1 q2 h0 n0 v U'.heap L ∧ FrameEnd U o U' L ({ frames := 0, cells := 0, slots := 0, locals := 0 } : Room).cells ({ frames := 0, cells := 0, slots := 0, locals := 0 } : Room).slots) := by
  refine MetFree.of_bodySF (Jvm.Free.JP.mathPlain rfl (by decide +kernel)) hisR ?_
  intro p e s m args below meth c s₁ Bd hml0 hP hK
  obtain ⟨rfl, hZ, hh⟩ := hP
  have hx := Bd.exec
  have hby := Bd.bytes
  have hml : c.maxLocals = 4 := hml0
  have hown : s.vm.findClass "java/lang/Math" = some m.cls := findClass_of_methodNamed Bd.named
  have hnm := (name_of_methodNamed Bd.named Bd.method).1
  have X0 : Stand p l e ({ frames := 0, cells := 0, slots := 0, locals := 0 } : Room) s m #[(.long q1), (.long q2)] below meth c s₁ [] 0 0 := Stand.of_body Bd
  have e0 : s₁.heap = h0 := by rw [← hh, Bd.state]; rfl
  have N0 := Fr.nil n0
  have P0 : Rch p e below (s₁.setTop (entryFrame m #[(.long q1), (.long q2)] 4)) (s₁.setTop (mkF m 0 #[.val (.long q1), .second, .val (.long q2), .second] [])) := fun t k => castTop (by first | (simp [entryFrame, mkF, argsToLocals, Value.category]; done) | rfl) k
  have P1 : Rch p e below (s₁.setTop (entryFrame m #[(.long q1), (.long q2)] 4)) (s₁.setTop (mkF m 3 #[.val (.long q1), .second, .val (.long q2), .second] [(.int (lcmpW q1 q2))])) := fun t k => P0 t (by
    show Steps p.tables e below (s₁.setTop (mkF m 0 #[.val (.long q1), .second, .val (.long q2), .second] [])) t
    refine XS.lloadN X0.here hx rfl (hb hby d6_0) rfl ?_
    show Steps p.tables e below (s₁.setTop (mkF m 1 #[.val (.long q1), .second, .val (.long q2), .second] [(.long q1)])) t
    refine XS.lloadN X0.here hx rfl (hb hby d6_1) rfl ?_
    show Steps p.tables e below (s₁.setTop (mkF m 2 #[.val (.long q1), .second, .val (.long q2), .second] [(.long q2), (.long q1)])) t
    refine XS.lcmp X0.here hx rfl (hb hby d6_2) rfl ?_
    exact k)
  obtain ⟨v3, hv3, P4⟩ : ∃ (v3 : Int64), v3 = (if q2 < q1 then q2 else q1) ∧ Rch p e below (s₁.setTop (entryFrame m #[(.long q1), (.long q2)] 4)) (s₁.setTop (mkF m 11 #[.val (.long q1), .second, .val (.long q2), .second] [(.long v3)])) := by
    by_cases c2 : q2 < q1
    · refine ⟨q2, (by first | rfl | rw [if_pos c2] | simp only [if_pos c2]), fun t k => P1 t ?_⟩
      show Steps p.tables e below (s₁.setTop (mkF m 3 #[.val (.long q1), .second, .val (.long q2), .second] [(.int (lcmpW q1 q2))])) t
      refine XS.ifYes X0.here hx rfl (pc0 := 3) (pc' := 10) rfl (hb hby d6_3) rfl ((if0 _ _).trans (tlt ((lw_gt q1 q2).mpr c2)).2.2.1) (by decide) (by decide) ?_
      show Steps p.tables e below (s₁.setTop (mkF m 10 #[.val (.long q1), .second, .val (.long q2), .second] [])) t
      refine XS.lloadN X0.here hx rfl (hb hby d6_10) rfl ?_
      exact k
    · refine ⟨q1, (by first | rfl | rw [if_neg c2] | simp only [if_neg c2]), fun t k => P1 t ?_⟩
      show Steps p.tables e below (s₁.setTop (mkF m 3 #[.val (.long q1), .second, .val (.long q2), .second] [(.int (lcmpW q1 q2))])) t
      refine XS.ifNo X0.here hx rfl (hb hby d6_3) rfl ((if0 _ _).trans (flt (fun q_ => c2 ((lw_gt q1 q2).mp q_))).2.2.1) ?_
      show Steps p.tables e below (s₁.setTop (mkF m 6 #[.val (.long q1), .second, .val (.long q2), .second] [])) t
      refine XS.lloadN X0.here hx rfl (hb hby d6_6) rfl ?_
      show Steps p.tables e below (s₁.setTop (mkF m 7 #[.val (.long q1), .second, .val (.long q2), .second] [(.long q1)])) t
      refine XS.goto X0.here hx rfl (pc0 := 7) (pc' := 11) rfl (hb hby d6_7) (by decide) (by decide) ?_
      exact k
  obtain ⟨fs, hr, hrun, hended, hW, hsame⟩ := X0.leave (v := some (.long v3)) (fun h => by rw [Bd.returns] at h; cases h)
  refine ⟨_, _, P4 _ ?_, hrun, hended, _, _, rfl, ?_, ⟨_, rfl⟩, hW, hsame.mono (by decide) (by decide)⟩
  · exact retOut X0 hx Bd.returns rfl (Or.inr (Or.inl ⟨rfl, rfl, _, rfl⟩)) (hb hby d6_11) hr
  · show Q_rmMin Z q1 q2 h0 n0 _ s₁.heap _
    rw [e0]
    exact ⟨(by unfold own_min; subst hv3; first | rfl | rw [] | simp only [] | simp [*]), N0, rfl⟩
def own_max (q1 : Int64) (q2 : Int64) : Int64 := (if q1 < q2 then q2 else q1)
def Q_rmMax (Z : State) (q1 : Int64) (q2 : Int64) (h0 : Heap) (n0 : Nat) (v : Option Value) (h : Heap) (L : List Loc) : Prop := v = some (.long (own_max q1 q2)) ∧ Fr n0 L ∧ h = h0
set_option maxRecDepth 65536 in
set_option maxHeartbeats 40000000 in
theorem rmMax (l : Launch) (Z : State) (a0 : Array Value) (hw : ∀ d ∈ tables_1, d.before a0 Z = true) (ws : List Jvm.Cond) (q1 : Int64) (q2 : Int64) (h0 : Heap) (n0 : Nat) (Z0 : n0 ≤ h0.size) :
    MetFree l (⟨"java/lang/Math", "max", "(JJ)J"⟩ : MethodName) (head1 (Jvm.Cond.code (⟨"java/lang/Math", "max", "(JJ)J"⟩ : MethodName) jdk_29_method_66_code 4 (some .long) :: ws) ({ frames := 0, cells := 0, slots := 0, locals := 0 } : Room)) (fun a U => a = #[(.long q1), (.long q2)] ∧ Z.Warmed39 U.vm ∧ U.heap = h0) (fun _ _ _ _ _ => True) (fun _ U o U' => ∃ v L, o = .returned v ∧ Q_rmMax Z q1 q2 h0 n0 v U'.heap L ∧ FrameEnd U o U' L ({ frames := 0, cells := 0, slots := 0, locals := 0 } : Room).cells ({ frames := 0, cells := 0, slots := 0, locals := 0 } : Room).slots) := by
  refine MetFree.of_bodySF (Jvm.Free.JP.mathPlain rfl (by decide +kernel)) hisR ?_
  intro p e s m args below meth c s₁ Bd hml0 hP hK
  obtain ⟨rfl, hZ, hh⟩ := hP
  have hx := Bd.exec
  have hby := Bd.bytes
  have hml : c.maxLocals = 4 := hml0
  have hown : s.vm.findClass "java/lang/Math" = some m.cls := findClass_of_methodNamed Bd.named
  have hnm := (name_of_methodNamed Bd.named Bd.method).1
  have X0 : Stand p l e ({ frames := 0, cells := 0, slots := 0, locals := 0 } : Room) s m #[(.long q1), (.long q2)] below meth c s₁ [] 0 0 := Stand.of_body Bd
  have e0 : s₁.heap = h0 := by rw [← hh, Bd.state]; rfl
  have N0 := Fr.nil n0
  have P0 : Rch p e below (s₁.setTop (entryFrame m #[(.long q1), (.long q2)] 4)) (s₁.setTop (mkF m 0 #[.val (.long q1), .second, .val (.long q2), .second] [])) := fun t k => castTop (by first | (simp [entryFrame, mkF, argsToLocals, Value.category]; done) | rfl) k
  have P1 : Rch p e below (s₁.setTop (entryFrame m #[(.long q1), (.long q2)] 4)) (s₁.setTop (mkF m 3 #[.val (.long q1), .second, .val (.long q2), .second] [(.int (lcmpW q1 q2))])) := fun t k => P0 t (by
    show Steps p.tables e below (s₁.setTop (mkF m 0 #[.val (.long q1), .second, .val (.long q2), .second] [])) t
    refine XS.lloadN X0.here hx rfl (hb hby d7_0) rfl ?_
    show Steps p.tables e below (s₁.setTop (mkF m 1 #[.val (.long q1), .second, .val (.long q2), .second] [(.long q1)])) t
    refine XS.lloadN X0.here hx rfl (hb hby d7_1) rfl ?_
    show Steps p.tables e below (s₁.setTop (mkF m 2 #[.val (.long q1), .second, .val (.long q2), .second] [(.long q2), (.long q1)])) t
    refine XS.lcmp X0.here hx rfl (hb hby d7_2) rfl ?_
    exact k)
  obtain ⟨v3, hv3, P4⟩ : ∃ (v3 : Int64), v3 = (if q1 < q2 then q2 else q1) ∧ Rch p e below (s₁.setTop (entryFrame m #[(.long q1), (.long q2)] 4)) (s₁.setTop (mkF m 11 #[.val (.long q1), .second, .val (.long q2), .second] [(.long v3)])) := by
    by_cases c2 : q1 < q2
    · refine ⟨q2, (by first | rfl | rw [if_pos c2] | simp only [if_pos c2]), fun t k => P1 t ?_⟩
      show Steps p.tables e below (s₁.setTop (mkF m 3 #[.val (.long q1), .second, .val (.long q2), .second] [(.int (lcmpW q1 q2))])) t
      refine XS.ifYes X0.here hx rfl (pc0 := 3) (pc' := 10) rfl (hb hby d7_3) rfl ((if0 _ _).trans (tlt ((lw_lt q1 q2).mpr c2)).1) (by decide) (by decide) ?_
      show Steps p.tables e below (s₁.setTop (mkF m 10 #[.val (.long q1), .second, .val (.long q2), .second] [])) t
      refine XS.lloadN X0.here hx rfl (hb hby d7_10) rfl ?_
      exact k
    · refine ⟨q1, (by first | rfl | rw [if_neg c2] | simp only [if_neg c2]), fun t k => P1 t ?_⟩
      show Steps p.tables e below (s₁.setTop (mkF m 3 #[.val (.long q1), .second, .val (.long q2), .second] [(.int (lcmpW q1 q2))])) t
      refine XS.ifNo X0.here hx rfl (hb hby d7_3) rfl ((if0 _ _).trans (flt (fun q_ => c2 ((lw_lt q1 q2).mp q_))).1) ?_
      show Steps p.tables e below (s₁.setTop (mkF m 6 #[.val (.long q1), .second, .val (.long q2), .second] [])) t
      refine XS.lloadN X0.here hx rfl (hb hby d7_6) rfl ?_
      show Steps p.tables e below (s₁.setTop (mkF m 7 #[.val (.long q1), .second, .val (.long q2), .second] [(.long q1)])) t
      refine XS.goto X0.here hx rfl (pc0 := 7) (pc' := 11) rfl (hb hby d7_7) (by decide) (by decide) ?_
      exact k
  obtain ⟨fs, hr, hrun, hended, hW, hsame⟩ := X0.leave (v := some (.long v3)) (fun h => by rw [Bd.returns] at h; cases h)
  refine ⟨_, _, P4 _ ?_, hrun, hended, _, _, rfl, ?_, ⟨_, rfl⟩, hW, hsame.mono (by decide) (by decide)⟩
  · exact retOut X0 hx Bd.returns rfl (Or.inr (Or.inl ⟨rfl, rfl, _, rfl⟩)) (hb hby d7_11) hr
  · show Q_rmMax Z q1 q2 h0 n0 _ s₁.heap _
    rw [e0]
    exact ⟨(by unfold own_max; subst hv3; first | rfl | rw [] | simp only [] | simp [*]), N0, rfl⟩
def Q_rmA (Z : State) (a1 : Addr) (q2 : Int64) (w1 : Int64) (w2 : Int64) (w3 : Int64) (w4 : Int64) (w5 : Int64) (h0 : Heap) (n0 : Nat) (v : Option Value) (h : Heap) (L : List Loc) : Prop := v = none ∧ Fr n0 L ∧ Keep h0 h [a1] ∧ (Exa Z h a1 "com/example/usher/usher/server/Traffic") ∧ (Fld Z h a1 "com/example/usher/usher/server/Traffic" "sent" "J" (.long (w1 + (1 : Int64)))) ∧ (Fld Z h a1 "com/example/usher/usher/server/Traffic" "answered" "J" (.long (w2 + (1 : Int64)))) ∧ (Fld Z h a1 "com/example/usher/usher/server/Traffic" "latencyMin" "J" (.long (own_min w3 q2))) ∧ (Fld Z h a1 "com/example/usher/usher/server/Traffic" "latencyMax" "J" (.long (own_max w4 q2))) ∧ (Fld Z h a1 "com/example/usher/usher/server/Traffic" "latencyTotal" "J" (.long (w5 + q2)))
set_option maxRecDepth 65536 in
set_option maxHeartbeats 40000000 in
theorem rmA (l : Launch) (Z : State) (a0 : Array Value) (hw : ∀ d ∈ tables_1, d.before a0 Z = true) (ws : List Jvm.Cond) (a1 : Addr) (q2 : Int64) (w1 : Int64) (w2 : Int64) (w3 : Int64) (w4 : Int64) (w5 : Int64) (h0 : Heap) (n0 : Nat) (Z0 : n0 ≤ h0.size) (E1 : Exa Z h0 a1 "com/example/usher/usher/server/Traffic") (g1 : n0 ≤ a1) (F0 : Fld Z h0 a1 "com/example/usher/usher/server/Traffic" "sent" "J" (.long w1)) (F1 : Fld Z h0 a1 "com/example/usher/usher/server/Traffic" "answered" "J" (.long w2)) (F2 : Fld Z h0 a1 "com/example/usher/usher/server/Traffic" "latencyMin" "J" (.long w3)) (F3 : Fld Z h0 a1 "com/example/usher/usher/server/Traffic" "latencyMax" "J" (.long w4)) (F4 : Fld Z h0 a1 "com/example/usher/usher/server/Traffic" "latencyTotal" "J" (.long w5)) :
    MetFree l (⟨"com/example/usher/usher/server/Traffic", "frameAnswered", "(J)V"⟩ : MethodName) (head1 (Jvm.Cond.code (⟨"com/example/usher/usher/server/Traffic", "frameAnswered", "(J)V"⟩ : MethodName) prog_78_method_5_code 3 none :: ws) ({ frames := 1, cells := 0, slots := 0, locals := 16 } : Room)) (fun a U => a = #[(.ref a1), (.long q2)] ∧ Z.Warmed39 U.vm ∧ U.heap = h0) (fun _ _ _ _ _ => True) (fun _ U o U' => ∃ v L, o = .returned v ∧ Q_rmA Z a1 q2 w1 w2 w3 w4 w5 h0 n0 v U'.heap L ∧ FrameEnd U o U' L ({ frames := 1, cells := 0, slots := 0, locals := 16 } : Room).cells ({ frames := 1, cells := 0, slots := 0, locals := 16 } : Room).slots) := by
  refine MetFree.of_bodySF (plainFor_of_name pn_0) hisR ?_
  intro p e s m args below meth c s₁ Bd hml0 hP hK
  obtain ⟨rfl, hZ, hh⟩ := hP
  have hx := Bd.exec
  have hby := Bd.bytes
  have hml : c.maxLocals = 3 := hml0
  have hown : s.vm.findClass "com/example/usher/usher/server/Traffic" = some m.cls := findClass_of_methodNamed Bd.named
  have hnm := (name_of_methodNamed Bd.named Bd.method).1
  have X0 : Stand p l e ({ frames := 1, cells := 0, slots := 0, locals := 16 } : Room) s m #[(.ref a1), (.long q2)] below meth c s₁ [] 0 0 := Stand.of_body Bd
  have e0 : s₁.heap = h0 := by rw [← hh, Bd.state]; rfl
  have N0 := Fr.nil n0
  have P0 : Rch p e below (s₁.setTop (entryFrame m #[(.ref a1), (.long q2)] 3)) (s₁.setTop (mkF m 0 #[.val (.ref a1), .val (.long q2), .second] [])) := fun t k => castTop (by first | (simp [entryFrame, mkF, argsToLocals, Value.category]; done) | rfl) k
  have P1 : Rch p e below (s₁.setTop (entryFrame m #[(.ref a1), (.long q2)] 3)) (s₁.setTop (mkF m 2 #[.val (.ref a1), .val (.long q2), .second] [(.ref a1), (.ref a1)])) := fun t k => P0 t (by
    show Steps p.tables e below (s₁.setTop (mkF m 0 #[.val (.ref a1), .val (.long q2), .second] [])) t
    refine XS.aloadN X0.here hx rfl (hb hby d5_0) rfl rfl ?_
    show Steps p.tables e below (s₁.setTop (mkF m 1 #[.val (.ref a1), .val (.long q2), .second] [(.ref a1)])) t
    refine XS.dup X0.here hx rfl (hb hby d5_1) rfl rfl ?_
    exact k)
  obtain ⟨T2, X2, e2, st2⟩ := getF X0 hx hZ hown (host := "") (Or.inl (hw _ (List.mem_of_getElem? (i := 18) rfl))) Via.refl e0 F0 (g := (mkF m 2 #[.val (.ref a1), .val (.long q2), .second] [(.ref a1), (.ref a1)])) rfl rfl (hb hby d5_2)
  have P3 : Rch p e below (s₁.setTop (entryFrame m #[(.ref a1), (.long q2)] 3)) (T2.setTop (mkF m 5 #[.val (.ref a1), .val (.long q2), .second] [(.long w1), (.ref a1)])) := fun t k => P1 t (st2 t k)
  obtain ⟨y4, hy4⟩ : ∃ z : Int64, z = (w1 + (1 : Int64)) := ⟨_, rfl⟩
  have P5 : Rch p e below (s₁.setTop (entryFrame m #[(.ref a1), (.long q2)] 3)) (T2.setTop (mkF m 7 #[.val (.ref a1), .val (.long q2), .second] [(.long y4), (.ref a1)])) := fun t k => P3 t (by
    subst hy4
    show Steps p.tables e below (T2.setTop (mkF m 5 #[.val (.ref a1), .val (.long q2), .second] [(.long w1), (.ref a1)])) t
    refine XS.lconst X2.here hx rfl (hb hby d5_5) ?_
    show Steps p.tables e below (T2.setTop (mkF m 6 #[.val (.ref a1), .val (.long q2), .second] [(.long (1 : Int64)), (.long w1), (.ref a1)])) t
    refine XS.ladd X2.here hx rfl (hb hby d5_6) rfl ?_
    exact k)
  obtain ⟨T6, h6, X6, e6, W6, st6⟩ := putF X2 hx hZ hown (host := "") (Or.inl (hw _ (List.mem_of_getElem? (i := 18) rfl))) Via.refl e2 F0 E1 (Or.inl (hw _ (List.mem_of_getElem? (i := 19) rfl))) (hw _ (List.mem_of_getElem? (i := 2) rfl)) (ty := .long) (by decide) rfl rfl (g := (mkF m 7 #[.val (.ref a1), .val (.long q2), .second] [(.long y4), (.ref a1)])) rfl rfl (hb hby d5_7)
  have Fw6 := F0.same W6
  have P7 : Rch p e below (s₁.setTop (entryFrame m #[(.ref a1), (.long q2)] 3)) (T6.setTop (mkF m 10 #[.val (.ref a1), .val (.long q2), .second] [])) := fun t k => P5 t (st6 t k)
  have N6 := Fr.snoc X6 N0 g1
  have P8 : Rch p e below (s₁.setTop (entryFrame m #[(.ref a1), (.long q2)] 3)) (T6.setTop (mkF m 12 #[.val (.ref a1), .val (.long q2), .second] [(.ref a1), (.ref a1)])) := fun t k => P7 t (by
    show Steps p.tables e below (T6.setTop (mkF m 10 #[.val (.ref a1), .val (.long q2), .second] [])) t
    refine XS.aloadN X6.here hx rfl (hb hby d5_10) rfl rfl ?_
    show Steps p.tables e below (T6.setTop (mkF m 11 #[.val (.ref a1), .val (.long q2), .second] [(.ref a1)])) t
    refine XS.dup X6.here hx rfl (hb hby d5_11) rfl rfl ?_
    exact k)
  have f9 : Fld Z h6 a1 "com/example/usher/usher/server/Traffic" "answered" "J" (.long w2) := (F1.other W6 (Or.inr (slot_ne (Or.inl (hw _ (List.mem_of_getElem? (i := 27) rfl))) (Or.inl (hw _ (List.mem_of_getElem? (i := 19) rfl))) (by decide) (t := .long) (t' := .long) (by decide) (by decide))))
  obtain ⟨T10, X10, e10, st10⟩ := getF X6 hx hZ hown (host := "") (Or.inl (hw _ (List.mem_of_getElem? (i := 26) rfl))) Via.refl e6 f9 (g := (mkF m 12 #[.val (.ref a1), .val (.long q2), .second] [(.ref a1), (.ref a1)])) rfl rfl (hb hby d5_12)
  have P11 : Rch p e below (s₁.setTop (entryFrame m #[(.ref a1), (.long q2)] 3)) (T10.setTop (mkF m 15 #[.val (.ref a1), .val (.long q2), .second] [(.long w2), (.ref a1)])) := fun t k => P8 t (st10 t k)
  obtain ⟨y12, hy12⟩ : ∃ z : Int64, z = (w2 + (1 : Int64)) := ⟨_, rfl⟩
  have P13 : Rch p e below (s₁.setTop (entryFrame m #[(.ref a1), (.long q2)] 3)) (T10.setTop (mkF m 17 #[.val (.ref a1), .val (.long q2), .second] [(.long y12), (.ref a1)])) := fun t k => P11 t (by
    subst hy12
    show Steps p.tables e below (T10.setTop (mkF m 15 #[.val (.ref a1), .val (.long q2), .second] [(.long w2), (.ref a1)])) t
    refine XS.lconst X10.here hx rfl (hb hby d5_15) ?_
    show Steps p.tables e below (T10.setTop (mkF m 16 #[.val (.ref a1), .val (.long q2), .second] [(.long (1 : Int64)), (.long w2), (.ref a1)])) t
    refine XS.ladd X10.here hx rfl (hb hby d5_16) rfl ?_
    exact k)
  obtain ⟨T14, h14, X14, e14, W14, st14⟩ := putF X10 hx hZ hown (host := "") (Or.inl (hw _ (List.mem_of_getElem? (i := 26) rfl))) Via.refl e10 f9 (E1.wr W6) (Or.inl (hw _ (List.mem_of_getElem? (i := 27) rfl))) (hw _ (List.mem_of_getElem? (i := 2) rfl)) (ty := .long) (by decide) rfl rfl (g := (mkF m 17 #[.val (.ref a1), .val (.long q2), .second] [(.long y12), (.ref a1)])) rfl rfl (hb hby d5_17)
  have Fw14 := f9.same W14
  have P15 : Rch p e below (s₁.setTop (entryFrame m #[(.ref a1), (.long q2)] 3)) (T14.setTop (mkF m 20 #[.val (.ref a1), .val (.long q2), .second] [])) := fun t k => P13 t (st14 t k)
  have N14 := Fr.snoc X14 N6 g1
  have P16 : Rch p e below (s₁.setTop (entryFrame m #[(.ref a1), (.long q2)] 3)) (T14.setTop (mkF m 22 #[.val (.ref a1), .val (.long q2), .second] [(.ref a1), (.ref a1)])) := fun t k => P15 t (by
    show Steps p.tables e below (T14.setTop (mkF m 20 #[.val (.ref a1), .val (.long q2), .second] [])) t
    refine XS.aloadN X14.here hx rfl (hb hby d5_20) rfl rfl ?_
    show Steps p.tables e below (T14.setTop (mkF m 21 #[.val (.ref a1), .val (.long q2), .second] [(.ref a1)])) t
    refine XS.aloadN X14.here hx rfl (hb hby d5_21) rfl rfl ?_
    exact k)
  have f17 : Fld Z h14 a1 "com/example/usher/usher/server/Traffic" "latencyMin" "J" (.long w3) := ((F2.other W6 (Or.inr (slot_ne (Or.inl (hw _ (List.mem_of_getElem? (i := 12) rfl))) (Or.inl (hw _ (List.mem_of_getElem? (i := 19) rfl))) (by decide) (t := .long) (t' := .long) (by decide) (by decide)))).other W14 (Or.inr (slot_ne (Or.inl (hw _ (List.mem_of_getElem? (i := 12) rfl))) (Or.inl (hw _ (List.mem_of_getElem? (i := 27) rfl))) (by decide) (t := .long) (t' := .long) (by decide) (by decide))))
  obtain ⟨T18, X18, e18, st18⟩ := getF X14 hx hZ hown (host := "") (Or.inl (hw _ (List.mem_of_getElem? (i := 11) rfl))) Via.refl e14 f17 (g := (mkF m 22 #[.val (.ref a1), .val (.long q2), .second] [(.ref a1), (.ref a1)])) rfl rfl (hb hby d5_22)
  have P19 : Rch p e below (s₁.setTop (entryFrame m #[(.ref a1), (.long q2)] 3)) (T18.setTop (mkF m 25 #[.val (.ref a1), .val (.long q2), .second] [(.long w3), (.ref a1)])) := fun t k => P16 t (st18 t k)
  have P20 : Rch p e below (s₁.setTop (entryFrame m #[(.ref a1), (.long q2)] 3)) (T18.setTop (mkF m 26 #[.val (.ref a1), .val (.long q2), .second] [(.long q2), (.long w3), (.ref a1)])) := fun t k => P19 t (by
    show Steps p.tables e below (T18.setTop (mkF m 25 #[.val (.ref a1), .val (.long q2), .second] [(.long w3), (.ref a1)])) t
    refine XS.lloadN X18.here hx rfl (hb hby d5_25) rfl ?_
    exact k)
  have f22 : n0 ≤ h14.size := (Nat.le_trans (Nat.le_trans Z0 (Keep.of_wr W6).1) (Keep.of_wr W14).1)
  obtain ⟨_, _, ⟨T21, L21, k21, n21⟩, -, X21, ⟨Lc21, hQ21, l21, y21, z21⟩, st21⟩ := Jvm.LawKit.callS X18 hx (y := (⟨"java/lang/Math", "min", "(JJ)J"⟩ : MethodName)) hown (mvT hZ (hw _ (List.mem_of_getElem? (i := 33) rfl))) (mvT hZ (hw _ (List.mem_of_getElem? (i := 34) rfl))) (mvT hZ (hw _ (List.mem_of_getElem? (i := 35) rfl))) (mvT hZ (hw _ (List.mem_of_getElem? (i := 36) rfl))) (by decide) (backOf (W := 1) (rmMin l Z a0 hw [] w3 q2 h14 n0 f22 ) hZ (hw _ (List.mem_of_getElem? (i := 36) rfl)) (hw _ (List.mem_of_getElem? (i := 35) rfl)) (by decide) (by decide)) (g := (mkF m 26 #[.val (.ref a1), .val (.long q2), .second] [(.long q2), (.long w3), (.ref a1)])) rfl (by rw [hml]; rfl) (argsL := [(.long w3), (.long q2)]) (rest := [(.ref a1)]) (lenOf pd_0 rfl) rfl (by show 2 * 0 + _ ≤ _; exact Nat.le_of_eq rfl) (hb hby d5_26) (fun _ _ => ⟨rfl, e18, (by decide : 0 + 0 ≤ _), (by decide : 0 + 0 ≤ _)⟩)
  dsimp only [Pt.U, Pt.locs, Pt.cells, Pt.slots] at X21 l21 y21 z21 st21 hQ21
  subst l21 y21 z21
  obtain ⟨rfl, N21q, e21⟩ := hQ21
  have N21 := Fr.app N14 N21q
  have P23 : Rch p e below (s₁.setTop (entryFrame m #[(.ref a1), (.long q2)] 3)) (T21.setTop (mkF m 29 #[.val (.ref a1), .val (.long q2), .second] [(.long (own_min w3 q2)), (.ref a1)])) := fun t k => P20 t (st21 t k)
  obtain ⟨y24, hy24⟩ : ∃ z : Int64, z = (own_min w3 q2) := ⟨_, rfl⟩
  rw [← hy24] at P23
  obtain ⟨T25, h25, X25, e25, W25, st25⟩ := putF X21 hx hZ hown (host := "") (Or.inl (hw _ (List.mem_of_getElem? (i := 11) rfl))) Via.refl e21 f17 ((E1.wr W6).wr W14) (Or.inl (hw _ (List.mem_of_getElem? (i := 12) rfl))) (hw _ (List.mem_of_getElem? (i := 2) rfl)) (ty := .long) (by decide) rfl rfl (g := (mkF m 29 #[.val (.ref a1), .val (.long q2), .second] [(.long y24), (.ref a1)])) rfl rfl (hb hby d5_29)
  have Fw25 := f17.same W25
  have P26 : Rch p e below (s₁.setTop (entryFrame m #[(.ref a1), (.long q2)] 3)) (T25.setTop (mkF m 32 #[.val (.ref a1), .val (.long q2), .second] [])) := fun t k => P23 t (st25 t k)
  have N25 := Fr.snoc X25 N21 g1
  have P27 : Rch p e below (s₁.setTop (entryFrame m #[(.ref a1), (.long q2)] 3)) (T25.setTop (mkF m 34 #[.val (.ref a1), .val (.long q2), .second] [(.ref a1), (.ref a1)])) := fun t k => P26 t (by
    show Steps p.tables e below (T25.setTop (mkF m 32 #[.val (.ref a1), .val (.long q2), .second] [])) t
    refine XS.aloadN X25.here hx rfl (hb hby d5_32) rfl rfl ?_
    show Steps p.tables e below (T25.setTop (mkF m 33 #[.val (.ref a1), .val (.long q2), .second] [(.ref a1)])) t
    refine XS.aloadN X25.here hx rfl (hb hby d5_33) rfl rfl ?_
    exact k)
  have f28 : Fld Z h25 a1 "com/example/usher/usher/server/Traffic" "latencyMax" "J" (.long w4) := (((F3.other W6 (Or.inr (slot_ne (Or.inl (hw _ (List.mem_of_getElem? (i := 38) rfl))) (Or.inl (hw _ (List.mem_of_getElem? (i := 19) rfl))) (by decide) (t := .long) (t' := .long) (by decide) (by decide)))).other W14 (Or.inr (slot_ne (Or.inl (hw _ (List.mem_of_getElem? (i := 38) rfl))) (Or.inl (hw _ (List.mem_of_getElem? (i := 27) rfl))) (by decide) (t := .long) (t' := .long) (by decide) (by decide)))).other W25 (Or.inr (slot_ne (Or.inl (hw _ (List.mem_of_getElem? (i := 38) rfl))) (Or.inl (hw _ (List.mem_of_getElem? (i := 12) rfl))) (by decide) (t := .long) (t' := .long) (by decide) (by decide))))
  obtain ⟨T29, X29, e29, st29⟩ := getF X25 hx hZ hown (host := "") (Or.inl (hw _ (List.mem_of_getElem? (i := 37) rfl))) Via.refl e25 f28 (g := (mkF m 34 #[.val (.ref a1), .val (.long q2), .second] [(.ref a1), (.ref a1)])) rfl rfl (hb hby d5_34)
  have P30 : Rch p e below (s₁.setTop (entryFrame m #[(.ref a1), (.long q2)] 3)) (T29.setTop (mkF m 37 #[.val (.ref a1), .val (.long q2), .second] [(.long w4), (.ref a1)])) := fun t k => P27 t (st29 t k)
  have P31 : Rch p e below (s₁.setTop (entryFrame m #[(.ref a1), (.long q2)] 3)) (T29.setTop (mkF m 38 #[.val (.ref a1), .val (.long q2), .second] [(.long q2), (.long w4), (.ref a1)])) := fun t k => P30 t (by
    show Steps p.tables e below (T29.setTop (mkF m 37 #[.val (.ref a1), .val (.long q2), .second] [(.long w4), (.ref a1)])) t
    refine XS.lloadN X29.here hx rfl (hb hby d5_37) rfl ?_
    exact k)
  have f33 : n0 ≤ h25.size := (Nat.le_trans f22 (Keep.of_wr W25).1)
  obtain ⟨_, _, ⟨T32, L32, k32, n32⟩, -, X32, ⟨Lc32, hQ32, l32, y32, z32⟩, st32⟩ := Jvm.LawKit.callS X29 hx (y := (⟨"java/lang/Math", "max", "(JJ)J"⟩ : MethodName)) hown (mvT hZ (hw _ (List.mem_of_getElem? (i := 39) rfl))) (mvT hZ (hw _ (List.mem_of_getElem? (i := 40) rfl))) (mvT hZ (hw _ (List.mem_of_getElem? (i := 35) rfl))) (mvT hZ (hw _ (List.mem_of_getElem? (i := 41) rfl))) (by decide) (backOf (W := 1) (rmMax l Z a0 hw [] w4 q2 h25 n0 f33 ) hZ (hw _ (List.mem_of_getElem? (i := 41) rfl)) (hw _ (List.mem_of_getElem? (i := 35) rfl)) (by decide) (by decide)) (g := (mkF m 38 #[.val (.ref a1), .val (.long q2), .second] [(.long q2), (.long w4), (.ref a1)])) rfl (by rw [hml]; rfl) (argsL := [(.long w4), (.long q2)]) (rest := [(.ref a1)]) (lenOf pd_0 rfl) rfl (by show 2 * 0 + _ ≤ _; exact Nat.le_of_eq rfl) (hb hby d5_38) (fun _ _ => ⟨rfl, e29, (by decide : 0 + 0 ≤ _), (by decide : 0 + 0 ≤ _)⟩)
  dsimp only [Pt.U, Pt.locs, Pt.cells, Pt.slots] at X32 l32 y32 z32 st32 hQ32
  subst l32 y32 z32
  obtain ⟨rfl, N32q, e32⟩ := hQ32
  have N32 := Fr.app N25 N32q
  have P34 : Rch p e below (s₁.setTop (entryFrame m #[(.ref a1), (.long q2)] 3)) (T32.setTop (mkF m 41 #[.val (.ref a1), .val (.long q2), .second] [(.long (own_max w4 q2)), (.ref a1)])) := fun t k => P31 t (st32 t k)
  obtain ⟨y35, hy35⟩ : ∃ z : Int64, z = (own_max w4 q2) := ⟨_, rfl⟩
  rw [← hy35] at P34
  obtain ⟨T36, h36, X36, e36, W36, st36⟩ := putF X32 hx hZ hown (host := "") (Or.inl (hw _ (List.mem_of_getElem? (i := 37) rfl))) Via.refl e32 f28 (((E1.wr W6).wr W14).wr W25) (Or.inl (hw _ (List.mem_of_getElem? (i := 38) rfl))) (hw _ (List.mem_of_getElem? (i := 2) rfl)) (ty := .long) (by decide) rfl rfl (g := (mkF m 41 #[.val (.ref a1), .val (.long q2), .second] [(.long y35), (.ref a1)])) rfl rfl (hb hby d5_41)
  have Fw36 := f28.same W36
  have P37 : Rch p e below (s₁.setTop (entryFrame m #[(.ref a1), (.long q2)] 3)) (T36.setTop (mkF m 44 #[.val (.ref a1), .val (.long q2), .second] [])) := fun t k => P34 t (st36 t k)
  have N36 := Fr.snoc X36 N32 g1
  have P38 : Rch p e below (s₁.setTop (entryFrame m #[(.ref a1), (.long q2)] 3)) (T36.setTop (mkF m 46 #[.val (.ref a1), .val (.long q2), .second] [(.ref a1), (.ref a1)])) := fun t k => P37 t (by
    show Steps p.tables e below (T36.setTop (mkF m 44 #[.val (.ref a1), .val (.long q2), .second] [])) t
    refine XS.aloadN X36.here hx rfl (hb hby d5_44) rfl rfl ?_
    show Steps p.tables e below (T36.setTop (mkF m 45 #[.val (.ref a1), .val (.long q2), .second] [(.ref a1)])) t
    refine XS.dup X36.here hx rfl (hb hby d5_45) rfl rfl ?_
    exact k)
  have f39 : Fld Z h36 a1 "com/example/usher/usher/server/Traffic" "latencyTotal" "J" (.long w5) := ((((F4.other W6 (Or.inr (slot_ne (Or.inl (hw _ (List.mem_of_getElem? (i := 43) rfl))) (Or.inl (hw _ (List.mem_of_getElem? (i := 19) rfl))) (by decide) (t := .long) (t' := .long) (by decide) (by decide)))).other W14 (Or.inr (slot_ne (Or.inl (hw _ (List.mem_of_getElem? (i := 43) rfl))) (Or.inl (hw _ (List.mem_of_getElem? (i := 27) rfl))) (by decide) (t := .long) (t' := .long) (by decide) (by decide)))).other W25 (Or.inr (slot_ne (Or.inl (hw _ (List.mem_of_getElem? (i := 43) rfl))) (Or.inl (hw _ (List.mem_of_getElem? (i := 12) rfl))) (by decide) (t := .long) (t' := .long) (by decide) (by decide)))).other W36 (Or.inr (slot_ne (Or.inl (hw _ (List.mem_of_getElem? (i := 43) rfl))) (Or.inl (hw _ (List.mem_of_getElem? (i := 38) rfl))) (by decide) (t := .long) (t' := .long) (by decide) (by decide))))
  obtain ⟨T40, X40, e40, st40⟩ := getF X36 hx hZ hown (host := "") (Or.inl (hw _ (List.mem_of_getElem? (i := 42) rfl))) Via.refl e36 f39 (g := (mkF m 46 #[.val (.ref a1), .val (.long q2), .second] [(.ref a1), (.ref a1)])) rfl rfl (hb hby d5_46)
  have P41 : Rch p e below (s₁.setTop (entryFrame m #[(.ref a1), (.long q2)] 3)) (T40.setTop (mkF m 49 #[.val (.ref a1), .val (.long q2), .second] [(.long w5), (.ref a1)])) := fun t k => P38 t (st40 t k)
  obtain ⟨y42, hy42⟩ : ∃ z : Int64, z = (w5 + q2) := ⟨_, rfl⟩
  have P43 : Rch p e below (s₁.setTop (entryFrame m #[(.ref a1), (.long q2)] 3)) (T40.setTop (mkF m 51 #[.val (.ref a1), .val (.long q2), .second] [(.long y42), (.ref a1)])) := fun t k => P41 t (by
    subst hy42
    show Steps p.tables e below (T40.setTop (mkF m 49 #[.val (.ref a1), .val (.long q2), .second] [(.long w5), (.ref a1)])) t
    refine XS.lloadN X40.here hx rfl (hb hby d5_49) rfl ?_
    show Steps p.tables e below (T40.setTop (mkF m 50 #[.val (.ref a1), .val (.long q2), .second] [(.long q2), (.long w5), (.ref a1)])) t
    refine XS.ladd X40.here hx rfl (hb hby d5_50) rfl ?_
    exact k)
  obtain ⟨T44, h44, X44, e44, W44, st44⟩ := putF X40 hx hZ hown (host := "") (Or.inl (hw _ (List.mem_of_getElem? (i := 42) rfl))) Via.refl e40 f39 ((((E1.wr W6).wr W14).wr W25).wr W36) (Or.inl (hw _ (List.mem_of_getElem? (i := 43) rfl))) (hw _ (List.mem_of_getElem? (i := 2) rfl)) (ty := .long) (by decide) rfl rfl (g := (mkF m 51 #[.val (.ref a1), .val (.long q2), .second] [(.long y42), (.ref a1)])) rfl rfl (hb hby d5_51)
  have Fw44 := f39.same W44
  have P45 : Rch p e below (s₁.setTop (entryFrame m #[(.ref a1), (.long q2)] 3)) (T44.setTop (mkF m 54 #[.val (.ref a1), .val (.long q2), .second] [])) := fun t k => P43 t (st44 t k)
  have N44 := Fr.snoc X44 N36 g1
  obtain ⟨fs, hr, hrun, hended, hW, hsame⟩ := X44.leave (v := none) (fun _ => rfl)
  refine ⟨_, _, P45 _ ?_, hrun, hended, _, _, rfl, ?_, ⟨_, rfl⟩, hW, hsame.mono (by decide) (by decide)⟩
  · exact X44.returnOut hx Bd.returns (hb hby d5_54) hr
  · show Q_rmA Z a1 q2 w1 w2 w3 w4 w5 h0 n0 _ T44.heap _
    rw [e44]
    have f46 : Fld Z h44 a1 "com/example/usher/usher/server/Traffic" "sent" "J" (.long y4) := ((((Fw6.other W14 (Or.inr (slot_ne (Or.inl (hw _ (List.mem_of_getElem? (i := 19) rfl))) (Or.inl (hw _ (List.mem_of_getElem? (i := 27) rfl))) (by decide) (t := .long) (t' := .long) (by decide) (by decide)))).other W25 (Or.inr (slot_ne (Or.inl (hw _ (List.mem_of_getElem? (i := 19) rfl))) (Or.inl (hw _ (List.mem_of_getElem? (i := 12) rfl))) (by decide) (t := .long) (t' := .long) (by decide) (by decide)))).other W36 (Or.inr (slot_ne (Or.inl (hw _ (List.mem_of_getElem? (i := 19) rfl))) (Or.inl (hw _ (List.mem_of_getElem? (i := 38) rfl))) (by decide) (t := .long) (t' := .long) (by decide) (by decide)))).other W44 (Or.inr (slot_ne (Or.inl (hw _ (List.mem_of_getElem? (i := 19) rfl))) (Or.inl (hw _ (List.mem_of_getElem? (i := 43) rfl))) (by decide) (t := .long) (t' := .long) (by decide) (by decide))))
    have q0_ : (w1 + (1 : Int64)) = y4 := by rw [hy4]
    have f47 : Fld Z h44 a1 "com/example/usher/usher/server/Traffic" "answered" "J" (.long y12) := (((Fw14.other W25 (Or.inr (slot_ne (Or.inl (hw _ (List.mem_of_getElem? (i := 27) rfl))) (Or.inl (hw _ (List.mem_of_getElem? (i := 12) rfl))) (by decide) (t := .long) (t' := .long) (by decide) (by decide)))).other W36 (Or.inr (slot_ne (Or.inl (hw _ (List.mem_of_getElem? (i := 27) rfl))) (Or.inl (hw _ (List.mem_of_getElem? (i := 38) rfl))) (by decide) (t := .long) (t' := .long) (by decide) (by decide)))).other W44 (Or.inr (slot_ne (Or.inl (hw _ (List.mem_of_getElem? (i := 27) rfl))) (Or.inl (hw _ (List.mem_of_getElem? (i := 43) rfl))) (by decide) (t := .long) (t' := .long) (by decide) (by decide))))
    have q1_ : (w2 + (1 : Int64)) = y12 := by rw [hy12]
    have f48 : Fld Z h44 a1 "com/example/usher/usher/server/Traffic" "latencyMin" "J" (.long y24) := ((Fw25.other W36 (Or.inr (slot_ne (Or.inl (hw _ (List.mem_of_getElem? (i := 12) rfl))) (Or.inl (hw _ (List.mem_of_getElem? (i := 38) rfl))) (by decide) (t := .long) (t' := .long) (by decide) (by decide)))).other W44 (Or.inr (slot_ne (Or.inl (hw _ (List.mem_of_getElem? (i := 12) rfl))) (Or.inl (hw _ (List.mem_of_getElem? (i := 43) rfl))) (by decide) (t := .long) (t' := .long) (by decide) (by decide))))
    have q2_ : (own_min w3 q2) = y24 := by rw [hy24]
    have f49 : Fld Z h44 a1 "com/example/usher/usher/server/Traffic" "latencyMax" "J" (.long y35) := (Fw36.other W44 (Or.inr (slot_ne (Or.inl (hw _ (List.mem_of_getElem? (i := 38) rfl))) (Or.inl (hw _ (List.mem_of_getElem? (i := 43) rfl))) (by decide) (t := .long) (t' := .long) (by decide) (by decide))))
    have q3_ : (own_max w4 q2) = y35 := by rw [hy35]
    have q4_ : (w5 + q2) = y42 := by rw [hy42]
    have f50 : Keep h0 h44 [a1] := ((((((Keep.refl h0 [a1]).wr W6 (Or.inl (List.mem_of_getElem? (i := 0) rfl))).wr W14 (Or.inl (List.mem_of_getElem? (i := 0) rfl))).wr W25 (Or.inl (List.mem_of_getElem? (i := 0) rfl))).wr W36 (Or.inl (List.mem_of_getElem? (i := 0) rfl))).wr W44 (Or.inl (List.mem_of_getElem? (i := 0) rfl)))
    exact ⟨rfl, N44, f50, (((((E1.wr W6).wr W14).wr W25).wr W36).wr W44), (by rw [q0_]; exact f46), (by rw [q1_]; exact f47), (by rw [q2_]; exact f48), (by rw [q3_]; exact f49), (by rw [q4_]; exact Fw44)⟩
def Q_rmL1 (Z : State) (a1 : Addr) (w2 : Int64) (w3 : Int64) (w4 : Int64) (w5 : Int64) (h0 : Heap) (n0 : Nat) (v : Option Value) (h : Heap) (L : List Loc) : Prop := ∃ (b_ : Addr), ∃ (kb_ : ClassId), v = some (.ref b_) ∧ Fr n0 L ∧ Keep h0 h [] ∧ (h0.size ≤ b_) ∧ (Arv Z h b_ kb_ .long (3 : Int32) [(.long (w3 / (1000000 : Int64))), (.long ((w5 / w2) / (1000000 : Int64))), (.long (w4 / (1000000 : Int64)))] (.long (0 : Int64)))
set_option maxRecDepth 65536 in
set_option maxHeartbeats 40000000 in
theorem rmL1 (l : Launch) (Z : State) (a0 : Array Value) (hw : ∀ d ∈ tables_1, d.before a0 Z = true) (ws : List Jvm.Cond) (a1 : Addr) (w2 : Int64) (w3 : Int64) (w4 : Int64) (w5 : Int64) (h0 : Heap) (n0 : Nat) (Z0 : n0 ≤ h0.size) (F1 : Fld Z h0 a1 "com/example/usher/usher/server/Traffic" "answered" "J" (.long w2)) (F2 : Fld Z h0 a1 "com/example/usher/usher/server/Traffic" "latencyMin" "J" (.long w3)) (F3 : Fld Z h0 a1 "com/example/usher/usher/server/Traffic" "latencyMax" "J" (.long w4)) (F4 : Fld Z h0 a1 "com/example/usher/usher/server/Traffic" "latencyTotal" "J" (.long w5)) (hp : (0 : Int64) < w2) :
    MetFree l (⟨"com/example/usher/usher/server/Traffic", "latencyMillis", "()[J"⟩ : MethodName) (head1 (Jvm.Cond.code (⟨"com/example/usher/usher/server/Traffic", "latencyMillis", "()[J"⟩ : MethodName) prog_78_method_13_code 2 (some (.array .long)) :: ws) ({ frames := 0, cells := 1, slots := 3, locals := 0 } : Room)) (fun a U => a = #[(.ref a1)] ∧ Z.Warmed39 U.vm ∧ U.heap = h0) (fun _ _ _ _ _ => True) (fun _ U o U' => ∃ v L, o = .returned v ∧ Q_rmL1 Z a1 w2 w3 w4 w5 h0 n0 v U'.heap L ∧ FrameEnd U o U' L ({ frames := 0, cells := 1, slots := 3, locals := 0 } : Room).cells ({ frames := 0, cells := 1, slots := 3, locals := 0 } : Room).slots) := by
  refine MetFree.of_bodySF (plainFor_of_name pn_0) hisR ?_
  intro p e s m args below meth c s₁ Bd hml0 hP hK
  obtain ⟨rfl, hZ, hh⟩ := hP
  have hx := Bd.exec
  have hby := Bd.bytes
  have hml : c.maxLocals = 2 := hml0
  have hown : s.vm.findClass "com/example/usher/usher/server/Traffic" = some m.cls := findClass_of_methodNamed Bd.named
  have hnm := (name_of_methodNamed Bd.named Bd.method).1
  have X0 : Stand p l e ({ frames := 0, cells := 1, slots := 3, locals := 0 } : Room) s m #[(.ref a1)] below meth c s₁ [] 0 0 := Stand.of_body Bd
  have e0 : s₁.heap = h0 := by rw [← hh, Bd.state]; rfl
  have N0 := Fr.nil n0
  have P0 : Rch p e below (s₁.setTop (entryFrame m #[(.ref a1)] 2)) (s₁.setTop (mkF m 0 #[.val (.ref a1), .unset] [])) := fun t k => castTop (by first | (simp [entryFrame, mkF, argsToLocals, Value.category]; done) | rfl) k
  have P1 : Rch p e below (s₁.setTop (entryFrame m #[(.ref a1)] 2)) (s₁.setTop (mkF m 1 #[.val (.ref a1), .unset] [(.int (3 : Int32))])) := fun t k => P0 t (by
    show Steps p.tables e below (s₁.setTop (mkF m 0 #[.val (.ref a1), .unset] [])) t
    refine XS.iconst X0.here hx rfl (hb hby d4_0) ?_
    exact k)
  obtain ⟨T2, h2, k2, X2, e2, E2, A2, st2⟩ := newP X0 hx hZ (hw _ (List.mem_of_getElem? (i := 25) rfl)) e0 (g := (mkF m 1 #[.val (.ref a1), .unset] [(.int (3 : Int32))])) rfl (hb hby d4_1) rfl (by decide) (cap := 3) (by decide) (by decide) (by decide) (by decide)
  obtain ⟨b2, g2⟩ : ∃ z, z = h0.size := ⟨_, rfl⟩
  rw [← g2] at A2 st2
  have g_b2 : n0 ≤ b2 := Nat.le_trans Z0 (Nat.le_of_eq g2.symm)
  have sz_b2 : h0.size ≤ b2 := Nat.le_trans (Keep.refl h0 []).1 (Nat.le_of_eq g2.symm)
  have ne_a1_b2 : a1 ≠ b2 := Nat.ne_of_lt (Nat.lt_of_lt_of_le F1.lt (Nat.le_of_eq g2.symm))
  have V2 : Arv Z h2 b2 k2 .long (3 : Int32) [(.long (0 : Int64)), (.long (0 : Int64)), (.long (0 : Int64))] (.long (0 : Int64)) := (Arv.new A2 (by decide)).pad (pad_rep [] (.long (0 : Int64)) 3)
  have P3 : Rch p e below (s₁.setTop (entryFrame m #[(.ref a1)] 2)) (T2.setTop (mkF m 3 #[.val (.ref a1), .unset] [(.ref b2)])) := fun t k => P1 t (st2 t k)
  have P4 : Rch p e below (s₁.setTop (entryFrame m #[(.ref a1)] 2)) (T2.setTop (mkF m 5 #[.val (.ref a1), .val (.ref b2)] [(.ref a1)])) := fun t k => P3 t (by
    show Steps p.tables e below (T2.setTop (mkF m 3 #[.val (.ref a1), .unset] [(.ref b2)])) t
    refine XS.astoreN X2.here hx rfl (hb hby d4_3) rfl rfl (l' := #[.val (.ref a1), .val (.ref b2)]) rfl ?_
    show Steps p.tables e below (T2.setTop (mkF m 4 #[.val (.ref a1), .val (.ref b2)] [])) t
    refine XS.aloadN X2.here hx rfl (hb hby d4_4) rfl rfl ?_
    exact k)
  obtain ⟨T5, X5, e5, st5⟩ := getF X2 hx hZ hown (host := "") (Or.inl (hw _ (List.mem_of_getElem? (i := 26) rfl))) Via.refl e2 (F1.ext E2) (g := (mkF m 5 #[.val (.ref a1), .val (.ref b2)] [(.ref a1)])) rfl rfl (hb hby d4_5)
  have P6 : Rch p e below (s₁.setTop (entryFrame m #[(.ref a1)] 2)) (T5.setTop (mkF m 8 #[.val (.ref a1), .val (.ref b2)] [(.long w2)])) := fun t k => P4 t (st5 t k)
  have P7 : Rch p e below (s₁.setTop (entryFrame m #[(.ref a1)] 2)) (T5.setTop (mkF m 16 #[.val (.ref a1), .val (.ref b2)] [(.ref a1), (.int (0 : Int32)), (.ref b2)])) := fun t k => P6 t (by
    show Steps p.tables e below (T5.setTop (mkF m 8 #[.val (.ref a1), .val (.ref b2)] [(.long w2)])) t
    refine XS.lconst X5.here hx rfl (hb hby d4_8) ?_
    show Steps p.tables e below (T5.setTop (mkF m 9 #[.val (.ref a1), .val (.ref b2)] [(.long (0 : Int64)), (.long w2)])) t
    refine XS.lcmp X5.here hx rfl (hb hby d4_9) rfl ?_
    show Steps p.tables e below (T5.setTop (mkF m 10 #[.val (.ref a1), .val (.ref b2)] [(.int (lcmpW w2 (0 : Int64)))])) t
    refine XS.ifNo X5.here hx rfl (hb hby d4_10) rfl ((if0 _ _).trans (tlt ((lw_gt w2 (0 : Int64)).mpr hp)).2.2.2) ?_
    show Steps p.tables e below (T5.setTop (mkF m 13 #[.val (.ref a1), .val (.ref b2)] [])) t
    refine XS.aloadN X5.here hx rfl (hb hby d4_13) rfl rfl ?_
    show Steps p.tables e below (T5.setTop (mkF m 14 #[.val (.ref a1), .val (.ref b2)] [(.ref b2)])) t
    refine XS.iconst X5.here hx rfl (hb hby d4_14) ?_
    show Steps p.tables e below (T5.setTop (mkF m 15 #[.val (.ref a1), .val (.ref b2)] [(.int (0 : Int32)), (.ref b2)])) t
    refine XS.aloadN X5.here hx rfl (hb hby d4_15) rfl rfl ?_
    exact k)
  obtain ⟨T8, X8, e8, st8⟩ := getF X5 hx hZ hown (host := "") (Or.inl (hw _ (List.mem_of_getElem? (i := 11) rfl))) Via.refl e5 (F2.ext E2) (g := (mkF m 16 #[.val (.ref a1), .val (.ref b2)] [(.ref a1), (.int (0 : Int32)), (.ref b2)])) rfl rfl (hb hby d4_16)
  have P9 : Rch p e below (s₁.setTop (entryFrame m #[(.ref a1)] 2)) (T8.setTop (mkF m 19 #[.val (.ref a1), .val (.ref b2)] [(.long w3), (.int (0 : Int32)), (.ref b2)])) := fun t k => P7 t (st8 t k)
  obtain ⟨y10, hy10⟩ : ∃ z : Int64, z = (w3 / (1000000 : Int64)) := ⟨_, rfl⟩
  have P11 : Rch p e below (s₁.setTop (entryFrame m #[(.ref a1)] 2)) (T8.setTop (mkF m 23 #[.val (.ref a1), .val (.ref b2)] [(.long y10), (.int (0 : Int32)), (.ref b2)])) := fun t k => P9 t (by
    subst hy10
    show Steps p.tables e below (T8.setTop (mkF m 19 #[.val (.ref a1), .val (.ref b2)] [(.long w3), (.int (0 : Int32)), (.ref b2)])) t
    refine X8.ldc2Long hx hown (mvT hZ (hw _ (List.mem_of_getElem? (i := 44) rfl))) (g := (mkF m 19 #[.val (.ref a1), .val (.ref b2)] [(.long w3), (.int (0 : Int32)), (.ref b2)])) rfl (hb hby d4_19) _ ?_
    show Steps p.tables e below (T8.setTop (mkF m 22 #[.val (.ref a1), .val (.ref b2)] [(.long (1000000 : Int64)), (.long w3), (.int (0 : Int32)), (.ref b2)])) t
    refine XS.ldiv X8.here hx rfl (hb hby d4_22) rfl (by decide) ?_
    exact k)
  have V_o12 := V2
  obtain ⟨co12, Aro12, qo12, So12, Mo12, Ho12, Go12⟩ := V_o12
  have hin13 : ¬ ((0 : Int32) < 0 ∨ co12.slots.size ≤ ((0 : Int32)).toNatClampNeg) := inb_of So12 ⟨by decide, by decide⟩
  obtain ⟨T13, h13, X13, e13, W13, st13⟩ := stJ X8 hx hZ e8 Aro12 (j := (0 : Int32)) hin13 (g := (mkF m 23 #[.val (.ref a1), .val (.ref b2)] [(.long y10), (.int (0 : Int32)), (.ref b2)])) rfl rfl (hb hby d4_23)
  have V13 : Arv Z h13 b2 k2 .long (3 : Int32) [(.long y10), (.long (0 : Int64)), (.long (0 : Int64))] (.long (0 : Int64)) := Arv.set Aro12 qo12 So12 Mo12 Ho12 Go12 rfl W13 0 rfl (Nat.le_of_ble_eq_true rfl)
  have P14 : Rch p e below (s₁.setTop (entryFrame m #[(.ref a1)] 2)) (T13.setTop (mkF m 24 #[.val (.ref a1), .val (.ref b2)] [])) := fun t k => P11 t (st13 t k)
  have N13 := Fr.snoc X13 N0 g_b2
  have P15 : Rch p e below (s₁.setTop (entryFrame m #[(.ref a1)] 2)) (T13.setTop (mkF m 27 #[.val (.ref a1), .val (.ref b2)] [(.ref a1), (.int (1 : Int32)), (.ref b2)])) := fun t k => P14 t (by
    show Steps p.tables e below (T13.setTop (mkF m 24 #[.val (.ref a1), .val (.ref b2)] [])) t
    refine XS.aloadN X13.here hx rfl (hb hby d4_24) rfl rfl ?_
    show Steps p.tables e below (T13.setTop (mkF m 25 #[.val (.ref a1), .val (.ref b2)] [(.ref b2)])) t
    refine XS.iconst X13.here hx rfl (hb hby d4_25) ?_
    show Steps p.tables e below (T13.setTop (mkF m 26 #[.val (.ref a1), .val (.ref b2)] [(.int (1 : Int32)), (.ref b2)])) t
    refine XS.aloadN X13.here hx rfl (hb hby d4_26) rfl rfl ?_
    exact k)
  obtain ⟨T16, X16, e16, st16⟩ := getF X13 hx hZ hown (host := "") (Or.inl (hw _ (List.mem_of_getElem? (i := 42) rfl))) Via.refl e13 ((F4.ext E2).other W13 (Or.inl ne_a1_b2)) (g := (mkF m 27 #[.val (.ref a1), .val (.ref b2)] [(.ref a1), (.int (1 : Int32)), (.ref b2)])) rfl rfl (hb hby d4_27)
  have P17 : Rch p e below (s₁.setTop (entryFrame m #[(.ref a1)] 2)) (T16.setTop (mkF m 30 #[.val (.ref a1), .val (.ref b2)] [(.long w5), (.int (1 : Int32)), (.ref b2)])) := fun t k => P15 t (st16 t k)
  have P18 : Rch p e below (s₁.setTop (entryFrame m #[(.ref a1)] 2)) (T16.setTop (mkF m 31 #[.val (.ref a1), .val (.ref b2)] [(.ref a1), (.long w5), (.int (1 : Int32)), (.ref b2)])) := fun t k => P17 t (by
    show Steps p.tables e below (T16.setTop (mkF m 30 #[.val (.ref a1), .val (.ref b2)] [(.long w5), (.int (1 : Int32)), (.ref b2)])) t
    refine XS.aloadN X16.here hx rfl (hb hby d4_30) rfl rfl ?_
    exact k)
  obtain ⟨T19, X19, e19, st19⟩ := getF X16 hx hZ hown (host := "") (Or.inl (hw _ (List.mem_of_getElem? (i := 26) rfl))) Via.refl e16 ((F1.ext E2).other W13 (Or.inl ne_a1_b2)) (g := (mkF m 31 #[.val (.ref a1), .val (.ref b2)] [(.ref a1), (.long w5), (.int (1 : Int32)), (.ref b2)])) rfl rfl (hb hby d4_31)
  have P20 : Rch p e below (s₁.setTop (entryFrame m #[(.ref a1)] 2)) (T19.setTop (mkF m 34 #[.val (.ref a1), .val (.ref b2)] [(.long w2), (.long w5), (.int (1 : Int32)), (.ref b2)])) := fun t k => P18 t (st19 t k)
  obtain ⟨y21, hy21⟩ : ∃ z : Int64, z = ((w5 / w2) / (1000000 : Int64)) := ⟨_, rfl⟩
  have P22 : Rch p e below (s₁.setTop (entryFrame m #[(.ref a1)] 2)) (T19.setTop (mkF m 39 #[.val (.ref a1), .val (.ref b2)] [(.long y21), (.int (1 : Int32)), (.ref b2)])) := fun t k => P20 t (by
    subst hy21
    show Steps p.tables e below (T19.setTop (mkF m 34 #[.val (.ref a1), .val (.ref b2)] [(.long w2), (.long w5), (.int (1 : Int32)), (.ref b2)])) t
    refine XS.ldiv X19.here hx rfl (hb hby d4_34) rfl (own_pos hp) ?_
    show Steps p.tables e below (T19.setTop (mkF m 35 #[.val (.ref a1), .val (.ref b2)] [(.long (w5 / w2)), (.int (1 : Int32)), (.ref b2)])) t
    refine X19.ldc2Long hx hown (mvT hZ (hw _ (List.mem_of_getElem? (i := 44) rfl))) (g := (mkF m 35 #[.val (.ref a1), .val (.ref b2)] [(.long (w5 / w2)), (.int (1 : Int32)), (.ref b2)])) rfl (hb hby d4_35) _ ?_
    show Steps p.tables e below (T19.setTop (mkF m 38 #[.val (.ref a1), .val (.ref b2)] [(.long (1000000 : Int64)), (.long (w5 / w2)), (.int (1 : Int32)), (.ref b2)])) t
    refine XS.ldiv X19.here hx rfl (hb hby d4_38) rfl (by decide) ?_
    exact k)
  have V_o23 := V13
  obtain ⟨co23, Aro23, qo23, So23, Mo23, Ho23, Go23⟩ := V_o23
  have hin24 : ¬ ((1 : Int32) < 0 ∨ co23.slots.size ≤ ((1 : Int32)).toNatClampNeg) := inb_of So23 ⟨by decide, by decide⟩
  obtain ⟨T24, h24, X24, e24, W24, st24⟩ := stJ X19 hx hZ e19 Aro23 (j := (1 : Int32)) hin24 (g := (mkF m 39 #[.val (.ref a1), .val (.ref b2)] [(.long y21), (.int (1 : Int32)), (.ref b2)])) rfl rfl (hb hby d4_39)
  have V24 : Arv Z h24 b2 k2 .long (3 : Int32) [(.long y10), (.long y21), (.long (0 : Int64))] (.long (0 : Int64)) := Arv.set Aro23 qo23 So23 Mo23 Ho23 Go23 rfl W24 1 rfl (Nat.le_of_ble_eq_true rfl)
  have P25 : Rch p e below (s₁.setTop (entryFrame m #[(.ref a1)] 2)) (T24.setTop (mkF m 40 #[.val (.ref a1), .val (.ref b2)] [])) := fun t k => P22 t (st24 t k)
  have N24 := Fr.snoc X24 N13 g_b2
  have P26 : Rch p e below (s₁.setTop (entryFrame m #[(.ref a1)] 2)) (T24.setTop (mkF m 43 #[.val (.ref a1), .val (.ref b2)] [(.ref a1), (.int (2 : Int32)), (.ref b2)])) := fun t k => P25 t (by
    show Steps p.tables e below (T24.setTop (mkF m 40 #[.val (.ref a1), .val (.ref b2)] [])) t
    refine XS.aloadN X24.here hx rfl (hb hby d4_40) rfl rfl ?_
    show Steps p.tables e below (T24.setTop (mkF m 41 #[.val (.ref a1), .val (.ref b2)] [(.ref b2)])) t
    refine XS.iconst X24.here hx rfl (hb hby d4_41) ?_
    show Steps p.tables e below (T24.setTop (mkF m 42 #[.val (.ref a1), .val (.ref b2)] [(.int (2 : Int32)), (.ref b2)])) t
    refine XS.aloadN X24.here hx rfl (hb hby d4_42) rfl rfl ?_
    exact k)
  have f27 : Fld Z h24 a1 "com/example/usher/usher/server/Traffic" "latencyMax" "J" (.long w4) := (((F3.ext E2).other W13 (Or.inl ne_a1_b2)).other W24 (Or.inl ne_a1_b2))
  obtain ⟨T28, X28, e28, st28⟩ := getF X24 hx hZ hown (host := "") (Or.inl (hw _ (List.mem_of_getElem? (i := 37) rfl))) Via.refl e24 f27 (g := (mkF m 43 #[.val (.ref a1), .val (.ref b2)] [(.ref a1), (.int (2 : Int32)), (.ref b2)])) rfl rfl (hb hby d4_43)
  have P29 : Rch p e below (s₁.setTop (entryFrame m #[(.ref a1)] 2)) (T28.setTop (mkF m 46 #[.val (.ref a1), .val (.ref b2)] [(.long w4), (.int (2 : Int32)), (.ref b2)])) := fun t k => P26 t (st28 t k)
  obtain ⟨y30, hy30⟩ : ∃ z : Int64, z = (w4 / (1000000 : Int64)) := ⟨_, rfl⟩
  have P31 : Rch p e below (s₁.setTop (entryFrame m #[(.ref a1)] 2)) (T28.setTop (mkF m 50 #[.val (.ref a1), .val (.ref b2)] [(.long y30), (.int (2 : Int32)), (.ref b2)])) := fun t k => P29 t (by
    subst hy30
    show Steps p.tables e below (T28.setTop (mkF m 46 #[.val (.ref a1), .val (.ref b2)] [(.long w4), (.int (2 : Int32)), (.ref b2)])) t
    refine X28.ldc2Long hx hown (mvT hZ (hw _ (List.mem_of_getElem? (i := 44) rfl))) (g := (mkF m 46 #[.val (.ref a1), .val (.ref b2)] [(.long w4), (.int (2 : Int32)), (.ref b2)])) rfl (hb hby d4_46) _ ?_
    show Steps p.tables e below (T28.setTop (mkF m 49 #[.val (.ref a1), .val (.ref b2)] [(.long (1000000 : Int64)), (.long w4), (.int (2 : Int32)), (.ref b2)])) t
    refine XS.ldiv X28.here hx rfl (hb hby d4_49) rfl (by decide) ?_
    exact k)
  have V_o32 := V24
  obtain ⟨co32, Aro32, qo32, So32, Mo32, Ho32, Go32⟩ := V_o32
  have hin33 : ¬ ((2 : Int32) < 0 ∨ co32.slots.size ≤ ((2 : Int32)).toNatClampNeg) := inb_of So32 ⟨by decide, by decide⟩
  obtain ⟨T33, h33, X33, e33, W33, st33⟩ := stJ X28 hx hZ e28 Aro32 (j := (2 : Int32)) hin33 (g := (mkF m 50 #[.val (.ref a1), .val (.ref b2)] [(.long y30), (.int (2 : Int32)), (.ref b2)])) rfl rfl (hb hby d4_50)
  have V33 : Arv Z h33 b2 k2 .long (3 : Int32) [(.long y10), (.long y21), (.long y30)] (.long (0 : Int64)) := Arv.set Aro32 qo32 So32 Mo32 Ho32 Go32 rfl W33 2 rfl (Nat.le_of_ble_eq_true rfl)
  have P34 : Rch p e below (s₁.setTop (entryFrame m #[(.ref a1)] 2)) (T33.setTop (mkF m 51 #[.val (.ref a1), .val (.ref b2)] [])) := fun t k => P31 t (st33 t k)
  have N33 := Fr.snoc X33 N24 g_b2
  have P35 : Rch p e below (s₁.setTop (entryFrame m #[(.ref a1)] 2)) (T33.setTop (mkF m 52 #[.val (.ref a1), .val (.ref b2)] [(.ref b2)])) := fun t k => P34 t (by
    show Steps p.tables e below (T33.setTop (mkF m 51 #[.val (.ref a1), .val (.ref b2)] [])) t
    refine XS.aloadN X33.here hx rfl (hb hby d4_51) rfl rfl ?_
    exact k)
  obtain ⟨fs, hr, hrun, hended, hW, hsame⟩ := X33.leave (v := some (.ref b2)) (fun h => by rw [Bd.returns] at h; cases h)
  refine ⟨_, _, P35 _ ?_, hrun, hended, _, _, rfl, ?_, ⟨_, rfl⟩, hW, hsame.mono (by decide) (by decide)⟩
  · exact retOut X33 hx Bd.returns rfl (Or.inr (Or.inr (Or.inr (Or.inr ⟨rfl, rfl, rfl⟩)))) (hb hby d4_52) hr
  · show Q_rmL1 Z a1 w2 w3 w4 w5 h0 n0 _ T33.heap _
    rw [e33]
    have f36 : Keep h0 h33 [] := (((((Keep.refl h0 []).ext E2).wr W13 (Or.inr sz_b2)).wr W24 (Or.inr sz_b2)).wr W33 (Or.inr sz_b2))
    exact ⟨b2, k2, rfl, N33, f36, sz_b2, (by subst hy30 hy21 hy10; exact V33)⟩
def Q_rmL0 (Z : State) (a1 : Addr) (w2 : Int64) (w3 : Int64) (w4 : Int64) (w5 : Int64) (h0 : Heap) (n0 : Nat) (v : Option Value) (h : Heap) (L : List Loc) : Prop := ∃ (b_ : Addr), ∃ (kb_ : ClassId), v = some (.ref b_) ∧ Fr n0 L ∧ Keep h0 h [] ∧ (h0.size ≤ b_) ∧ (Arv Z h b_ kb_ .long (3 : Int32) [(.long (0 : Int64)), (.long (0 : Int64)), (.long (0 : Int64))] (.long (0 : Int64)))
set_option maxRecDepth 65536 in
set_option maxHeartbeats 40000000 in
theorem rmL0 (l : Launch) (Z : State) (a0 : Array Value) (hw : ∀ d ∈ tables_1, d.before a0 Z = true) (ws : List Jvm.Cond) (a1 : Addr) (w2 : Int64) (w3 : Int64) (w4 : Int64) (w5 : Int64) (h0 : Heap) (n0 : Nat) (Z0 : n0 ≤ h0.size) (F1 : Fld Z h0 a1 "com/example/usher/usher/server/Traffic" "answered" "J" (.long w2)) (F2 : Fld Z h0 a1 "com/example/usher/usher/server/Traffic" "latencyMin" "J" (.long w3)) (F3 : Fld Z h0 a1 "com/example/usher/usher/server/Traffic" "latencyMax" "J" (.long w4)) (F4 : Fld Z h0 a1 "com/example/usher/usher/server/Traffic" "latencyTotal" "J" (.long w5)) (hp : ¬ ((0 : Int64) < w2)) :
    MetFree l (⟨"com/example/usher/usher/server/Traffic", "latencyMillis", "()[J"⟩ : MethodName) (head1 (Jvm.Cond.code (⟨"com/example/usher/usher/server/Traffic", "latencyMillis", "()[J"⟩ : MethodName) prog_78_method_13_code 2 (some (.array .long)) :: ws) ({ frames := 0, cells := 1, slots := 3, locals := 0 } : Room)) (fun a U => a = #[(.ref a1)] ∧ Z.Warmed39 U.vm ∧ U.heap = h0) (fun _ _ _ _ _ => True) (fun _ U o U' => ∃ v L, o = .returned v ∧ Q_rmL0 Z a1 w2 w3 w4 w5 h0 n0 v U'.heap L ∧ FrameEnd U o U' L ({ frames := 0, cells := 1, slots := 3, locals := 0 } : Room).cells ({ frames := 0, cells := 1, slots := 3, locals := 0 } : Room).slots) := by
  refine MetFree.of_bodySF (plainFor_of_name pn_0) hisR ?_
  intro p e s m args below meth c s₁ Bd hml0 hP hK
  obtain ⟨rfl, hZ, hh⟩ := hP
  have hx := Bd.exec
  have hby := Bd.bytes
  have hml : c.maxLocals = 2 := hml0
  have hown : s.vm.findClass "com/example/usher/usher/server/Traffic" = some m.cls := findClass_of_methodNamed Bd.named
  have hnm := (name_of_methodNamed Bd.named Bd.method).1
  have X0 : Stand p l e ({ frames := 0, cells := 1, slots := 3, locals := 0 } : Room) s m #[(.ref a1)] below meth c s₁ [] 0 0 := Stand.of_body Bd
  have e0 : s₁.heap = h0 := by rw [← hh, Bd.state]; rfl
  have N0 := Fr.nil n0
  have P0 : Rch p e below (s₁.setTop (entryFrame m #[(.ref a1)] 2)) (s₁.setTop (mkF m 0 #[.val (.ref a1), .unset] [])) := fun t k => castTop (by first | (simp [entryFrame, mkF, argsToLocals, Value.category]; done) | rfl) k
  have P1 : Rch p e below (s₁.setTop (entryFrame m #[(.ref a1)] 2)) (s₁.setTop (mkF m 1 #[.val (.ref a1), .unset] [(.int (3 : Int32))])) := fun t k => P0 t (by
    show Steps p.tables e below (s₁.setTop (mkF m 0 #[.val (.ref a1), .unset] [])) t
    refine XS.iconst X0.here hx rfl (hb hby d4_0) ?_
    exact k)
  obtain ⟨T2, h2, k2, X2, e2, E2, A2, st2⟩ := newP X0 hx hZ (hw _ (List.mem_of_getElem? (i := 25) rfl)) e0 (g := (mkF m 1 #[.val (.ref a1), .unset] [(.int (3 : Int32))])) rfl (hb hby d4_1) rfl (by decide) (cap := 3) (by decide) (by decide) (by decide) (by decide)
  obtain ⟨b2, g2⟩ : ∃ z, z = h0.size := ⟨_, rfl⟩
  rw [← g2] at A2 st2
  have g_b2 : n0 ≤ b2 := Nat.le_trans Z0 (Nat.le_of_eq g2.symm)
  have sz_b2 : h0.size ≤ b2 := Nat.le_trans (Keep.refl h0 []).1 (Nat.le_of_eq g2.symm)
  have ne_a1_b2 : a1 ≠ b2 := Nat.ne_of_lt (Nat.lt_of_lt_of_le F1.lt (Nat.le_of_eq g2.symm))
  have V2 : Arv Z h2 b2 k2 .long (3 : Int32) [(.long (0 : Int64)), (.long (0 : Int64)), (.long (0 : Int64))] (.long (0 : Int64)) := (Arv.new A2 (by decide)).pad (pad_rep [] (.long (0 : Int64)) 3)
  have P3 : Rch p e below (s₁.setTop (entryFrame m #[(.ref a1)] 2)) (T2.setTop (mkF m 3 #[.val (.ref a1), .unset] [(.ref b2)])) := fun t k => P1 t (st2 t k)
  have P4 : Rch p e below (s₁.setTop (entryFrame m #[(.ref a1)] 2)) (T2.setTop (mkF m 5 #[.val (.ref a1), .val (.ref b2)] [(.ref a1)])) := fun t k => P3 t (by
    show Steps p.tables e below (T2.setTop (mkF m 3 #[.val (.ref a1), .unset] [(.ref b2)])) t
    refine XS.astoreN X2.here hx rfl (hb hby d4_3) rfl rfl (l' := #[.val (.ref a1), .val (.ref b2)]) rfl ?_
    show Steps p.tables e below (T2.setTop (mkF m 4 #[.val (.ref a1), .val (.ref b2)] [])) t
    refine XS.aloadN X2.here hx rfl (hb hby d4_4) rfl rfl ?_
    exact k)
  obtain ⟨T5, X5, e5, st5⟩ := getF X2 hx hZ hown (host := "") (Or.inl (hw _ (List.mem_of_getElem? (i := 26) rfl))) Via.refl e2 (F1.ext E2) (g := (mkF m 5 #[.val (.ref a1), .val (.ref b2)] [(.ref a1)])) rfl rfl (hb hby d4_5)
  have P6 : Rch p e below (s₁.setTop (entryFrame m #[(.ref a1)] 2)) (T5.setTop (mkF m 8 #[.val (.ref a1), .val (.ref b2)] [(.long w2)])) := fun t k => P4 t (st5 t k)
  have P7 : Rch p e below (s₁.setTop (entryFrame m #[(.ref a1)] 2)) (T5.setTop (mkF m 52 #[.val (.ref a1), .val (.ref b2)] [(.ref b2)])) := fun t k => P6 t (by
    show Steps p.tables e below (T5.setTop (mkF m 8 #[.val (.ref a1), .val (.ref b2)] [(.long w2)])) t
    refine XS.lconst X5.here hx rfl (hb hby d4_8) ?_
    show Steps p.tables e below (T5.setTop (mkF m 9 #[.val (.ref a1), .val (.ref b2)] [(.long (0 : Int64)), (.long w2)])) t
    refine XS.lcmp X5.here hx rfl (hb hby d4_9) rfl ?_
    show Steps p.tables e below (T5.setTop (mkF m 10 #[.val (.ref a1), .val (.ref b2)] [(.int (lcmpW w2 (0 : Int64)))])) t
    refine XS.ifYes X5.here hx rfl (pc0 := 10) (pc' := 51) rfl (hb hby d4_10) rfl ((if0 _ _).trans (flt (fun q_ => hp ((lw_gt w2 (0 : Int64)).mp q_))).2.2.2) (by decide) (by decide) ?_
    show Steps p.tables e below (T5.setTop (mkF m 51 #[.val (.ref a1), .val (.ref b2)] [])) t
    refine XS.aloadN X5.here hx rfl (hb hby d4_51) rfl rfl ?_
    exact k)
  obtain ⟨fs, hr, hrun, hended, hW, hsame⟩ := X5.leave (v := some (.ref b2)) (fun h => by rw [Bd.returns] at h; cases h)
  refine ⟨_, _, P7 _ ?_, hrun, hended, _, _, rfl, ?_, ⟨_, rfl⟩, hW, hsame.mono (by decide) (by decide)⟩
  · exact retOut X5 hx Bd.returns rfl (Or.inr (Or.inr (Or.inr (Or.inr ⟨rfl, rfl, rfl⟩)))) (hb hby d4_52) hr
  · show Q_rmL0 Z a1 w2 w3 w4 w5 h0 n0 _ T5.heap _
    rw [e5]
    have f8 : Keep h0 h2 [] := ((Keep.refl h0 []).ext E2)
    exact ⟨b2, k2, rfl, N0, f8, sz_b2, (by exact V2)⟩
theorem own_four (p : Int32) : (p &&& (3 : Int32)) = (0 : Int32) ∨ (p &&& (3 : Int32)) = (1 : Int32) ∨ (p &&& (3 : Int32)) = (2 : Int32) ∨ (p &&& (3 : Int32)) = (3 : Int32) := by
  have m := c_mask p 3 2 (by decide) (by decide)
  generalize (p &&& (3 : Int32)) = x at *
  have h : x.toInt = 0 ∨ x.toInt = 1 ∨ x.toInt = 2 ∨ x.toInt = 3 := by omega
  have f : ∀ n : Int32, x.toInt = n.toInt → x = n := fun n h => Int32.toInt_inj.mp h
  rcases h with h | h | h | h
  · exact Or.inl (f 0 h)
  · exact Or.inr (Or.inl (f 1 h))
  · exact Or.inr (Or.inr (Or.inl (f 2 h)))
  · exact Or.inr (Or.inr (Or.inr (f 3 h)))
theorem own_y {y q : Int64} (h : y = (q &&& (2305843009213693951 : Int64))) : 0 ≤ y.toInt ∧ y.toInt < 2305843009213693952 := by
  have := c_maskL q 2305843009213693951 61 (by decide) (by decide)
  rw [h, this]; omega
theorem own_mn (a b : Int64) : (own_min a b).toInt = min a.toInt b.toInt := by
  unfold own_min; split <;> rename_i h <;> rw [Int64.lt_iff_toInt_lt] at h <;> omega
theorem own_mx (a b : Int64) : (own_max a b).toInt = max a.toInt b.toInt := by
  unfold own_max; split <;> rename_i h <;> rw [Int64.lt_iff_toInt_lt] at h <;> omega
theorem own_mean (s n k : Int64) (N : Int) (hn : n.toInt = N) (hk : k.toInt = N * 1000000) (hN : 0 < N) (hN2 : N < 10) (hs : 0 ≤ s.toInt) : (s / n) / (1000000 : Int64) = s / k := by
  have n1 : n ≠ -1 := by rintro rfl; have : (-1 : Int64).toInt = -1 := rfl; omega
  have k1 : k ≠ -1 := by rintro rfl; have : (-1 : Int64).toInt = -1 := rfl; omega
  have e1 := (c_ldiv s n N hn n1).1 hs
  have h2 : 0 ≤ (s / n).toInt := by rw [e1]; exact Int.ediv_nonneg hs (by omega)
  have e2 := (c_ldiv (s / n) 1000000 1000000 rfl (by decide)).1 h2
  have e3 := (c_ldiv s k _ hk k1).1 hs
  apply Int64.toInt_inj.mp
  rw [e2, e1, e3, Int.ediv_ediv_of_nonneg (by omega)]
abbrev own_M : Int64 := 9223372036854775807
theorem own_z (x : Int64) : (0 : Int64) + x = x := Int64.zero_add x
theorem own_e10 (x : Int64) (h : 0 ≤ x.toInt ∧ x.toInt < 2305843009213693952) : (own_min (9223372036854775807 : Int64) x) / (1000000 : Int64) = x / (1000000 : Int64) := by
  congr 1; apply Int64.toInt_inj.mp; rw [own_mn]; have : (9223372036854775807 : Int64).toInt = 9223372036854775807 := rfl; omega
theorem own_e12 (x : Int64) (h : 0 ≤ x.toInt ∧ x.toInt < 2305843009213693952) : (own_max (0 : Int64) x) / (1000000 : Int64) = x / (1000000 : Int64) := by
  congr 1; apply Int64.toInt_inj.mp; rw [own_mx]; have : (0 : Int64).toInt = 0 := rfl; omega
theorem own_e11 (x : Int64) (h : 0 ≤ x.toInt ∧ x.toInt < 2305843009213693952) : (((0 : Int64) + x) / ((0 : Int64) + (1 : Int64))) / (1000000 : Int64) = x / (1000000 : Int64) := by
  rw [own_z]; exact own_mean x _ _ 1 rfl rfl (by decide) (by decide) h.1
theorem own_e20 (x : Int64) (h : 0 ≤ x.toInt ∧ x.toInt < 2305843009213693952) (y : Int64) (h' : 0 ≤ y.toInt ∧ y.toInt < 2305843009213693952) : (own_min (own_min (9223372036854775807 : Int64) x) y) / (1000000 : Int64) = (own_min x y) / (1000000 : Int64) := by
  congr 1; apply Int64.toInt_inj.mp; rw [own_mn, own_mn, own_mn]; have : (9223372036854775807 : Int64).toInt = 9223372036854775807 := rfl; omega
theorem own_e22 (x : Int64) (h : 0 ≤ x.toInt ∧ x.toInt < 2305843009213693952) (y : Int64) (h' : 0 ≤ y.toInt ∧ y.toInt < 2305843009213693952) : (own_max (own_max (0 : Int64) x) y) / (1000000 : Int64) = (own_max x y) / (1000000 : Int64) := by
  congr 1; apply Int64.toInt_inj.mp; rw [own_mx, own_mx, own_mx]; have : (0 : Int64).toInt = 0 := rfl; omega
theorem own_add2 (x y : Int64) (h : 0 ≤ x.toInt ∧ x.toInt < 2305843009213693952) (h' : 0 ≤ y.toInt ∧ y.toInt < 2305843009213693952) : (x + y).toInt = x.toInt + y.toInt := by
  have a := c_ladd x y; have r := rng64 (x + y); omega
theorem own_e21 (x : Int64) (h : 0 ≤ x.toInt ∧ x.toInt < 2305843009213693952) (y : Int64) (h' : 0 ≤ y.toInt ∧ y.toInt < 2305843009213693952) : ((((0 : Int64) + x) + y) / (((0 : Int64) + (1 : Int64)) + (1 : Int64))) / (1000000 : Int64) = (x + y) / (2000000 : Int64) := by
  rw [own_z]; exact own_mean (x + y) _ _ 2 rfl rfl (by decide) (by decide) (by have := own_add2 x y h h'; omega)
theorem own_e30 (x : Int64) (h : 0 ≤ x.toInt ∧ x.toInt < 2305843009213693952) (y : Int64) (h' : 0 ≤ y.toInt ∧ y.toInt < 2305843009213693952) (z : Int64) (h'' : 0 ≤ z.toInt ∧ z.toInt < 2305843009213693952) : (own_min (own_min (own_min (9223372036854775807 : Int64) x) y) z) / (1000000 : Int64) = (own_min x (own_min y z)) / (1000000 : Int64) := by
  congr 1; apply Int64.toInt_inj.mp; simp only [own_mn]; have : (9223372036854775807 : Int64).toInt = 9223372036854775807 := rfl; omega
theorem own_e32 (x : Int64) (h : 0 ≤ x.toInt ∧ x.toInt < 2305843009213693952) (y : Int64) (h' : 0 ≤ y.toInt ∧ y.toInt < 2305843009213693952) (z : Int64) (h'' : 0 ≤ z.toInt ∧ z.toInt < 2305843009213693952) : (own_max (own_max (own_max (0 : Int64) x) y) z) / (1000000 : Int64) = (own_max x (own_max y z)) / (1000000 : Int64) := by
  congr 1; apply Int64.toInt_inj.mp; simp only [own_mx]; have : (0 : Int64).toInt = 0 := rfl; omega
theorem own_e31 (x : Int64) (h : 0 ≤ x.toInt ∧ x.toInt < 2305843009213693952) (y : Int64) (h' : 0 ≤ y.toInt ∧ y.toInt < 2305843009213693952) (z : Int64) (h'' : 0 ≤ z.toInt ∧ z.toInt < 2305843009213693952) : (((((0 : Int64) + x) + y) + z) / ((((0 : Int64) + (1 : Int64)) + (1 : Int64)) + (1 : Int64))) / (1000000 : Int64) = ((x + y) + z) / (3000000 : Int64) := by
  rw [own_z]; exact own_mean ((x + y) + z) _ _ 3 rfl rfl (by decide) (by decide) (by have := own_add2 x y h h'; have a := c_ladd (x + y) z; have r := rng64 (x + y + z); omega)

def Q_rm0 (Z : State) (p1 : Int32) (q2 : Int64) (q3 : Int64) (q4 : Int64) (p5 : Int32) (h0 : Heap) (n0 : Nat) (v : Option Value) (h : Heap) (L : List Loc) : Prop := v = some (.int (1 : Int32)) ∧ Fr n0 L
set_option maxRecDepth 65536 in
set_option maxHeartbeats 40000000 in
theorem rm0 (l : Launch) (Z : State) (a0 : Array Value) (hw : ∀ d ∈ tables_1, d.before a0 Z = true) (ws : List Jvm.Cond) (p1 : Int32) (q2 : Int64) (q3 : Int64) (q4 : Int64) (p5 : Int32) (h0 : Heap) (n0 : Nat) (Z0 : n0 ≤ h0.size) :
    MetFree l x (head1 (Jvm.Cond.code x code maxLocals ret :: ws) room_1) (fun a U => a = #[(.int p1), (.long q2), (.long q3), (.long q4), (.int p5)] ∧ Z.Warmed39 U.vm ∧ U.heap = h0) (fun _ _ _ _ _ => True) (fun _ U o U' => ∃ v L, o = .returned v ∧ Q_rm0 Z p1 q2 q3 q4 p5 h0 n0 v U'.heap L ∧ FrameEnd U o U' L room_1.cells room_1.slots) := by
  refine MetFree.of_bodySF (plainFor_of_name pn_1) hisR ?_
  intro p e s m args below meth c s₁ Bd hml0 hP hK
  obtain ⟨rfl, hZ, hh⟩ := hP
  have hx := Bd.exec
  have hby := Bd.bytes
  have hml : c.maxLocals = 23 := hml0
  have hown : s.vm.findClass "com/example/usher/usher/server/TrafficLatencyMillisPinLaw" = some m.cls := findClass_of_methodNamed Bd.named
  have hnm := (name_of_methodNamed Bd.named Bd.method).1
  have X0 : Stand p l e room_1 s m #[(.int p1), (.long q2), (.long q3), (.long q4), (.int p5)] below meth c s₁ [] 0 0 := Stand.of_body Bd
  have e0 : s₁.heap = h0 := by rw [← hh, Bd.state]; rfl
  have N0 := Fr.nil n0
  have P0 : Rch p e below (s₁.setTop (entryFrame m #[(.int p1), (.long q2), (.long q3), (.long q4), (.int p5)] maxLocals)) (s₁.setTop (mkF m 0 #[.val (.int p1), .val (.long q2), .second, .val (.long q3), .second, .val (.long q4), .second, .val (.int p5), .unset, .unset, .unset, .unset, .unset, .unset, .unset, .unset, .unset, .unset, .unset, .unset, .unset, .unset, .unset] [])) := fun t k => castTop (by first | (simp [entryFrame, mkF, argsToLocals, Value.category, maxLocals]; done) | rfl) k
  obtain ⟨x1, hx1⟩ : ∃ z : Int32, z = (p1 &&& (3 : Int32)) := ⟨_, rfl⟩
  have P2 : Rch p e below (s₁.setTop (entryFrame m #[(.int p1), (.long q2), (.long q3), (.long q4), (.int p5)] maxLocals)) (s₁.setTop (mkF m 5 #[.val (.int p1), .val (.long q2), .second, .val (.long q3), .second, .val (.long q4), .second, .val (.int p5), .val (.int x1), .unset, .unset, .unset, .unset, .unset, .unset, .unset, .unset, .unset, .unset, .unset, .unset, .unset, .unset] [])) := fun t k => P0 t (by
    subst hx1
    show Steps p.tables e below (s₁.setTop (mkF m 0 #[.val (.int p1), .val (.long q2), .second, .val (.long q3), .second, .val (.long q4), .second, .val (.int p5), .unset, .unset, .unset, .unset, .unset, .unset, .unset, .unset, .unset, .unset, .unset, .unset, .unset, .unset, .unset] [])) t
    refine XS.iloadN X0.here hx rfl (hb hby at_0) rfl ?_
    show Steps p.tables e below (s₁.setTop (mkF m 1 #[.val (.int p1), .val (.long q2), .second, .val (.long q3), .second, .val (.long q4), .second, .val (.int p5), .unset, .unset, .unset, .unset, .unset, .unset, .unset, .unset, .unset, .unset, .unset, .unset, .unset, .unset, .unset] [(.int p1)])) t
    refine XS.iconst X0.here hx rfl (hb hby at_1) ?_
    show Steps p.tables e below (s₁.setTop (mkF m 2 #[.val (.int p1), .val (.long q2), .second, .val (.long q3), .second, .val (.long q4), .second, .val (.int p5), .unset, .unset, .unset, .unset, .unset, .unset, .unset, .unset, .unset, .unset, .unset, .unset, .unset, .unset, .unset] [(.int (3 : Int32)), (.int p1)])) t
    refine XS.iand X0.here hx rfl (hb hby at_2) rfl ?_
    show Steps p.tables e below (s₁.setTop (mkF m 3 #[.val (.int p1), .val (.long q2), .second, .val (.long q3), .second, .val (.long q4), .second, .val (.int p5), .unset, .unset, .unset, .unset, .unset, .unset, .unset, .unset, .unset, .unset, .unset, .unset, .unset, .unset, .unset] [(.int (p1 &&& (3 : Int32)))])) t
    refine XS.istore X0.here hx rfl (hb hby at_3) rfl (l' := #[.val (.int p1), .val (.long q2), .second, .val (.long q3), .second, .val (.long q4), .second, .val (.int p5), .val (.int (p1 &&& (3 : Int32))), .unset, .unset, .unset, .unset, .unset, .unset, .unset, .unset, .unset, .unset, .unset, .unset, .unset, .unset]) rfl ?_
    exact k)
  rcases own_four p1 with hs | hs | hs | hs
  · have hi_ : x1 = (0 : Int32) := by rw [hx1]; exact hs
    have P3 : Rch p e below (s₁.setTop (entryFrame m #[(.int p1), (.long q2), (.long q3), (.long q4), (.int p5)] maxLocals)) (s₁.setTop (mkF m 5 #[.val (.int p1), .val (.long q2), .second, .val (.long q3), .second, .val (.long q4), .second, .val (.int p5), .val (.int (0 : Int32)), .unset, .unset, .unset, .unset, .unset, .unset, .unset, .unset, .unset, .unset, .unset, .unset, .unset, .unset] [])) := by have q_ := P2; rw [hi_] at q_; exact q_
    obtain ⟨y4, hy4⟩ : ∃ z : Int64, z = (q2 &&& (2305843009213693951 : Int64)) := ⟨_, rfl⟩
    obtain ⟨y5, hy5⟩ : ∃ z : Int64, z = (q3 &&& (2305843009213693951 : Int64)) := ⟨_, rfl⟩
    obtain ⟨y6, hy6⟩ : ∃ z : Int64, z = (q4 &&& (2305843009213693951 : Int64)) := ⟨_, rfl⟩
    have P7 : Rch p e below (s₁.setTop (entryFrame m #[(.int p1), (.long q2), (.long q3), (.long q4), (.int p5)] maxLocals)) (s₁.setTop (mkF m 27 #[.val (.int p1), .val (.long q2), .second, .val (.long q3), .second, .val (.long q4), .second, .val (.int p5), .val (.int (0 : Int32)), .val (.long y4), .second, .val (.long y5), .second, .val (.long y6), .second, .unset, .unset, .unset, .unset, .unset, .unset, .unset, .unset] [])) := fun t k => P3 t (by
      subst hy4 hy5 hy6
      show Steps p.tables e below (s₁.setTop (mkF m 5 #[.val (.int p1), .val (.long q2), .second, .val (.long q3), .second, .val (.long q4), .second, .val (.int p5), .val (.int (0 : Int32)), .unset, .unset, .unset, .unset, .unset, .unset, .unset, .unset, .unset, .unset, .unset, .unset, .unset, .unset] [])) t
      refine XS.lloadN X0.here hx rfl (hb hby at_5) rfl ?_
      show Steps p.tables e below (s₁.setTop (mkF m 6 #[.val (.int p1), .val (.long q2), .second, .val (.long q3), .second, .val (.long q4), .second, .val (.int p5), .val (.int (0 : Int32)), .unset, .unset, .unset, .unset, .unset, .unset, .unset, .unset, .unset, .unset, .unset, .unset, .unset, .unset] [(.long q2)])) t
      refine X0.ldc2Long hx hown (mvT hZ (hw _ (List.mem_of_getElem? (i := 0) rfl))) (g := (mkF m 6 #[.val (.int p1), .val (.long q2), .second, .val (.long q3), .second, .val (.long q4), .second, .val (.int p5), .val (.int (0 : Int32)), .unset, .unset, .unset, .unset, .unset, .unset, .unset, .unset, .unset, .unset, .unset, .unset, .unset, .unset] [(.long q2)])) rfl (hb hby at_6) _ ?_
      show Steps p.tables e below (s₁.setTop (mkF m 9 #[.val (.int p1), .val (.long q2), .second, .val (.long q3), .second, .val (.long q4), .second, .val (.int p5), .val (.int (0 : Int32)), .unset, .unset, .unset, .unset, .unset, .unset, .unset, .unset, .unset, .unset, .unset, .unset, .unset, .unset] [(.long (2305843009213693951 : Int64)), (.long q2)])) t
      refine XS.land X0.here hx rfl (hb hby at_9) rfl ?_
      show Steps p.tables e below (s₁.setTop (mkF m 10 #[.val (.int p1), .val (.long q2), .second, .val (.long q3), .second, .val (.long q4), .second, .val (.int p5), .val (.int (0 : Int32)), .unset, .unset, .unset, .unset, .unset, .unset, .unset, .unset, .unset, .unset, .unset, .unset, .unset, .unset] [(.long (q2 &&& (2305843009213693951 : Int64)))])) t
      refine XS.lstore X0.here hx rfl (hb hby at_10) rfl (l' := #[.val (.int p1), .val (.long q2), .second, .val (.long q3), .second, .val (.long q4), .second, .val (.int p5), .val (.int (0 : Int32)), .val (.long (q2 &&& (2305843009213693951 : Int64))), .second, .unset, .unset, .unset, .unset, .unset, .unset, .unset, .unset, .unset, .unset, .unset, .unset]) rfl ?_
      show Steps p.tables e below (s₁.setTop (mkF m 12 #[.val (.int p1), .val (.long q2), .second, .val (.long q3), .second, .val (.long q4), .second, .val (.int p5), .val (.int (0 : Int32)), .val (.long (q2 &&& (2305843009213693951 : Int64))), .second, .unset, .unset, .unset, .unset, .unset, .unset, .unset, .unset, .unset, .unset, .unset, .unset] [])) t
      refine XS.lloadN X0.here hx rfl (hb hby at_12) rfl ?_
      show Steps p.tables e below (s₁.setTop (mkF m 13 #[.val (.int p1), .val (.long q2), .second, .val (.long q3), .second, .val (.long q4), .second, .val (.int p5), .val (.int (0 : Int32)), .val (.long (q2 &&& (2305843009213693951 : Int64))), .second, .unset, .unset, .unset, .unset, .unset, .unset, .unset, .unset, .unset, .unset, .unset, .unset] [(.long q3)])) t
      refine X0.ldc2Long hx hown (mvT hZ (hw _ (List.mem_of_getElem? (i := 0) rfl))) (g := (mkF m 13 #[.val (.int p1), .val (.long q2), .second, .val (.long q3), .second, .val (.long q4), .second, .val (.int p5), .val (.int (0 : Int32)), .val (.long (q2 &&& (2305843009213693951 : Int64))), .second, .unset, .unset, .unset, .unset, .unset, .unset, .unset, .unset, .unset, .unset, .unset, .unset] [(.long q3)])) rfl (hb hby at_13) _ ?_
      show Steps p.tables e below (s₁.setTop (mkF m 16 #[.val (.int p1), .val (.long q2), .second, .val (.long q3), .second, .val (.long q4), .second, .val (.int p5), .val (.int (0 : Int32)), .val (.long (q2 &&& (2305843009213693951 : Int64))), .second, .unset, .unset, .unset, .unset, .unset, .unset, .unset, .unset, .unset, .unset, .unset, .unset] [(.long (2305843009213693951 : Int64)), (.long q3)])) t
      refine XS.land X0.here hx rfl (hb hby at_16) rfl ?_
      show Steps p.tables e below (s₁.setTop (mkF m 17 #[.val (.int p1), .val (.long q2), .second, .val (.long q3), .second, .val (.long q4), .second, .val (.int p5), .val (.int (0 : Int32)), .val (.long (q2 &&& (2305843009213693951 : Int64))), .second, .unset, .unset, .unset, .unset, .unset, .unset, .unset, .unset, .unset, .unset, .unset, .unset] [(.long (q3 &&& (2305843009213693951 : Int64)))])) t
      refine XS.lstore X0.here hx rfl (hb hby at_17) rfl (l' := #[.val (.int p1), .val (.long q2), .second, .val (.long q3), .second, .val (.long q4), .second, .val (.int p5), .val (.int (0 : Int32)), .val (.long (q2 &&& (2305843009213693951 : Int64))), .second, .val (.long (q3 &&& (2305843009213693951 : Int64))), .second, .unset, .unset, .unset, .unset, .unset, .unset, .unset, .unset, .unset, .unset]) rfl ?_
      show Steps p.tables e below (s₁.setTop (mkF m 19 #[.val (.int p1), .val (.long q2), .second, .val (.long q3), .second, .val (.long q4), .second, .val (.int p5), .val (.int (0 : Int32)), .val (.long (q2 &&& (2305843009213693951 : Int64))), .second, .val (.long (q3 &&& (2305843009213693951 : Int64))), .second, .unset, .unset, .unset, .unset, .unset, .unset, .unset, .unset, .unset, .unset] [])) t
      refine XS.lload X0.here hx rfl (hb hby at_19) rfl ?_
      show Steps p.tables e below (s₁.setTop (mkF m 21 #[.val (.int p1), .val (.long q2), .second, .val (.long q3), .second, .val (.long q4), .second, .val (.int p5), .val (.int (0 : Int32)), .val (.long (q2 &&& (2305843009213693951 : Int64))), .second, .val (.long (q3 &&& (2305843009213693951 : Int64))), .second, .unset, .unset, .unset, .unset, .unset, .unset, .unset, .unset, .unset, .unset] [(.long q4)])) t
      refine X0.ldc2Long hx hown (mvT hZ (hw _ (List.mem_of_getElem? (i := 0) rfl))) (g := (mkF m 21 #[.val (.int p1), .val (.long q2), .second, .val (.long q3), .second, .val (.long q4), .second, .val (.int p5), .val (.int (0 : Int32)), .val (.long (q2 &&& (2305843009213693951 : Int64))), .second, .val (.long (q3 &&& (2305843009213693951 : Int64))), .second, .unset, .unset, .unset, .unset, .unset, .unset, .unset, .unset, .unset, .unset] [(.long q4)])) rfl (hb hby at_21) _ ?_
      show Steps p.tables e below (s₁.setTop (mkF m 24 #[.val (.int p1), .val (.long q2), .second, .val (.long q3), .second, .val (.long q4), .second, .val (.int p5), .val (.int (0 : Int32)), .val (.long (q2 &&& (2305843009213693951 : Int64))), .second, .val (.long (q3 &&& (2305843009213693951 : Int64))), .second, .unset, .unset, .unset, .unset, .unset, .unset, .unset, .unset, .unset, .unset] [(.long (2305843009213693951 : Int64)), (.long q4)])) t
      refine XS.land X0.here hx rfl (hb hby at_24) rfl ?_
      show Steps p.tables e below (s₁.setTop (mkF m 25 #[.val (.int p1), .val (.long q2), .second, .val (.long q3), .second, .val (.long q4), .second, .val (.int p5), .val (.int (0 : Int32)), .val (.long (q2 &&& (2305843009213693951 : Int64))), .second, .val (.long (q3 &&& (2305843009213693951 : Int64))), .second, .unset, .unset, .unset, .unset, .unset, .unset, .unset, .unset, .unset, .unset] [(.long (q4 &&& (2305843009213693951 : Int64)))])) t
      refine XS.lstore X0.here hx rfl (hb hby at_25) rfl (l' := #[.val (.int p1), .val (.long q2), .second, .val (.long q3), .second, .val (.long q4), .second, .val (.int p5), .val (.int (0 : Int32)), .val (.long (q2 &&& (2305843009213693951 : Int64))), .second, .val (.long (q3 &&& (2305843009213693951 : Int64))), .second, .val (.long (q4 &&& (2305843009213693951 : Int64))), .second, .unset, .unset, .unset, .unset, .unset, .unset, .unset, .unset]) rfl ?_
      exact k)
    obtain ⟨T8, h8, X8, e8, E8, A8, D8, -, st8⟩ := newO X0 hx hZ hown (hw _ (List.mem_of_getElem? (i := 1) rfl)) (hw _ (List.mem_of_getElem? (i := 2) rfl)) (hw _ (List.mem_of_getElem? (i := 3) rfl)) e0 (g := (mkF m 27 #[.val (.int p1), .val (.long q2), .second, .val (.long q3), .second, .val (.long q4), .second, .val (.int p5), .val (.int (0 : Int32)), .val (.long y4), .second, .val (.long y5), .second, .val (.long y6), .second, .unset, .unset, .unset, .unset, .unset, .unset, .unset, .unset] [])) rfl (hb hby at_27) (by decide) (by decide)
    obtain ⟨b8, g8⟩ : ∃ z, z = h0.size := ⟨_, rfl⟩
    rw [← g8] at A8 D8 st8
    have g_b8 : n0 ≤ b8 := Nat.le_trans Z0 (Nat.le_of_eq g8.symm)
    have sz_b8 : h0.size ≤ b8 := Nat.le_trans (Keep.refl h0 []).1 (Nat.le_of_eq g8.symm)
    have F8_12 : Fld Z h8 b8 "com/example/usher/usher/server/Traffic" "latencyMin" "J" (.long (0 : Int64)) := D8 (Or.inl (hw _ (List.mem_of_getElem? (i := 12) rfl))) (ty := .long) (by decide)
    have F8_19 : Fld Z h8 b8 "com/example/usher/usher/server/Traffic" "sent" "J" (.long (0 : Int64)) := D8 (Or.inl (hw _ (List.mem_of_getElem? (i := 19) rfl))) (ty := .long) (by decide)
    have F8_27 : Fld Z h8 b8 "com/example/usher/usher/server/Traffic" "answered" "J" (.long (0 : Int64)) := D8 (Or.inl (hw _ (List.mem_of_getElem? (i := 27) rfl))) (ty := .long) (by decide)
    have F8_38 : Fld Z h8 b8 "com/example/usher/usher/server/Traffic" "latencyMax" "J" (.long (0 : Int64)) := D8 (Or.inl (hw _ (List.mem_of_getElem? (i := 38) rfl))) (ty := .long) (by decide)
    have F8_43 : Fld Z h8 b8 "com/example/usher/usher/server/Traffic" "latencyTotal" "J" (.long (0 : Int64)) := D8 (Or.inl (hw _ (List.mem_of_getElem? (i := 43) rfl))) (ty := .long) (by decide)
    have P9 : Rch p e below (s₁.setTop (entryFrame m #[(.int p1), (.long q2), (.long q3), (.long q4), (.int p5)] maxLocals)) (T8.setTop (mkF m 30 #[.val (.int p1), .val (.long q2), .second, .val (.long q3), .second, .val (.long q4), .second, .val (.int p5), .val (.int (0 : Int32)), .val (.long y4), .second, .val (.long y5), .second, .val (.long y6), .second, .unset, .unset, .unset, .unset, .unset, .unset, .unset, .unset] [(.ref b8)])) := fun t k => P7 t (st8 t k)
    have P10 : Rch p e below (s₁.setTop (entryFrame m #[(.int p1), (.long q2), (.long q3), (.long q4), (.int p5)] maxLocals)) (T8.setTop (mkF m 31 #[.val (.int p1), .val (.long q2), .second, .val (.long q3), .second, .val (.long q4), .second, .val (.int p5), .val (.int (0 : Int32)), .val (.long y4), .second, .val (.long y5), .second, .val (.long y6), .second, .unset, .unset, .unset, .unset, .unset, .unset, .unset, .unset] [(.ref b8), (.ref b8)])) := fun t k => P9 t (by
      show Steps p.tables e below (T8.setTop (mkF m 30 #[.val (.int p1), .val (.long q2), .second, .val (.long q3), .second, .val (.long q4), .second, .val (.int p5), .val (.int (0 : Int32)), .val (.long y4), .second, .val (.long y5), .second, .val (.long y6), .second, .unset, .unset, .unset, .unset, .unset, .unset, .unset, .unset] [(.ref b8)])) t
      refine XS.dup X8.here hx rfl (hb hby at_30) rfl rfl ?_
      exact k)
    have f12 : n0 ≤ h8.size := (Nat.le_trans Z0 E8.1)
    obtain ⟨_, _, ⟨T11, L11, k11, n11⟩, -, X11, ⟨Lc11, hQ11, l11, y11, z11⟩, st11⟩ := X8.specialBack hx (y := (⟨"com/example/usher/usher/server/Traffic", "<init>", "()V"⟩ : MethodName)) rfl hown (mvT hZ (hw _ (List.mem_of_getElem? (i := 4) rfl))) (mvT hZ (hw _ (List.mem_of_getElem? (i := 5) rfl))) (mvT hZ (hw _ (List.mem_of_getElem? (i := 6) rfl))) (by decide) (backOf (W := 1) (rmI l Z a0 hw [] b8 h8 n0 f12 A8 g_b8 F8_19 F8_27 F8_12 F8_38 F8_43) hZ (hw _ (List.mem_of_getElem? (i := 6) rfl)) (hw _ (List.mem_of_getElem? (i := 3) rfl)) (by decide) (by decide)) (g := (mkF m 31 #[.val (.int p1), .val (.long q2), .second, .val (.long q3), .second, .val (.long q4), .second, .val (.int p5), .val (.int (0 : Int32)), .val (.long y4), .second, .val (.long y5), .second, .val (.long y6), .second, .unset, .unset, .unset, .unset, .unset, .unset, .unset, .unset] [(.ref b8), (.ref b8)])) rfl (by rw [hml]; rfl) (Steps.refl _) (a := b8) (argsL := []) (rest := [(.ref b8)]) (lenOf pd_1 rfl) rfl (by show 2 * 0 + _ ≤ _; exact Nat.le_of_eq rfl) (hb hby at_31) (fun _ _ => ⟨rfl, e8, (by decide : 1 + 0 ≤ _), (by decide : 8 + 0 ≤ _)⟩)
    dsimp only [Pt.U, Pt.locs, Pt.cells, Pt.slots] at X11 l11 y11 z11 st11 hQ11
    subst l11 y11 z11
    obtain ⟨rfl, N11q, K11, E_11, G0_11, G1_11, G2_11, G3_11, G4_11⟩ := hQ11
    have N11 := Fr.app N0 N11q
    have P13 : Rch p e below (s₁.setTop (entryFrame m #[(.int p1), (.long q2), (.long q3), (.long q4), (.int p5)] maxLocals)) (T11.setTop (mkF m 34 #[.val (.int p1), .val (.long q2), .second, .val (.long q3), .second, .val (.long q4), .second, .val (.int p5), .val (.int (0 : Int32)), .val (.long y4), .second, .val (.long y5), .second, .val (.long y6), .second, .unset, .unset, .unset, .unset, .unset, .unset, .unset, .unset] [(.ref b8)])) := fun t k => P10 t (st11.trans k)
    obtain ⟨x14, hx14⟩ : ∃ z : Int32, z = (p5 &&& (1 : Int32)) := ⟨_, rfl⟩
    have P15 : Rch p e below (s₁.setTop (entryFrame m #[(.int p1), (.long q2), (.long q3), (.long q4), (.int p5)] maxLocals)) (T11.setTop (mkF m 40 #[.val (.int p1), .val (.long q2), .second, .val (.long q3), .second, .val (.long q4), .second, .val (.int p5), .val (.int (0 : Int32)), .val (.long y4), .second, .val (.long y5), .second, .val (.long y6), .second, .val (.ref b8), .unset, .unset, .unset, .unset, .unset, .unset, .unset] [(.int x14)])) := fun t k => P13 t (by
      subst hx14
      show Steps p.tables e below (T11.setTop (mkF m 34 #[.val (.int p1), .val (.long q2), .second, .val (.long q3), .second, .val (.long q4), .second, .val (.int p5), .val (.int (0 : Int32)), .val (.long y4), .second, .val (.long y5), .second, .val (.long y6), .second, .unset, .unset, .unset, .unset, .unset, .unset, .unset, .unset] [(.ref b8)])) t
      refine XS.astore X11.here hx rfl (hb hby at_34) rfl rfl (l' := #[.val (.int p1), .val (.long q2), .second, .val (.long q3), .second, .val (.long q4), .second, .val (.int p5), .val (.int (0 : Int32)), .val (.long y4), .second, .val (.long y5), .second, .val (.long y6), .second, .val (.ref b8), .unset, .unset, .unset, .unset, .unset, .unset, .unset]) rfl ?_
      show Steps p.tables e below (T11.setTop (mkF m 36 #[.val (.int p1), .val (.long q2), .second, .val (.long q3), .second, .val (.long q4), .second, .val (.int p5), .val (.int (0 : Int32)), .val (.long y4), .second, .val (.long y5), .second, .val (.long y6), .second, .val (.ref b8), .unset, .unset, .unset, .unset, .unset, .unset, .unset] [])) t
      refine XS.iload X11.here hx rfl (hb hby at_36) rfl ?_
      show Steps p.tables e below (T11.setTop (mkF m 38 #[.val (.int p1), .val (.long q2), .second, .val (.long q3), .second, .val (.long q4), .second, .val (.int p5), .val (.int (0 : Int32)), .val (.long y4), .second, .val (.long y5), .second, .val (.long y6), .second, .val (.ref b8), .unset, .unset, .unset, .unset, .unset, .unset, .unset] [(.int p5)])) t
      refine XS.iconst X11.here hx rfl (hb hby at_38) ?_
      show Steps p.tables e below (T11.setTop (mkF m 39 #[.val (.int p1), .val (.long q2), .second, .val (.long q3), .second, .val (.long q4), .second, .val (.int p5), .val (.int (0 : Int32)), .val (.long y4), .second, .val (.long y5), .second, .val (.long y6), .second, .val (.ref b8), .unset, .unset, .unset, .unset, .unset, .unset, .unset] [(.int (1 : Int32)), (.int p5)])) t
      refine XS.iand X11.here hx rfl (hb hby at_39) rfl ?_
      exact k)
    obtain ⟨T16, L16, h16, u__16, X16, e16, N16, Z16, K16, G0_16, G1_16, G2_16, G3_16, G4_16, P16⟩ : ∃ (T16 : State) (L16 : List Loc) (h16 : Heap) (u__16 : Int64), Stand p l e room_1 s m #[(.int p1), (.long q2), (.long q3), (.long q4), (.int p5)] below meth c T16 L16 1 8 ∧ T16.heap = h16 ∧ Fr n0 L16 ∧ n0 ≤ h16.size ∧ Keep T11.heap h16 [b8] ∧ (Fld Z h16 b8 "com/example/usher/usher/server/Traffic" "sent" "J" (.long u__16)) ∧ (Fld Z h16 b8 "com/example/usher/usher/server/Traffic" "answered" "J" (.long (0 : Int64))) ∧ (Fld Z h16 b8 "com/example/usher/usher/server/Traffic" "latencyMin" "J" (.long (9223372036854775807 : Int64))) ∧ (Fld Z h16 b8 "com/example/usher/usher/server/Traffic" "latencyMax" "J" (.long (0 : Int64))) ∧ (Fld Z h16 b8 "com/example/usher/usher/server/Traffic" "latencyTotal" "J" (.long (0 : Int64))) ∧ Rch p e below (s₁.setTop (entryFrame m #[(.int p1), (.long q2), (.long q3), (.long q4), (.int p5)] maxLocals)) (T16.setTop (mkF m 48 #[.val (.int p1), .val (.long q2), .second, .val (.long q3), .second, .val (.long q4), .second, .val (.int p5), .val (.int (0 : Int32)), .val (.long y4), .second, .val (.long y5), .second, .val (.long y6), .second, .val (.ref b8), .unset, .unset, .unset, .unset, .unset, .unset, .unset] [])) := by
      by_cases c17 : x14 = (0 : Int32)
      · have P18 : Rch p e below (s₁.setTop (entryFrame m #[(.int p1), (.long q2), (.long q3), (.long q4), (.int p5)] maxLocals)) (T11.setTop (mkF m 48 #[.val (.int p1), .val (.long q2), .second, .val (.long q3), .second, .val (.long q4), .second, .val (.int p5), .val (.int (0 : Int32)), .val (.long y4), .second, .val (.long y5), .second, .val (.long y6), .second, .val (.ref b8), .unset, .unset, .unset, .unset, .unset, .unset, .unset] [])) := fun t k => P15 t (by
          show Steps p.tables e below (T11.setTop (mkF m 40 #[.val (.int p1), .val (.long q2), .second, .val (.long q3), .second, .val (.long q4), .second, .val (.int p5), .val (.int (0 : Int32)), .val (.long y4), .second, .val (.long y5), .second, .val (.long y6), .second, .val (.ref b8), .unset, .unset, .unset, .unset, .unset, .unset, .unset] [(.int x14)])) t
          refine XS.ifYes X11.here hx rfl (pc0 := 40) (pc' := 48) rfl (hb hby at_40) rfl ((if0 _ _).trans (teq c17).1) (by decide) (by decide) ?_
          exact k)
        have f19 : n0 ≤ T11.heap.size := (Nat.le_trans f12 K11.1)
        exact ⟨T11, _, T11.heap, (0 : Int64), X11, rfl, N11, f19, (Keep.refl T11.heap [b8]), G0_11, G1_11, G2_11, G3_11, G4_11, P18⟩
      · have P20 : Rch p e below (s₁.setTop (entryFrame m #[(.int p1), (.long q2), (.long q3), (.long q4), (.int p5)] maxLocals)) (T11.setTop (mkF m 45 #[.val (.int p1), .val (.long q2), .second, .val (.long q3), .second, .val (.long q4), .second, .val (.int p5), .val (.int (0 : Int32)), .val (.long y4), .second, .val (.long y5), .second, .val (.long y6), .second, .val (.ref b8), .unset, .unset, .unset, .unset, .unset, .unset, .unset] [(.ref b8)])) := fun t k => P15 t (by
          show Steps p.tables e below (T11.setTop (mkF m 40 #[.val (.int p1), .val (.long q2), .second, .val (.long q3), .second, .val (.long q4), .second, .val (.int p5), .val (.int (0 : Int32)), .val (.long y4), .second, .val (.long y5), .second, .val (.long y6), .second, .val (.ref b8), .unset, .unset, .unset, .unset, .unset, .unset, .unset] [(.int x14)])) t
          refine XS.ifNo X11.here hx rfl (hb hby at_40) rfl ((if0 _ _).trans (feq c17).1) ?_
          show Steps p.tables e below (T11.setTop (mkF m 43 #[.val (.int p1), .val (.long q2), .second, .val (.long q3), .second, .val (.long q4), .second, .val (.int p5), .val (.int (0 : Int32)), .val (.long y4), .second, .val (.long y5), .second, .val (.long y6), .second, .val (.ref b8), .unset, .unset, .unset, .unset, .unset, .unset, .unset] [])) t
          refine XS.aload X11.here hx rfl (hb hby at_43) rfl rfl ?_
          exact k)
        have f22 : n0 ≤ T11.heap.size := (Nat.le_trans f12 K11.1)
        obtain ⟨cq21, kq21, q21a, q21b, q21c⟩ := isOf hZ rfl E_11
        obtain ⟨_, _, ⟨T21, L21, k21, n21⟩, -, X21, ⟨Lc21, hQ21, l21, y21, z21⟩, st21⟩ := X11.virtualBack hx (y := (⟨"com/example/usher/usher/server/Traffic", "notificationSent", "()V"⟩ : MethodName)) (z := (⟨"com/example/usher/usher/server/Traffic", "notificationSent", "()V"⟩ : MethodName)) hown (mvT hZ (hw _ (List.mem_of_getElem? (i := 13) rfl))) (mvT hZ (hw _ (List.mem_of_getElem? (i := 14) rfl))) (notFace_of_selects (args := #[]) (mvT hZ (hw _ (List.mem_of_getElem? (i := 16) rfl)))) (mvT hZ (hw _ (List.mem_of_getElem? (i := 16) rfl))) (mvT hZ (hw _ (List.mem_of_getElem? (i := 15) rfl))) (by decide) (backOf (W := 0) (rmN l Z a0 hw [] b8 (0 : Int64) (0 : Int64) (9223372036854775807 : Int64) (0 : Int64) (0 : Int64) T11.heap n0 f22 E_11 g_b8 G0_11 G1_11 G2_11 G3_11 G4_11) hZ (hw _ (List.mem_of_getElem? (i := 17) rfl)) (hw _ (List.mem_of_getElem? (i := 3) rfl)) (by decide) (by decide)) q21a q21c (g := (mkF m 45 #[.val (.int p1), .val (.long q2), .second, .val (.long q3), .second, .val (.long q4), .second, .val (.int p5), .val (.int (0 : Int32)), .val (.long y4), .second, .val (.long y5), .second, .val (.long y6), .second, .val (.ref b8), .unset, .unset, .unset, .unset, .unset, .unset, .unset] [(.ref b8)])) rfl (by rw [hml]; rfl) (Steps.refl _) (argsL := []) (rest := []) (lenOf pd_1 rfl) rfl (by show 2 * 0 + _ ≤ _; exact Nat.le_of_eq rfl) (hb hby at_45) (fun _ _ => ⟨rfl, rfl, (by decide : 1 + 0 ≤ _), (by decide : 8 + 0 ≤ _)⟩)
        dsimp only [Pt.U, Pt.locs, Pt.cells, Pt.slots] at X21 l21 y21 z21 st21 hQ21
        subst l21 y21 z21
        obtain ⟨rfl, N21q, K21, E_21, G0_21, G1_21, G2_21, G3_21, G4_21⟩ := hQ21
        have N21 := Fr.app N11 N21q
        have P23 : Rch p e below (s₁.setTop (entryFrame m #[(.int p1), (.long q2), (.long q3), (.long q4), (.int p5)] maxLocals)) (T21.setTop (mkF m 48 #[.val (.int p1), .val (.long q2), .second, .val (.long q3), .second, .val (.long q4), .second, .val (.int p5), .val (.int (0 : Int32)), .val (.long y4), .second, .val (.long y5), .second, .val (.long y6), .second, .val (.ref b8), .unset, .unset, .unset, .unset, .unset, .unset, .unset] [])) := fun t k => P20 t (st21.trans k)
        have f24 : n0 ≤ T21.heap.size := (Nat.le_trans f22 K21.1)
        exact ⟨T21, _, T21.heap, ((0 : Int64) + (1 : Int64)), X21, rfl, N21, f24, ((Keep.refl T11.heap [b8]).trans K21 (allS (P := fun x => x ∈ ([b8] : List Addr) ∨ T11.heap.size ≤ x) (Or.inl (List.mem_of_getElem? (i := 0) rfl)) all0)), G0_21, G1_21, G2_21, G3_21, G4_21, P23⟩
    obtain ⟨x25, hx25⟩ : ∃ z : Int32, z = (p5 &&& (2 : Int32)) := ⟨_, rfl⟩
    have P26 : Rch p e below (s₁.setTop (entryFrame m #[(.int p1), (.long q2), (.long q3), (.long q4), (.int p5)] maxLocals)) (T16.setTop (mkF m 78 #[.val (.int p1), .val (.long q2), .second, .val (.long q3), .second, .val (.long q4), .second, .val (.int p5), .val (.int (0 : Int32)), .val (.long y4), .second, .val (.long y5), .second, .val (.long y6), .second, .val (.ref b8), .unset, .unset, .unset, .unset, .unset, .unset, .unset] [(.int x25)])) := fun t k => P16 t (by
      subst hx25
      show Steps p.tables e below (T16.setTop (mkF m 48 #[.val (.int p1), .val (.long q2), .second, .val (.long q3), .second, .val (.long q4), .second, .val (.int p5), .val (.int (0 : Int32)), .val (.long y4), .second, .val (.long y5), .second, .val (.long y6), .second, .val (.ref b8), .unset, .unset, .unset, .unset, .unset, .unset, .unset] [])) t
      refine XS.iload X16.here hx rfl (hb hby at_48) rfl ?_
      show Steps p.tables e below (T16.setTop (mkF m 50 #[.val (.int p1), .val (.long q2), .second, .val (.long q3), .second, .val (.long q4), .second, .val (.int p5), .val (.int (0 : Int32)), .val (.long y4), .second, .val (.long y5), .second, .val (.long y6), .second, .val (.ref b8), .unset, .unset, .unset, .unset, .unset, .unset, .unset] [(.int (0 : Int32))])) t
      refine XS.iconst X16.here hx rfl (hb hby at_50) ?_
      show Steps p.tables e below (T16.setTop (mkF m 51 #[.val (.int p1), .val (.long q2), .second, .val (.long q3), .second, .val (.long q4), .second, .val (.int p5), .val (.int (0 : Int32)), .val (.long y4), .second, .val (.long y5), .second, .val (.long y6), .second, .val (.ref b8), .unset, .unset, .unset, .unset, .unset, .unset, .unset] [(.int (1 : Int32)), (.int (0 : Int32))])) t
      refine XS.icmpYes X16.here hx rfl (pc0 := 51) (pc' := 61) rfl (hb hby at_51) rfl (tlt (by decide)).1 (by decide) (by decide) ?_
      show Steps p.tables e below (T16.setTop (mkF m 61 #[.val (.int p1), .val (.long q2), .second, .val (.long q3), .second, .val (.long q4), .second, .val (.int p5), .val (.int (0 : Int32)), .val (.long y4), .second, .val (.long y5), .second, .val (.long y6), .second, .val (.ref b8), .unset, .unset, .unset, .unset, .unset, .unset, .unset] [])) t
      refine XS.iload X16.here hx rfl (hb hby at_61) rfl ?_
      show Steps p.tables e below (T16.setTop (mkF m 63 #[.val (.int p1), .val (.long q2), .second, .val (.long q3), .second, .val (.long q4), .second, .val (.int p5), .val (.int (0 : Int32)), .val (.long y4), .second, .val (.long y5), .second, .val (.long y6), .second, .val (.ref b8), .unset, .unset, .unset, .unset, .unset, .unset, .unset] [(.int (0 : Int32))])) t
      refine XS.iconst X16.here hx rfl (hb hby at_63) ?_
      show Steps p.tables e below (T16.setTop (mkF m 64 #[.val (.int p1), .val (.long q2), .second, .val (.long q3), .second, .val (.long q4), .second, .val (.int p5), .val (.int (0 : Int32)), .val (.long y4), .second, .val (.long y5), .second, .val (.long y6), .second, .val (.ref b8), .unset, .unset, .unset, .unset, .unset, .unset, .unset] [(.int (2 : Int32)), (.int (0 : Int32))])) t
      refine XS.icmpYes X16.here hx rfl (pc0 := 64) (pc' := 74) rfl (hb hby at_64) rfl (tlt (by decide)).1 (by decide) (by decide) ?_
      show Steps p.tables e below (T16.setTop (mkF m 74 #[.val (.int p1), .val (.long q2), .second, .val (.long q3), .second, .val (.long q4), .second, .val (.int p5), .val (.int (0 : Int32)), .val (.long y4), .second, .val (.long y5), .second, .val (.long y6), .second, .val (.ref b8), .unset, .unset, .unset, .unset, .unset, .unset, .unset] [])) t
      refine XS.iload X16.here hx rfl (hb hby at_74) rfl ?_
      show Steps p.tables e below (T16.setTop (mkF m 76 #[.val (.int p1), .val (.long q2), .second, .val (.long q3), .second, .val (.long q4), .second, .val (.int p5), .val (.int (0 : Int32)), .val (.long y4), .second, .val (.long y5), .second, .val (.long y6), .second, .val (.ref b8), .unset, .unset, .unset, .unset, .unset, .unset, .unset] [(.int p5)])) t
      refine XS.iconst X16.here hx rfl (hb hby at_76) ?_
      show Steps p.tables e below (T16.setTop (mkF m 77 #[.val (.int p1), .val (.long q2), .second, .val (.long q3), .second, .val (.long q4), .second, .val (.int p5), .val (.int (0 : Int32)), .val (.long y4), .second, .val (.long y5), .second, .val (.long y6), .second, .val (.ref b8), .unset, .unset, .unset, .unset, .unset, .unset, .unset] [(.int (2 : Int32)), (.int p5)])) t
      refine XS.iand X16.here hx rfl (hb hby at_77) rfl ?_
      exact k)
    obtain ⟨T27, L27, h27, u__27, X27, e27, N27, Z27, K27, G0_27, G1_27, G2_27, G3_27, G4_27, P27⟩ : ∃ (T27 : State) (L27 : List Loc) (h27 : Heap) (u__27 : Int64), Stand p l e room_1 s m #[(.int p1), (.long q2), (.long q3), (.long q4), (.int p5)] below meth c T27 L27 1 8 ∧ T27.heap = h27 ∧ Fr n0 L27 ∧ n0 ≤ h27.size ∧ Keep h16 h27 [b8] ∧ (Fld Z h27 b8 "com/example/usher/usher/server/Traffic" "sent" "J" (.long u__27)) ∧ (Fld Z h27 b8 "com/example/usher/usher/server/Traffic" "answered" "J" (.long (0 : Int64))) ∧ (Fld Z h27 b8 "com/example/usher/usher/server/Traffic" "latencyMin" "J" (.long (9223372036854775807 : Int64))) ∧ (Fld Z h27 b8 "com/example/usher/usher/server/Traffic" "latencyMax" "J" (.long (0 : Int64))) ∧ (Fld Z h27 b8 "com/example/usher/usher/server/Traffic" "latencyTotal" "J" (.long (0 : Int64))) ∧ Rch p e below (s₁.setTop (entryFrame m #[(.int p1), (.long q2), (.long q3), (.long q4), (.int p5)] maxLocals)) (T27.setTop (mkF m 86 #[.val (.int p1), .val (.long q2), .second, .val (.long q3), .second, .val (.long q4), .second, .val (.int p5), .val (.int (0 : Int32)), .val (.long y4), .second, .val (.long y5), .second, .val (.long y6), .second, .val (.ref b8), .unset, .unset, .unset, .unset, .unset, .unset, .unset] [])) := by
      by_cases c28 : x25 = (0 : Int32)
      · have P29 : Rch p e below (s₁.setTop (entryFrame m #[(.int p1), (.long q2), (.long q3), (.long q4), (.int p5)] maxLocals)) (T16.setTop (mkF m 86 #[.val (.int p1), .val (.long q2), .second, .val (.long q3), .second, .val (.long q4), .second, .val (.int p5), .val (.int (0 : Int32)), .val (.long y4), .second, .val (.long y5), .second, .val (.long y6), .second, .val (.ref b8), .unset, .unset, .unset, .unset, .unset, .unset, .unset] [])) := fun t k => P26 t (by
          show Steps p.tables e below (T16.setTop (mkF m 78 #[.val (.int p1), .val (.long q2), .second, .val (.long q3), .second, .val (.long q4), .second, .val (.int p5), .val (.int (0 : Int32)), .val (.long y4), .second, .val (.long y5), .second, .val (.long y6), .second, .val (.ref b8), .unset, .unset, .unset, .unset, .unset, .unset, .unset] [(.int x25)])) t
          refine XS.ifYes X16.here hx rfl (pc0 := 78) (pc' := 86) rfl (hb hby at_78) rfl ((if0 _ _).trans (teq c28).1) (by decide) (by decide) ?_
          exact k)
        exact ⟨T16, _, h16, u__16, X16, e16, N16, Z16, (Keep.refl h16 [b8]), G0_16, G1_16, G2_16, G3_16, G4_16, P29⟩
      · have P30 : Rch p e below (s₁.setTop (entryFrame m #[(.int p1), (.long q2), (.long q3), (.long q4), (.int p5)] maxLocals)) (T16.setTop (mkF m 83 #[.val (.int p1), .val (.long q2), .second, .val (.long q3), .second, .val (.long q4), .second, .val (.int p5), .val (.int (0 : Int32)), .val (.long y4), .second, .val (.long y5), .second, .val (.long y6), .second, .val (.ref b8), .unset, .unset, .unset, .unset, .unset, .unset, .unset] [(.ref b8)])) := fun t k => P26 t (by
          show Steps p.tables e below (T16.setTop (mkF m 78 #[.val (.int p1), .val (.long q2), .second, .val (.long q3), .second, .val (.long q4), .second, .val (.int p5), .val (.int (0 : Int32)), .val (.long y4), .second, .val (.long y5), .second, .val (.long y6), .second, .val (.ref b8), .unset, .unset, .unset, .unset, .unset, .unset, .unset] [(.int x25)])) t
          refine XS.ifNo X16.here hx rfl (hb hby at_78) rfl ((if0 _ _).trans (feq c28).1) ?_
          show Steps p.tables e below (T16.setTop (mkF m 81 #[.val (.int p1), .val (.long q2), .second, .val (.long q3), .second, .val (.long q4), .second, .val (.int p5), .val (.int (0 : Int32)), .val (.long y4), .second, .val (.long y5), .second, .val (.long y6), .second, .val (.ref b8), .unset, .unset, .unset, .unset, .unset, .unset, .unset] [])) t
          refine XS.aload X16.here hx rfl (hb hby at_81) rfl rfl ?_
          exact k)
        obtain ⟨cq31, kq31, q31a, q31b, q31c⟩ := isOf hZ e16 (E_11.keep K16)
        obtain ⟨_, _, ⟨T31, L31, k31, n31⟩, -, X31, ⟨Lc31, hQ31, l31, y31, z31⟩, st31⟩ := X16.virtualBack hx (y := (⟨"com/example/usher/usher/server/Traffic", "notificationSent", "()V"⟩ : MethodName)) (z := (⟨"com/example/usher/usher/server/Traffic", "notificationSent", "()V"⟩ : MethodName)) hown (mvT hZ (hw _ (List.mem_of_getElem? (i := 13) rfl))) (mvT hZ (hw _ (List.mem_of_getElem? (i := 14) rfl))) (notFace_of_selects (args := #[]) (mvT hZ (hw _ (List.mem_of_getElem? (i := 16) rfl)))) (mvT hZ (hw _ (List.mem_of_getElem? (i := 16) rfl))) (mvT hZ (hw _ (List.mem_of_getElem? (i := 15) rfl))) (by decide) (backOf (W := 0) (rmN l Z a0 hw [] b8 u__16 (0 : Int64) (9223372036854775807 : Int64) (0 : Int64) (0 : Int64) h16 n0 Z16 (E_11.keep K16) g_b8 G0_16 G1_16 G2_16 G3_16 G4_16) hZ (hw _ (List.mem_of_getElem? (i := 17) rfl)) (hw _ (List.mem_of_getElem? (i := 3) rfl)) (by decide) (by decide)) q31a q31c (g := (mkF m 83 #[.val (.int p1), .val (.long q2), .second, .val (.long q3), .second, .val (.long q4), .second, .val (.int p5), .val (.int (0 : Int32)), .val (.long y4), .second, .val (.long y5), .second, .val (.long y6), .second, .val (.ref b8), .unset, .unset, .unset, .unset, .unset, .unset, .unset] [(.ref b8)])) rfl (by rw [hml]; rfl) (Steps.refl _) (argsL := []) (rest := []) (lenOf pd_1 rfl) rfl (by show 2 * 0 + _ ≤ _; exact Nat.le_of_eq rfl) (hb hby at_83) (fun _ _ => ⟨rfl, e16, (by decide : 1 + 0 ≤ _), (by decide : 8 + 0 ≤ _)⟩)
        dsimp only [Pt.U, Pt.locs, Pt.cells, Pt.slots] at X31 l31 y31 z31 st31 hQ31
        subst l31 y31 z31
        obtain ⟨rfl, N31q, K31, E_31, G0_31, G1_31, G2_31, G3_31, G4_31⟩ := hQ31
        have N31 := Fr.app N16 N31q
        have P32 : Rch p e below (s₁.setTop (entryFrame m #[(.int p1), (.long q2), (.long q3), (.long q4), (.int p5)] maxLocals)) (T31.setTop (mkF m 86 #[.val (.int p1), .val (.long q2), .second, .val (.long q3), .second, .val (.long q4), .second, .val (.int p5), .val (.int (0 : Int32)), .val (.long y4), .second, .val (.long y5), .second, .val (.long y6), .second, .val (.ref b8), .unset, .unset, .unset, .unset, .unset, .unset, .unset] [])) := fun t k => P30 t (st31.trans k)
        have f33 : n0 ≤ T31.heap.size := (Nat.le_trans Z16 K31.1)
        exact ⟨T31, _, T31.heap, (u__16 + (1 : Int64)), X31, rfl, N31, f33, ((Keep.refl h16 [b8]).trans K31 (allS (P := fun x => x ∈ ([b8] : List Addr) ∨ h16.size ≤ x) (Or.inl (List.mem_of_getElem? (i := 0) rfl)) all0)), G0_31, G1_31, G2_31, G3_31, G4_31, P32⟩
    have P34 : Rch p e below (s₁.setTop (entryFrame m #[(.int p1), (.long q2), (.long q3), (.long q4), (.int p5)] maxLocals)) (T27.setTop (mkF m 101 #[.val (.int p1), .val (.long q2), .second, .val (.long q3), .second, .val (.long q4), .second, .val (.int p5), .val (.int (0 : Int32)), .val (.long y4), .second, .val (.long y5), .second, .val (.long y6), .second, .val (.ref b8), .unset, .unset, .unset, .unset, .unset, .unset, .unset] [(.ref b8)])) := fun t k => P27 t (by
      show Steps p.tables e below (T27.setTop (mkF m 86 #[.val (.int p1), .val (.long q2), .second, .val (.long q3), .second, .val (.long q4), .second, .val (.int p5), .val (.int (0 : Int32)), .val (.long y4), .second, .val (.long y5), .second, .val (.long y6), .second, .val (.ref b8), .unset, .unset, .unset, .unset, .unset, .unset, .unset] [])) t
      refine XS.iload X27.here hx rfl (hb hby at_86) rfl ?_
      show Steps p.tables e below (T27.setTop (mkF m 88 #[.val (.int p1), .val (.long q2), .second, .val (.long q3), .second, .val (.long q4), .second, .val (.int p5), .val (.int (0 : Int32)), .val (.long y4), .second, .val (.long y5), .second, .val (.long y6), .second, .val (.ref b8), .unset, .unset, .unset, .unset, .unset, .unset, .unset] [(.int (0 : Int32))])) t
      refine XS.iconst X27.here hx rfl (hb hby at_88) ?_
      show Steps p.tables e below (T27.setTop (mkF m 89 #[.val (.int p1), .val (.long q2), .second, .val (.long q3), .second, .val (.long q4), .second, .val (.int p5), .val (.int (0 : Int32)), .val (.long y4), .second, .val (.long y5), .second, .val (.long y6), .second, .val (.ref b8), .unset, .unset, .unset, .unset, .unset, .unset, .unset] [(.int (3 : Int32)), (.int (0 : Int32))])) t
      refine XS.icmpYes X27.here hx rfl (pc0 := 89) (pc' := 99) rfl (hb hby at_89) rfl (tlt (by decide)).1 (by decide) (by decide) ?_
      show Steps p.tables e below (T27.setTop (mkF m 99 #[.val (.int p1), .val (.long q2), .second, .val (.long q3), .second, .val (.long q4), .second, .val (.int p5), .val (.int (0 : Int32)), .val (.long y4), .second, .val (.long y5), .second, .val (.long y6), .second, .val (.ref b8), .unset, .unset, .unset, .unset, .unset, .unset, .unset] [])) t
      refine XS.aload X27.here hx rfl (hb hby at_99) rfl rfl ?_
      exact k)
    obtain ⟨cq35, kq35, q35a, q35b, q35c⟩ := isOf hZ e27 ((E_11.keep K16).keep K27)
    obtain ⟨_, _, ⟨T35, L35, k35, n35⟩, -, X35, ⟨Lc35, hQ35, l35, y35, z35⟩, st35⟩ := X27.virtualBack hx (y := (⟨"com/example/usher/usher/server/Traffic", "latencyMillis", "()[J"⟩ : MethodName)) (z := (⟨"com/example/usher/usher/server/Traffic", "latencyMillis", "()[J"⟩ : MethodName)) hown (mvT hZ (hw _ (List.mem_of_getElem? (i := 20) rfl))) (mvT hZ (hw _ (List.mem_of_getElem? (i := 21) rfl))) (notFace_of_selects (args := #[]) (mvT hZ (hw _ (List.mem_of_getElem? (i := 23) rfl)))) (mvT hZ (hw _ (List.mem_of_getElem? (i := 23) rfl))) (mvT hZ (hw _ (List.mem_of_getElem? (i := 22) rfl))) (by decide) (backOf (W := 0) (rmL0 l Z a0 hw [] b8 (0 : Int64) (9223372036854775807 : Int64) (0 : Int64) (0 : Int64) h27 n0 Z27 G1_27 G2_27 G3_27 G4_27 (by decide)) hZ (hw _ (List.mem_of_getElem? (i := 24) rfl)) (hw _ (List.mem_of_getElem? (i := 3) rfl)) (by decide) (by decide)) q35a q35c (g := (mkF m 101 #[.val (.int p1), .val (.long q2), .second, .val (.long q3), .second, .val (.long q4), .second, .val (.int p5), .val (.int (0 : Int32)), .val (.long y4), .second, .val (.long y5), .second, .val (.long y6), .second, .val (.ref b8), .unset, .unset, .unset, .unset, .unset, .unset, .unset] [(.ref b8)])) rfl (by rw [hml]; rfl) (Steps.refl _) (argsL := []) (rest := []) (lenOf pd_2 rfl) rfl (by show 2 * 0 + _ ≤ _; exact Nat.le_of_eq rfl) (hb hby at_101) (fun _ _ => ⟨rfl, e27, (by decide : 1 + 1 ≤ _), (by decide : 8 + 3 ≤ _)⟩)
    dsimp only [Pt.U, Pt.locs, Pt.cells, Pt.slots] at X35 l35 y35 z35 st35 hQ35
    subst l35 y35 z35
    have f36 : Keep h0 h27 [] := (((((Keep.refl h0 []).ext E8).trans K11 (allS (P := fun x => x ∈ [] ∨ h0.size ≤ x) (Or.inr sz_b8) all0)).trans K16 (allS (P := fun x => x ∈ [] ∨ h0.size ≤ x) (Or.inr sz_b8) all0)).trans K27 (allS (P := fun x => x ∈ [] ∨ h0.size ≤ x) (Or.inr sz_b8) all0))
    obtain ⟨b__35, kb__35, rfl, N35q, K35, Fz_35, V_35⟩ := hQ35
    have N35 := Fr.app N27 N35q
    have g_b__35 : n0 ≤ b__35 := Nat.le_trans Z27 Fz_35
    have sz_b__35 : h0.size ≤ b__35 := Nat.le_trans f36.1 Fz_35
    have ne_b8_b__35 : b8 ≠ b__35 := Nat.ne_of_lt (Nat.lt_of_lt_of_le (((A8.keep K11).keep K16).keep K27).lt Fz_35)
    have P37 : Rch p e below (s₁.setTop (entryFrame m #[(.int p1), (.long q2), (.long q3), (.long q4), (.int p5)] maxLocals)) (T35.setTop (mkF m 104 #[.val (.int p1), .val (.long q2), .second, .val (.long q3), .second, .val (.long q4), .second, .val (.int p5), .val (.int (0 : Int32)), .val (.long y4), .second, .val (.long y5), .second, .val (.long y6), .second, .val (.ref b8), .unset, .unset, .unset, .unset, .unset, .unset, .unset] [(.ref b__35)])) := fun t k => P34 t (st35.trans k)
    have P38 : Rch p e below (s₁.setTop (entryFrame m #[(.int p1), (.long q2), (.long q3), (.long q4), (.int p5)] maxLocals)) (T35.setTop (mkF m 113 #[.val (.int p1), .val (.long q2), .second, .val (.long q3), .second, .val (.long q4), .second, .val (.int p5), .val (.int (0 : Int32)), .val (.long y4), .second, .val (.long y5), .second, .val (.long y6), .second, .val (.ref b8), .val (.ref b__35), .unset, .unset, .unset, .unset, .unset, .unset] [(.ref b__35)])) := fun t k => P37 t (by
      show Steps p.tables e below (T35.setTop (mkF m 104 #[.val (.int p1), .val (.long q2), .second, .val (.long q3), .second, .val (.long q4), .second, .val (.int p5), .val (.int (0 : Int32)), .val (.long y4), .second, .val (.long y5), .second, .val (.long y6), .second, .val (.ref b8), .unset, .unset, .unset, .unset, .unset, .unset, .unset] [(.ref b__35)])) t
      refine XS.astore X35.here hx rfl (hb hby at_104) rfl rfl (l' := #[.val (.int p1), .val (.long q2), .second, .val (.long q3), .second, .val (.long q4), .second, .val (.int p5), .val (.int (0 : Int32)), .val (.long y4), .second, .val (.long y5), .second, .val (.long y6), .second, .val (.ref b8), .val (.ref b__35), .unset, .unset, .unset, .unset, .unset, .unset]) rfl ?_
      show Steps p.tables e below (T35.setTop (mkF m 106 #[.val (.int p1), .val (.long q2), .second, .val (.long q3), .second, .val (.long q4), .second, .val (.int p5), .val (.int (0 : Int32)), .val (.long y4), .second, .val (.long y5), .second, .val (.long y6), .second, .val (.ref b8), .val (.ref b__35), .unset, .unset, .unset, .unset, .unset, .unset] [])) t
      refine XS.aload X35.here hx rfl (hb hby at_106) rfl rfl ?_
      show Steps p.tables e below (T35.setTop (mkF m 108 #[.val (.int p1), .val (.long q2), .second, .val (.long q3), .second, .val (.long q4), .second, .val (.int p5), .val (.int (0 : Int32)), .val (.long y4), .second, .val (.long y5), .second, .val (.long y6), .second, .val (.ref b8), .val (.ref b__35), .unset, .unset, .unset, .unset, .unset, .unset] [(.ref b__35)])) t
      refine XS.ifnullNo X35.here hx rfl (hb hby at_108) rfl ?_
      show Steps p.tables e below (T35.setTop (mkF m 111 #[.val (.int p1), .val (.long q2), .second, .val (.long q3), .second, .val (.long q4), .second, .val (.int p5), .val (.int (0 : Int32)), .val (.long y4), .second, .val (.long y5), .second, .val (.long y6), .second, .val (.ref b8), .val (.ref b__35), .unset, .unset, .unset, .unset, .unset, .unset] [])) t
      refine XS.aload X35.here hx rfl (hb hby at_111) rfl rfl ?_
      exact k)
    have V_o39 := V_35
    obtain ⟨co39, Aro39, qo39, So39, Mo39, Ho39, Go39⟩ := V_o39
    have P40 : Rch p e below (s₁.setTop (entryFrame m #[(.int p1), (.long q2), (.long q3), (.long q4), (.int p5)] maxLocals)) (T35.setTop (mkF m 114 #[.val (.int p1), .val (.long q2), .second, .val (.long q3), .second, .val (.long q4), .second, .val (.int p5), .val (.int (0 : Int32)), .val (.long y4), .second, .val (.long y5), .second, .val (.long y6), .second, .val (.ref b8), .val (.ref b__35), .unset, .unset, .unset, .unset, .unset, .unset] [(.int (3 : Int32))])) := fun t k => P38 t (by
      refine X35.arraylength hx Aro39.1 (State.isArrayOf_alike hZ.alike Aro39.2.1) (g := (mkF m 113 #[.val (.int p1), .val (.long q2), .second, .val (.long q3), .second, .val (.long q4), .second, .val (.int p5), .val (.int (0 : Int32)), .val (.long y4), .second, .val (.long y5), .second, .val (.long y6), .second, .val (.ref b8), .val (.ref b__35), .unset, .unset, .unset, .unset, .unset, .unset] [(.ref b__35)])) rfl rfl (hb hby at_113) _ ?_
      rw [len_of So39 Mo39]; exact k)
    have P41 : Rch p e below (s₁.setTop (entryFrame m #[(.int p1), (.long q2), (.long q3), (.long q4), (.int p5)] maxLocals)) (T35.setTop (mkF m 277 #[.val (.int p1), .val (.long q2), .second, .val (.long q3), .second, .val (.long q4), .second, .val (.int p5), .val (.int (0 : Int32)), .val (.long y4), .second, .val (.long y5), .second, .val (.long y6), .second, .val (.ref b8), .val (.ref b__35), .val (.long (0 : Int64)), .second, .val (.long (0 : Int64)), .second, .val (.long (0 : Int64)), .second] [(.int (0 : Int32)), (.ref b__35)])) := fun t k => P40 t (by
      show Steps p.tables e below (T35.setTop (mkF m 114 #[.val (.int p1), .val (.long q2), .second, .val (.long q3), .second, .val (.long q4), .second, .val (.int p5), .val (.int (0 : Int32)), .val (.long y4), .second, .val (.long y5), .second, .val (.long y6), .second, .val (.ref b8), .val (.ref b__35), .unset, .unset, .unset, .unset, .unset, .unset] [(.int (3 : Int32))])) t
      refine XS.iconst X35.here hx rfl (hb hby at_114) ?_
      show Steps p.tables e below (T35.setTop (mkF m 115 #[.val (.int p1), .val (.long q2), .second, .val (.long q3), .second, .val (.long q4), .second, .val (.int p5), .val (.int (0 : Int32)), .val (.long y4), .second, .val (.long y5), .second, .val (.long y6), .second, .val (.ref b8), .val (.ref b__35), .unset, .unset, .unset, .unset, .unset, .unset] [(.int (3 : Int32)), (.int (3 : Int32))])) t
      refine XS.icmpYes X35.here hx rfl (pc0 := 115) (pc' := 120) rfl (hb hby at_115) rfl (teq (by decide)).1 (by decide) (by decide) ?_
      show Steps p.tables e below (T35.setTop (mkF m 120 #[.val (.int p1), .val (.long q2), .second, .val (.long q3), .second, .val (.long q4), .second, .val (.int p5), .val (.int (0 : Int32)), .val (.long y4), .second, .val (.long y5), .second, .val (.long y6), .second, .val (.ref b8), .val (.ref b__35), .unset, .unset, .unset, .unset, .unset, .unset] [])) t
      refine XS.iload X35.here hx rfl (hb hby at_120) rfl ?_
      show Steps p.tables e below (T35.setTop (mkF m 122 #[.val (.int p1), .val (.long q2), .second, .val (.long q3), .second, .val (.long q4), .second, .val (.int p5), .val (.int (0 : Int32)), .val (.long y4), .second, .val (.long y5), .second, .val (.long y6), .second, .val (.ref b8), .val (.ref b__35), .unset, .unset, .unset, .unset, .unset, .unset] [(.int (0 : Int32))])) t
      refine XS.ifNo X35.here hx rfl (hb hby at_122) rfl ((if0 _ _).trans (teq (by decide)).2) ?_
      show Steps p.tables e below (T35.setTop (mkF m 125 #[.val (.int p1), .val (.long q2), .second, .val (.long q3), .second, .val (.long q4), .second, .val (.int p5), .val (.int (0 : Int32)), .val (.long y4), .second, .val (.long y5), .second, .val (.long y6), .second, .val (.ref b8), .val (.ref b__35), .unset, .unset, .unset, .unset, .unset, .unset] [])) t
      refine XS.lconst X35.here hx rfl (hb hby at_125) ?_
      show Steps p.tables e below (T35.setTop (mkF m 126 #[.val (.int p1), .val (.long q2), .second, .val (.long q3), .second, .val (.long q4), .second, .val (.int p5), .val (.int (0 : Int32)), .val (.long y4), .second, .val (.long y5), .second, .val (.long y6), .second, .val (.ref b8), .val (.ref b__35), .unset, .unset, .unset, .unset, .unset, .unset] [(.long (0 : Int64))])) t
      refine XS.lstore X35.here hx rfl (hb hby at_126) rfl (l' := #[.val (.int p1), .val (.long q2), .second, .val (.long q3), .second, .val (.long q4), .second, .val (.int p5), .val (.int (0 : Int32)), .val (.long y4), .second, .val (.long y5), .second, .val (.long y6), .second, .val (.ref b8), .val (.ref b__35), .val (.long (0 : Int64)), .second, .unset, .unset, .unset, .unset]) rfl ?_
      show Steps p.tables e below (T35.setTop (mkF m 128 #[.val (.int p1), .val (.long q2), .second, .val (.long q3), .second, .val (.long q4), .second, .val (.int p5), .val (.int (0 : Int32)), .val (.long y4), .second, .val (.long y5), .second, .val (.long y6), .second, .val (.ref b8), .val (.ref b__35), .val (.long (0 : Int64)), .second, .unset, .unset, .unset, .unset] [])) t
      refine XS.lconst X35.here hx rfl (hb hby at_128) ?_
      show Steps p.tables e below (T35.setTop (mkF m 129 #[.val (.int p1), .val (.long q2), .second, .val (.long q3), .second, .val (.long q4), .second, .val (.int p5), .val (.int (0 : Int32)), .val (.long y4), .second, .val (.long y5), .second, .val (.long y6), .second, .val (.ref b8), .val (.ref b__35), .val (.long (0 : Int64)), .second, .unset, .unset, .unset, .unset] [(.long (0 : Int64))])) t
      refine XS.lstore X35.here hx rfl (hb hby at_129) rfl (l' := #[.val (.int p1), .val (.long q2), .second, .val (.long q3), .second, .val (.long q4), .second, .val (.int p5), .val (.int (0 : Int32)), .val (.long y4), .second, .val (.long y5), .second, .val (.long y6), .second, .val (.ref b8), .val (.ref b__35), .val (.long (0 : Int64)), .second, .val (.long (0 : Int64)), .second, .unset, .unset]) rfl ?_
      show Steps p.tables e below (T35.setTop (mkF m 131 #[.val (.int p1), .val (.long q2), .second, .val (.long q3), .second, .val (.long q4), .second, .val (.int p5), .val (.int (0 : Int32)), .val (.long y4), .second, .val (.long y5), .second, .val (.long y6), .second, .val (.ref b8), .val (.ref b__35), .val (.long (0 : Int64)), .second, .val (.long (0 : Int64)), .second, .unset, .unset] [])) t
      refine XS.lconst X35.here hx rfl (hb hby at_131) ?_
      show Steps p.tables e below (T35.setTop (mkF m 132 #[.val (.int p1), .val (.long q2), .second, .val (.long q3), .second, .val (.long q4), .second, .val (.int p5), .val (.int (0 : Int32)), .val (.long y4), .second, .val (.long y5), .second, .val (.long y6), .second, .val (.ref b8), .val (.ref b__35), .val (.long (0 : Int64)), .second, .val (.long (0 : Int64)), .second, .unset, .unset] [(.long (0 : Int64))])) t
      refine XS.lstore X35.here hx rfl (hb hby at_132) rfl (l' := #[.val (.int p1), .val (.long q2), .second, .val (.long q3), .second, .val (.long q4), .second, .val (.int p5), .val (.int (0 : Int32)), .val (.long y4), .second, .val (.long y5), .second, .val (.long y6), .second, .val (.ref b8), .val (.ref b__35), .val (.long (0 : Int64)), .second, .val (.long (0 : Int64)), .second, .val (.long (0 : Int64)), .second]) rfl ?_
      show Steps p.tables e below (T35.setTop (mkF m 134 #[.val (.int p1), .val (.long q2), .second, .val (.long q3), .second, .val (.long q4), .second, .val (.int p5), .val (.int (0 : Int32)), .val (.long y4), .second, .val (.long y5), .second, .val (.long y6), .second, .val (.ref b8), .val (.ref b__35), .val (.long (0 : Int64)), .second, .val (.long (0 : Int64)), .second, .val (.long (0 : Int64)), .second] [])) t
      refine XS.goto X35.here hx rfl (pc0 := 134) (pc' := 274) rfl (hb hby at_134) (by decide) (by decide) ?_
      show Steps p.tables e below (T35.setTop (mkF m 274 #[.val (.int p1), .val (.long q2), .second, .val (.long q3), .second, .val (.long q4), .second, .val (.int p5), .val (.int (0 : Int32)), .val (.long y4), .second, .val (.long y5), .second, .val (.long y6), .second, .val (.ref b8), .val (.ref b__35), .val (.long (0 : Int64)), .second, .val (.long (0 : Int64)), .second, .val (.long (0 : Int64)), .second] [])) t
      refine XS.aload X35.here hx rfl (hb hby at_274) rfl rfl ?_
      show Steps p.tables e below (T35.setTop (mkF m 276 #[.val (.int p1), .val (.long q2), .second, .val (.long q3), .second, .val (.long q4), .second, .val (.int p5), .val (.int (0 : Int32)), .val (.long y4), .second, .val (.long y5), .second, .val (.long y6), .second, .val (.ref b8), .val (.ref b__35), .val (.long (0 : Int64)), .second, .val (.long (0 : Int64)), .second, .val (.long (0 : Int64)), .second] [(.ref b__35)])) t
      refine XS.iconst X35.here hx rfl (hb hby at_276) ?_
      exact k)
    have V_o42 := V_35
    obtain ⟨co42, Aro42, qo42, So42, Mo42, Ho42, Go42⟩ := V_o42
    have hin43 : ¬ ((0 : Int32) < 0 ∨ co42.slots.size ≤ ((0 : Int32)).toNatClampNeg) := inb_of So42 ⟨by decide, by decide⟩
    have hat43 : co42.slots[((0 : Int32)).toNatClampNeg]? = some (.long (0 : Int64)) := Has.at Ho42 hin43 rfl
    have P44 : Rch p e below (s₁.setTop (entryFrame m #[(.int p1), (.long q2), (.long q3), (.long q4), (.int p5)] maxLocals)) (T35.setTop (mkF m 278 #[.val (.int p1), .val (.long q2), .second, .val (.long q3), .second, .val (.long q4), .second, .val (.int p5), .val (.int (0 : Int32)), .val (.long y4), .second, .val (.long y5), .second, .val (.long y6), .second, .val (.ref b8), .val (.ref b__35), .val (.long (0 : Int64)), .second, .val (.long (0 : Int64)), .second, .val (.long (0 : Int64)), .second] [(.long (0 : Int64))])) := fun t k => P41 t (X35.laload hx (j := (0 : Int32)) (v := (.long (0 : Int64))) Aro42.1 (State.isArrayOf_alike hZ.alike Aro42.2.1) Aro42.2.2 hin43 hat43 (g := (mkF m 277 #[.val (.int p1), .val (.long q2), .second, .val (.long q3), .second, .val (.long q4), .second, .val (.int p5), .val (.int (0 : Int32)), .val (.long y4), .second, .val (.long y5), .second, .val (.long y6), .second, .val (.ref b8), .val (.ref b__35), .val (.long (0 : Int64)), .second, .val (.long (0 : Int64)), .second, .val (.long (0 : Int64)), .second] [(.int (0 : Int32)), (.ref b__35)])) rfl rfl (hb hby at_277) t k)
    have P45 : Rch p e below (s₁.setTop (entryFrame m #[(.int p1), (.long q2), (.long q3), (.long q4), (.int p5)] maxLocals)) (T35.setTop (mkF m 281 #[.val (.int p1), .val (.long q2), .second, .val (.long q3), .second, .val (.long q4), .second, .val (.int p5), .val (.int (0 : Int32)), .val (.long y4), .second, .val (.long y5), .second, .val (.long y6), .second, .val (.ref b8), .val (.ref b__35), .val (.long (0 : Int64)), .second, .val (.long (0 : Int64)), .second, .val (.long (0 : Int64)), .second] [(.int (lcmpW (0 : Int64) (0 : Int64)))])) := fun t k => P44 t (by
      show Steps p.tables e below (T35.setTop (mkF m 278 #[.val (.int p1), .val (.long q2), .second, .val (.long q3), .second, .val (.long q4), .second, .val (.int p5), .val (.int (0 : Int32)), .val (.long y4), .second, .val (.long y5), .second, .val (.long y6), .second, .val (.ref b8), .val (.ref b__35), .val (.long (0 : Int64)), .second, .val (.long (0 : Int64)), .second, .val (.long (0 : Int64)), .second] [(.long (0 : Int64))])) t
      refine XS.lload X35.here hx rfl (hb hby at_278) rfl ?_
      show Steps p.tables e below (T35.setTop (mkF m 280 #[.val (.int p1), .val (.long q2), .second, .val (.long q3), .second, .val (.long q4), .second, .val (.int p5), .val (.int (0 : Int32)), .val (.long y4), .second, .val (.long y5), .second, .val (.long y6), .second, .val (.ref b8), .val (.ref b__35), .val (.long (0 : Int64)), .second, .val (.long (0 : Int64)), .second, .val (.long (0 : Int64)), .second] [(.long (0 : Int64)), (.long (0 : Int64))])) t
      refine XS.lcmp X35.here hx rfl (hb hby at_280) rfl ?_
      exact k)
    have P46 : Rch p e below (s₁.setTop (entryFrame m #[(.int p1), (.long q2), (.long q3), (.long q4), (.int p5)] maxLocals)) (T35.setTop (mkF m 287 #[.val (.int p1), .val (.long q2), .second, .val (.long q3), .second, .val (.long q4), .second, .val (.int p5), .val (.int (0 : Int32)), .val (.long y4), .second, .val (.long y5), .second, .val (.long y6), .second, .val (.ref b8), .val (.ref b__35), .val (.long (0 : Int64)), .second, .val (.long (0 : Int64)), .second, .val (.long (0 : Int64)), .second] [(.int (1 : Int32)), (.ref b__35)])) := fun t k => P45 t (by
      show Steps p.tables e below (T35.setTop (mkF m 281 #[.val (.int p1), .val (.long q2), .second, .val (.long q3), .second, .val (.long q4), .second, .val (.int p5), .val (.int (0 : Int32)), .val (.long y4), .second, .val (.long y5), .second, .val (.long y6), .second, .val (.ref b8), .val (.ref b__35), .val (.long (0 : Int64)), .second, .val (.long (0 : Int64)), .second, .val (.long (0 : Int64)), .second] [(.int (lcmpW (0 : Int64) (0 : Int64)))])) t
      refine XS.ifNo X35.here hx rfl (hb hby at_281) rfl ((if0 _ _).trans (teq ((lw_eq (0 : Int64) (0 : Int64)).mpr (by decide))).2) ?_
      show Steps p.tables e below (T35.setTop (mkF m 284 #[.val (.int p1), .val (.long q2), .second, .val (.long q3), .second, .val (.long q4), .second, .val (.int p5), .val (.int (0 : Int32)), .val (.long y4), .second, .val (.long y5), .second, .val (.long y6), .second, .val (.ref b8), .val (.ref b__35), .val (.long (0 : Int64)), .second, .val (.long (0 : Int64)), .second, .val (.long (0 : Int64)), .second] [])) t
      refine XS.aload X35.here hx rfl (hb hby at_284) rfl rfl ?_
      show Steps p.tables e below (T35.setTop (mkF m 286 #[.val (.int p1), .val (.long q2), .second, .val (.long q3), .second, .val (.long q4), .second, .val (.int p5), .val (.int (0 : Int32)), .val (.long y4), .second, .val (.long y5), .second, .val (.long y6), .second, .val (.ref b8), .val (.ref b__35), .val (.long (0 : Int64)), .second, .val (.long (0 : Int64)), .second, .val (.long (0 : Int64)), .second] [(.ref b__35)])) t
      refine XS.iconst X35.here hx rfl (hb hby at_286) ?_
      exact k)
    have V_o47 := V_35
    obtain ⟨co47, Aro47, qo47, So47, Mo47, Ho47, Go47⟩ := V_o47
    have hin48 : ¬ ((1 : Int32) < 0 ∨ co47.slots.size ≤ ((1 : Int32)).toNatClampNeg) := inb_of So47 ⟨by decide, by decide⟩
    have hat48 : co47.slots[((1 : Int32)).toNatClampNeg]? = some (.long (0 : Int64)) := Has.at Ho47 hin48 rfl
    have P49 : Rch p e below (s₁.setTop (entryFrame m #[(.int p1), (.long q2), (.long q3), (.long q4), (.int p5)] maxLocals)) (T35.setTop (mkF m 288 #[.val (.int p1), .val (.long q2), .second, .val (.long q3), .second, .val (.long q4), .second, .val (.int p5), .val (.int (0 : Int32)), .val (.long y4), .second, .val (.long y5), .second, .val (.long y6), .second, .val (.ref b8), .val (.ref b__35), .val (.long (0 : Int64)), .second, .val (.long (0 : Int64)), .second, .val (.long (0 : Int64)), .second] [(.long (0 : Int64))])) := fun t k => P46 t (X35.laload hx (j := (1 : Int32)) (v := (.long (0 : Int64))) Aro47.1 (State.isArrayOf_alike hZ.alike Aro47.2.1) Aro47.2.2 hin48 hat48 (g := (mkF m 287 #[.val (.int p1), .val (.long q2), .second, .val (.long q3), .second, .val (.long q4), .second, .val (.int p5), .val (.int (0 : Int32)), .val (.long y4), .second, .val (.long y5), .second, .val (.long y6), .second, .val (.ref b8), .val (.ref b__35), .val (.long (0 : Int64)), .second, .val (.long (0 : Int64)), .second, .val (.long (0 : Int64)), .second] [(.int (1 : Int32)), (.ref b__35)])) rfl rfl (hb hby at_287) t k)
    have P50 : Rch p e below (s₁.setTop (entryFrame m #[(.int p1), (.long q2), (.long q3), (.long q4), (.int p5)] maxLocals)) (T35.setTop (mkF m 291 #[.val (.int p1), .val (.long q2), .second, .val (.long q3), .second, .val (.long q4), .second, .val (.int p5), .val (.int (0 : Int32)), .val (.long y4), .second, .val (.long y5), .second, .val (.long y6), .second, .val (.ref b8), .val (.ref b__35), .val (.long (0 : Int64)), .second, .val (.long (0 : Int64)), .second, .val (.long (0 : Int64)), .second] [(.int (lcmpW (0 : Int64) (0 : Int64)))])) := fun t k => P49 t (by
      show Steps p.tables e below (T35.setTop (mkF m 288 #[.val (.int p1), .val (.long q2), .second, .val (.long q3), .second, .val (.long q4), .second, .val (.int p5), .val (.int (0 : Int32)), .val (.long y4), .second, .val (.long y5), .second, .val (.long y6), .second, .val (.ref b8), .val (.ref b__35), .val (.long (0 : Int64)), .second, .val (.long (0 : Int64)), .second, .val (.long (0 : Int64)), .second] [(.long (0 : Int64))])) t
      refine XS.lload X35.here hx rfl (hb hby at_288) rfl ?_
      show Steps p.tables e below (T35.setTop (mkF m 290 #[.val (.int p1), .val (.long q2), .second, .val (.long q3), .second, .val (.long q4), .second, .val (.int p5), .val (.int (0 : Int32)), .val (.long y4), .second, .val (.long y5), .second, .val (.long y6), .second, .val (.ref b8), .val (.ref b__35), .val (.long (0 : Int64)), .second, .val (.long (0 : Int64)), .second, .val (.long (0 : Int64)), .second] [(.long (0 : Int64)), (.long (0 : Int64))])) t
      refine XS.lcmp X35.here hx rfl (hb hby at_290) rfl ?_
      exact k)
    have P51 : Rch p e below (s₁.setTop (entryFrame m #[(.int p1), (.long q2), (.long q3), (.long q4), (.int p5)] maxLocals)) (T35.setTop (mkF m 297 #[.val (.int p1), .val (.long q2), .second, .val (.long q3), .second, .val (.long q4), .second, .val (.int p5), .val (.int (0 : Int32)), .val (.long y4), .second, .val (.long y5), .second, .val (.long y6), .second, .val (.ref b8), .val (.ref b__35), .val (.long (0 : Int64)), .second, .val (.long (0 : Int64)), .second, .val (.long (0 : Int64)), .second] [(.int (2 : Int32)), (.ref b__35)])) := fun t k => P50 t (by
      show Steps p.tables e below (T35.setTop (mkF m 291 #[.val (.int p1), .val (.long q2), .second, .val (.long q3), .second, .val (.long q4), .second, .val (.int p5), .val (.int (0 : Int32)), .val (.long y4), .second, .val (.long y5), .second, .val (.long y6), .second, .val (.ref b8), .val (.ref b__35), .val (.long (0 : Int64)), .second, .val (.long (0 : Int64)), .second, .val (.long (0 : Int64)), .second] [(.int (lcmpW (0 : Int64) (0 : Int64)))])) t
      refine XS.ifNo X35.here hx rfl (hb hby at_291) rfl ((if0 _ _).trans (teq ((lw_eq (0 : Int64) (0 : Int64)).mpr (by decide))).2) ?_
      show Steps p.tables e below (T35.setTop (mkF m 294 #[.val (.int p1), .val (.long q2), .second, .val (.long q3), .second, .val (.long q4), .second, .val (.int p5), .val (.int (0 : Int32)), .val (.long y4), .second, .val (.long y5), .second, .val (.long y6), .second, .val (.ref b8), .val (.ref b__35), .val (.long (0 : Int64)), .second, .val (.long (0 : Int64)), .second, .val (.long (0 : Int64)), .second] [])) t
      refine XS.aload X35.here hx rfl (hb hby at_294) rfl rfl ?_
      show Steps p.tables e below (T35.setTop (mkF m 296 #[.val (.int p1), .val (.long q2), .second, .val (.long q3), .second, .val (.long q4), .second, .val (.int p5), .val (.int (0 : Int32)), .val (.long y4), .second, .val (.long y5), .second, .val (.long y6), .second, .val (.ref b8), .val (.ref b__35), .val (.long (0 : Int64)), .second, .val (.long (0 : Int64)), .second, .val (.long (0 : Int64)), .second] [(.ref b__35)])) t
      refine XS.iconst X35.here hx rfl (hb hby at_296) ?_
      exact k)
    have V_o52 := V_35
    obtain ⟨co52, Aro52, qo52, So52, Mo52, Ho52, Go52⟩ := V_o52
    have hin53 : ¬ ((2 : Int32) < 0 ∨ co52.slots.size ≤ ((2 : Int32)).toNatClampNeg) := inb_of So52 ⟨by decide, by decide⟩
    have hat53 : co52.slots[((2 : Int32)).toNatClampNeg]? = some (.long (0 : Int64)) := Has.at Ho52 hin53 rfl
    have P54 : Rch p e below (s₁.setTop (entryFrame m #[(.int p1), (.long q2), (.long q3), (.long q4), (.int p5)] maxLocals)) (T35.setTop (mkF m 298 #[.val (.int p1), .val (.long q2), .second, .val (.long q3), .second, .val (.long q4), .second, .val (.int p5), .val (.int (0 : Int32)), .val (.long y4), .second, .val (.long y5), .second, .val (.long y6), .second, .val (.ref b8), .val (.ref b__35), .val (.long (0 : Int64)), .second, .val (.long (0 : Int64)), .second, .val (.long (0 : Int64)), .second] [(.long (0 : Int64))])) := fun t k => P51 t (X35.laload hx (j := (2 : Int32)) (v := (.long (0 : Int64))) Aro52.1 (State.isArrayOf_alike hZ.alike Aro52.2.1) Aro52.2.2 hin53 hat53 (g := (mkF m 297 #[.val (.int p1), .val (.long q2), .second, .val (.long q3), .second, .val (.long q4), .second, .val (.int p5), .val (.int (0 : Int32)), .val (.long y4), .second, .val (.long y5), .second, .val (.long y6), .second, .val (.ref b8), .val (.ref b__35), .val (.long (0 : Int64)), .second, .val (.long (0 : Int64)), .second, .val (.long (0 : Int64)), .second] [(.int (2 : Int32)), (.ref b__35)])) rfl rfl (hb hby at_297) t k)
    have P55 : Rch p e below (s₁.setTop (entryFrame m #[(.int p1), (.long q2), (.long q3), (.long q4), (.int p5)] maxLocals)) (T35.setTop (mkF m 301 #[.val (.int p1), .val (.long q2), .second, .val (.long q3), .second, .val (.long q4), .second, .val (.int p5), .val (.int (0 : Int32)), .val (.long y4), .second, .val (.long y5), .second, .val (.long y6), .second, .val (.ref b8), .val (.ref b__35), .val (.long (0 : Int64)), .second, .val (.long (0 : Int64)), .second, .val (.long (0 : Int64)), .second] [(.int (lcmpW (0 : Int64) (0 : Int64)))])) := fun t k => P54 t (by
      show Steps p.tables e below (T35.setTop (mkF m 298 #[.val (.int p1), .val (.long q2), .second, .val (.long q3), .second, .val (.long q4), .second, .val (.int p5), .val (.int (0 : Int32)), .val (.long y4), .second, .val (.long y5), .second, .val (.long y6), .second, .val (.ref b8), .val (.ref b__35), .val (.long (0 : Int64)), .second, .val (.long (0 : Int64)), .second, .val (.long (0 : Int64)), .second] [(.long (0 : Int64))])) t
      refine XS.lload X35.here hx rfl (hb hby at_298) rfl ?_
      show Steps p.tables e below (T35.setTop (mkF m 300 #[.val (.int p1), .val (.long q2), .second, .val (.long q3), .second, .val (.long q4), .second, .val (.int p5), .val (.int (0 : Int32)), .val (.long y4), .second, .val (.long y5), .second, .val (.long y6), .second, .val (.ref b8), .val (.ref b__35), .val (.long (0 : Int64)), .second, .val (.long (0 : Int64)), .second, .val (.long (0 : Int64)), .second] [(.long (0 : Int64)), (.long (0 : Int64))])) t
      refine XS.lcmp X35.here hx rfl (hb hby at_300) rfl ?_
      exact k)
    have P56 : Rch p e below (s₁.setTop (entryFrame m #[(.int p1), (.long q2), (.long q3), (.long q4), (.int p5)] maxLocals)) (T35.setTop (mkF m 309 #[.val (.int p1), .val (.long q2), .second, .val (.long q3), .second, .val (.long q4), .second, .val (.int p5), .val (.int (0 : Int32)), .val (.long y4), .second, .val (.long y5), .second, .val (.long y6), .second, .val (.ref b8), .val (.ref b__35), .val (.long (0 : Int64)), .second, .val (.long (0 : Int64)), .second, .val (.long (0 : Int64)), .second] [(.int (1 : Int32))])) := fun t k => P55 t (by
      show Steps p.tables e below (T35.setTop (mkF m 301 #[.val (.int p1), .val (.long q2), .second, .val (.long q3), .second, .val (.long q4), .second, .val (.int p5), .val (.int (0 : Int32)), .val (.long y4), .second, .val (.long y5), .second, .val (.long y6), .second, .val (.ref b8), .val (.ref b__35), .val (.long (0 : Int64)), .second, .val (.long (0 : Int64)), .second, .val (.long (0 : Int64)), .second] [(.int (lcmpW (0 : Int64) (0 : Int64)))])) t
      refine XS.ifNo X35.here hx rfl (hb hby at_301) rfl ((if0 _ _).trans (teq ((lw_eq (0 : Int64) (0 : Int64)).mpr (by decide))).2) ?_
      show Steps p.tables e below (T35.setTop (mkF m 304 #[.val (.int p1), .val (.long q2), .second, .val (.long q3), .second, .val (.long q4), .second, .val (.int p5), .val (.int (0 : Int32)), .val (.long y4), .second, .val (.long y5), .second, .val (.long y6), .second, .val (.ref b8), .val (.ref b__35), .val (.long (0 : Int64)), .second, .val (.long (0 : Int64)), .second, .val (.long (0 : Int64)), .second] [])) t
      refine XS.iconst X35.here hx rfl (hb hby at_304) ?_
      show Steps p.tables e below (T35.setTop (mkF m 305 #[.val (.int p1), .val (.long q2), .second, .val (.long q3), .second, .val (.long q4), .second, .val (.int p5), .val (.int (0 : Int32)), .val (.long y4), .second, .val (.long y5), .second, .val (.long y6), .second, .val (.ref b8), .val (.ref b__35), .val (.long (0 : Int64)), .second, .val (.long (0 : Int64)), .second, .val (.long (0 : Int64)), .second] [(.int (1 : Int32))])) t
      refine XS.goto X35.here hx rfl (pc0 := 305) (pc' := 309) rfl (hb hby at_305) (by decide) (by decide) ?_
      exact k)
    obtain ⟨fs, hr, hrun, hended, hW, hsame⟩ := X35.leave (v := some (.int (1 : Int32))) (fun h => by rw [Bd.returns] at h; cases h)
    refine ⟨_, _, P56 _ ?_, hrun, hended, _, _, rfl, ?_, ⟨_, rfl⟩, hW, hsame.mono (by decide) (by decide)⟩
    · exact retN X35 hx (t := .boolean) Bd.returns (by simp) (hb hby at_309) hr
    · show Q_rm0 Z p1 q2 q3 q4 p5 h0 n0 _ T35.heap _
      exact ⟨rfl, N35⟩
  · have hi_ : x1 = (1 : Int32) := by rw [hx1]; exact hs
    have P57 : Rch p e below (s₁.setTop (entryFrame m #[(.int p1), (.long q2), (.long q3), (.long q4), (.int p5)] maxLocals)) (s₁.setTop (mkF m 5 #[.val (.int p1), .val (.long q2), .second, .val (.long q3), .second, .val (.long q4), .second, .val (.int p5), .val (.int (1 : Int32)), .unset, .unset, .unset, .unset, .unset, .unset, .unset, .unset, .unset, .unset, .unset, .unset, .unset, .unset] [])) := by have q_ := P2; rw [hi_] at q_; exact q_
    obtain ⟨y58, hy58⟩ : ∃ z : Int64, z = (q2 &&& (2305843009213693951 : Int64)) := ⟨_, rfl⟩
    obtain ⟨y59, hy59⟩ : ∃ z : Int64, z = (q3 &&& (2305843009213693951 : Int64)) := ⟨_, rfl⟩
    obtain ⟨y60, hy60⟩ : ∃ z : Int64, z = (q4 &&& (2305843009213693951 : Int64)) := ⟨_, rfl⟩
    have P61 : Rch p e below (s₁.setTop (entryFrame m #[(.int p1), (.long q2), (.long q3), (.long q4), (.int p5)] maxLocals)) (s₁.setTop (mkF m 27 #[.val (.int p1), .val (.long q2), .second, .val (.long q3), .second, .val (.long q4), .second, .val (.int p5), .val (.int (1 : Int32)), .val (.long y58), .second, .val (.long y59), .second, .val (.long y60), .second, .unset, .unset, .unset, .unset, .unset, .unset, .unset, .unset] [])) := fun t k => P57 t (by
      subst hy58 hy59 hy60
      show Steps p.tables e below (s₁.setTop (mkF m 5 #[.val (.int p1), .val (.long q2), .second, .val (.long q3), .second, .val (.long q4), .second, .val (.int p5), .val (.int (1 : Int32)), .unset, .unset, .unset, .unset, .unset, .unset, .unset, .unset, .unset, .unset, .unset, .unset, .unset, .unset] [])) t
      refine XS.lloadN X0.here hx rfl (hb hby at_5) rfl ?_
      show Steps p.tables e below (s₁.setTop (mkF m 6 #[.val (.int p1), .val (.long q2), .second, .val (.long q3), .second, .val (.long q4), .second, .val (.int p5), .val (.int (1 : Int32)), .unset, .unset, .unset, .unset, .unset, .unset, .unset, .unset, .unset, .unset, .unset, .unset, .unset, .unset] [(.long q2)])) t
      refine X0.ldc2Long hx hown (mvT hZ (hw _ (List.mem_of_getElem? (i := 0) rfl))) (g := (mkF m 6 #[.val (.int p1), .val (.long q2), .second, .val (.long q3), .second, .val (.long q4), .second, .val (.int p5), .val (.int (1 : Int32)), .unset, .unset, .unset, .unset, .unset, .unset, .unset, .unset, .unset, .unset, .unset, .unset, .unset, .unset] [(.long q2)])) rfl (hb hby at_6) _ ?_
      show Steps p.tables e below (s₁.setTop (mkF m 9 #[.val (.int p1), .val (.long q2), .second, .val (.long q3), .second, .val (.long q4), .second, .val (.int p5), .val (.int (1 : Int32)), .unset, .unset, .unset, .unset, .unset, .unset, .unset, .unset, .unset, .unset, .unset, .unset, .unset, .unset] [(.long (2305843009213693951 : Int64)), (.long q2)])) t
      refine XS.land X0.here hx rfl (hb hby at_9) rfl ?_
      show Steps p.tables e below (s₁.setTop (mkF m 10 #[.val (.int p1), .val (.long q2), .second, .val (.long q3), .second, .val (.long q4), .second, .val (.int p5), .val (.int (1 : Int32)), .unset, .unset, .unset, .unset, .unset, .unset, .unset, .unset, .unset, .unset, .unset, .unset, .unset, .unset] [(.long (q2 &&& (2305843009213693951 : Int64)))])) t
      refine XS.lstore X0.here hx rfl (hb hby at_10) rfl (l' := #[.val (.int p1), .val (.long q2), .second, .val (.long q3), .second, .val (.long q4), .second, .val (.int p5), .val (.int (1 : Int32)), .val (.long (q2 &&& (2305843009213693951 : Int64))), .second, .unset, .unset, .unset, .unset, .unset, .unset, .unset, .unset, .unset, .unset, .unset, .unset]) rfl ?_
      show Steps p.tables e below (s₁.setTop (mkF m 12 #[.val (.int p1), .val (.long q2), .second, .val (.long q3), .second, .val (.long q4), .second, .val (.int p5), .val (.int (1 : Int32)), .val (.long (q2 &&& (2305843009213693951 : Int64))), .second, .unset, .unset, .unset, .unset, .unset, .unset, .unset, .unset, .unset, .unset, .unset, .unset] [])) t
      refine XS.lloadN X0.here hx rfl (hb hby at_12) rfl ?_
      show Steps p.tables e below (s₁.setTop (mkF m 13 #[.val (.int p1), .val (.long q2), .second, .val (.long q3), .second, .val (.long q4), .second, .val (.int p5), .val (.int (1 : Int32)), .val (.long (q2 &&& (2305843009213693951 : Int64))), .second, .unset, .unset, .unset, .unset, .unset, .unset, .unset, .unset, .unset, .unset, .unset, .unset] [(.long q3)])) t
      refine X0.ldc2Long hx hown (mvT hZ (hw _ (List.mem_of_getElem? (i := 0) rfl))) (g := (mkF m 13 #[.val (.int p1), .val (.long q2), .second, .val (.long q3), .second, .val (.long q4), .second, .val (.int p5), .val (.int (1 : Int32)), .val (.long (q2 &&& (2305843009213693951 : Int64))), .second, .unset, .unset, .unset, .unset, .unset, .unset, .unset, .unset, .unset, .unset, .unset, .unset] [(.long q3)])) rfl (hb hby at_13) _ ?_
      show Steps p.tables e below (s₁.setTop (mkF m 16 #[.val (.int p1), .val (.long q2), .second, .val (.long q3), .second, .val (.long q4), .second, .val (.int p5), .val (.int (1 : Int32)), .val (.long (q2 &&& (2305843009213693951 : Int64))), .second, .unset, .unset, .unset, .unset, .unset, .unset, .unset, .unset, .unset, .unset, .unset, .unset] [(.long (2305843009213693951 : Int64)), (.long q3)])) t
      refine XS.land X0.here hx rfl (hb hby at_16) rfl ?_
      show Steps p.tables e below (s₁.setTop (mkF m 17 #[.val (.int p1), .val (.long q2), .second, .val (.long q3), .second, .val (.long q4), .second, .val (.int p5), .val (.int (1 : Int32)), .val (.long (q2 &&& (2305843009213693951 : Int64))), .second, .unset, .unset, .unset, .unset, .unset, .unset, .unset, .unset, .unset, .unset, .unset, .unset] [(.long (q3 &&& (2305843009213693951 : Int64)))])) t
      refine XS.lstore X0.here hx rfl (hb hby at_17) rfl (l' := #[.val (.int p1), .val (.long q2), .second, .val (.long q3), .second, .val (.long q4), .second, .val (.int p5), .val (.int (1 : Int32)), .val (.long (q2 &&& (2305843009213693951 : Int64))), .second, .val (.long (q3 &&& (2305843009213693951 : Int64))), .second, .unset, .unset, .unset, .unset, .unset, .unset, .unset, .unset, .unset, .unset]) rfl ?_
      show Steps p.tables e below (s₁.setTop (mkF m 19 #[.val (.int p1), .val (.long q2), .second, .val (.long q3), .second, .val (.long q4), .second, .val (.int p5), .val (.int (1 : Int32)), .val (.long (q2 &&& (2305843009213693951 : Int64))), .second, .val (.long (q3 &&& (2305843009213693951 : Int64))), .second, .unset, .unset, .unset, .unset, .unset, .unset, .unset, .unset, .unset, .unset] [])) t
      refine XS.lload X0.here hx rfl (hb hby at_19) rfl ?_
      show Steps p.tables e below (s₁.setTop (mkF m 21 #[.val (.int p1), .val (.long q2), .second, .val (.long q3), .second, .val (.long q4), .second, .val (.int p5), .val (.int (1 : Int32)), .val (.long (q2 &&& (2305843009213693951 : Int64))), .second, .val (.long (q3 &&& (2305843009213693951 : Int64))), .second, .unset, .unset, .unset, .unset, .unset, .unset, .unset, .unset, .unset, .unset] [(.long q4)])) t
      refine X0.ldc2Long hx hown (mvT hZ (hw _ (List.mem_of_getElem? (i := 0) rfl))) (g := (mkF m 21 #[.val (.int p1), .val (.long q2), .second, .val (.long q3), .second, .val (.long q4), .second, .val (.int p5), .val (.int (1 : Int32)), .val (.long (q2 &&& (2305843009213693951 : Int64))), .second, .val (.long (q3 &&& (2305843009213693951 : Int64))), .second, .unset, .unset, .unset, .unset, .unset, .unset, .unset, .unset, .unset, .unset] [(.long q4)])) rfl (hb hby at_21) _ ?_
      show Steps p.tables e below (s₁.setTop (mkF m 24 #[.val (.int p1), .val (.long q2), .second, .val (.long q3), .second, .val (.long q4), .second, .val (.int p5), .val (.int (1 : Int32)), .val (.long (q2 &&& (2305843009213693951 : Int64))), .second, .val (.long (q3 &&& (2305843009213693951 : Int64))), .second, .unset, .unset, .unset, .unset, .unset, .unset, .unset, .unset, .unset, .unset] [(.long (2305843009213693951 : Int64)), (.long q4)])) t
      refine XS.land X0.here hx rfl (hb hby at_24) rfl ?_
      show Steps p.tables e below (s₁.setTop (mkF m 25 #[.val (.int p1), .val (.long q2), .second, .val (.long q3), .second, .val (.long q4), .second, .val (.int p5), .val (.int (1 : Int32)), .val (.long (q2 &&& (2305843009213693951 : Int64))), .second, .val (.long (q3 &&& (2305843009213693951 : Int64))), .second, .unset, .unset, .unset, .unset, .unset, .unset, .unset, .unset, .unset, .unset] [(.long (q4 &&& (2305843009213693951 : Int64)))])) t
      refine XS.lstore X0.here hx rfl (hb hby at_25) rfl (l' := #[.val (.int p1), .val (.long q2), .second, .val (.long q3), .second, .val (.long q4), .second, .val (.int p5), .val (.int (1 : Int32)), .val (.long (q2 &&& (2305843009213693951 : Int64))), .second, .val (.long (q3 &&& (2305843009213693951 : Int64))), .second, .val (.long (q4 &&& (2305843009213693951 : Int64))), .second, .unset, .unset, .unset, .unset, .unset, .unset, .unset, .unset]) rfl ?_
      exact k)
    obtain ⟨T62, h62, X62, e62, E62, A62, D62, -, st62⟩ := newO X0 hx hZ hown (hw _ (List.mem_of_getElem? (i := 1) rfl)) (hw _ (List.mem_of_getElem? (i := 2) rfl)) (hw _ (List.mem_of_getElem? (i := 3) rfl)) e0 (g := (mkF m 27 #[.val (.int p1), .val (.long q2), .second, .val (.long q3), .second, .val (.long q4), .second, .val (.int p5), .val (.int (1 : Int32)), .val (.long y58), .second, .val (.long y59), .second, .val (.long y60), .second, .unset, .unset, .unset, .unset, .unset, .unset, .unset, .unset] [])) rfl (hb hby at_27) (by decide) (by decide)
    obtain ⟨b62, g62⟩ : ∃ z, z = h0.size := ⟨_, rfl⟩
    rw [← g62] at A62 D62 st62
    have g_b62 : n0 ≤ b62 := Nat.le_trans Z0 (Nat.le_of_eq g62.symm)
    have sz_b62 : h0.size ≤ b62 := Nat.le_trans (Keep.refl h0 []).1 (Nat.le_of_eq g62.symm)
    have F62_12 : Fld Z h62 b62 "com/example/usher/usher/server/Traffic" "latencyMin" "J" (.long (0 : Int64)) := D62 (Or.inl (hw _ (List.mem_of_getElem? (i := 12) rfl))) (ty := .long) (by decide)
    have F62_19 : Fld Z h62 b62 "com/example/usher/usher/server/Traffic" "sent" "J" (.long (0 : Int64)) := D62 (Or.inl (hw _ (List.mem_of_getElem? (i := 19) rfl))) (ty := .long) (by decide)
    have F62_27 : Fld Z h62 b62 "com/example/usher/usher/server/Traffic" "answered" "J" (.long (0 : Int64)) := D62 (Or.inl (hw _ (List.mem_of_getElem? (i := 27) rfl))) (ty := .long) (by decide)
    have F62_38 : Fld Z h62 b62 "com/example/usher/usher/server/Traffic" "latencyMax" "J" (.long (0 : Int64)) := D62 (Or.inl (hw _ (List.mem_of_getElem? (i := 38) rfl))) (ty := .long) (by decide)
    have F62_43 : Fld Z h62 b62 "com/example/usher/usher/server/Traffic" "latencyTotal" "J" (.long (0 : Int64)) := D62 (Or.inl (hw _ (List.mem_of_getElem? (i := 43) rfl))) (ty := .long) (by decide)
    have P63 : Rch p e below (s₁.setTop (entryFrame m #[(.int p1), (.long q2), (.long q3), (.long q4), (.int p5)] maxLocals)) (T62.setTop (mkF m 30 #[.val (.int p1), .val (.long q2), .second, .val (.long q3), .second, .val (.long q4), .second, .val (.int p5), .val (.int (1 : Int32)), .val (.long y58), .second, .val (.long y59), .second, .val (.long y60), .second, .unset, .unset, .unset, .unset, .unset, .unset, .unset, .unset] [(.ref b62)])) := fun t k => P61 t (st62 t k)
    have P64 : Rch p e below (s₁.setTop (entryFrame m #[(.int p1), (.long q2), (.long q3), (.long q4), (.int p5)] maxLocals)) (T62.setTop (mkF m 31 #[.val (.int p1), .val (.long q2), .second, .val (.long q3), .second, .val (.long q4), .second, .val (.int p5), .val (.int (1 : Int32)), .val (.long y58), .second, .val (.long y59), .second, .val (.long y60), .second, .unset, .unset, .unset, .unset, .unset, .unset, .unset, .unset] [(.ref b62), (.ref b62)])) := fun t k => P63 t (by
      show Steps p.tables e below (T62.setTop (mkF m 30 #[.val (.int p1), .val (.long q2), .second, .val (.long q3), .second, .val (.long q4), .second, .val (.int p5), .val (.int (1 : Int32)), .val (.long y58), .second, .val (.long y59), .second, .val (.long y60), .second, .unset, .unset, .unset, .unset, .unset, .unset, .unset, .unset] [(.ref b62)])) t
      refine XS.dup X62.here hx rfl (hb hby at_30) rfl rfl ?_
      exact k)
    have f66 : n0 ≤ h62.size := (Nat.le_trans Z0 E62.1)
    obtain ⟨_, _, ⟨T65, L65, k65, n65⟩, -, X65, ⟨Lc65, hQ65, l65, y65, z65⟩, st65⟩ := X62.specialBack hx (y := (⟨"com/example/usher/usher/server/Traffic", "<init>", "()V"⟩ : MethodName)) rfl hown (mvT hZ (hw _ (List.mem_of_getElem? (i := 4) rfl))) (mvT hZ (hw _ (List.mem_of_getElem? (i := 5) rfl))) (mvT hZ (hw _ (List.mem_of_getElem? (i := 6) rfl))) (by decide) (backOf (W := 1) (rmI l Z a0 hw [] b62 h62 n0 f66 A62 g_b62 F62_19 F62_27 F62_12 F62_38 F62_43) hZ (hw _ (List.mem_of_getElem? (i := 6) rfl)) (hw _ (List.mem_of_getElem? (i := 3) rfl)) (by decide) (by decide)) (g := (mkF m 31 #[.val (.int p1), .val (.long q2), .second, .val (.long q3), .second, .val (.long q4), .second, .val (.int p5), .val (.int (1 : Int32)), .val (.long y58), .second, .val (.long y59), .second, .val (.long y60), .second, .unset, .unset, .unset, .unset, .unset, .unset, .unset, .unset] [(.ref b62), (.ref b62)])) rfl (by rw [hml]; rfl) (Steps.refl _) (a := b62) (argsL := []) (rest := [(.ref b62)]) (lenOf pd_1 rfl) rfl (by show 2 * 0 + _ ≤ _; exact Nat.le_of_eq rfl) (hb hby at_31) (fun _ _ => ⟨rfl, e62, (by decide : 1 + 0 ≤ _), (by decide : 8 + 0 ≤ _)⟩)
    dsimp only [Pt.U, Pt.locs, Pt.cells, Pt.slots] at X65 l65 y65 z65 st65 hQ65
    subst l65 y65 z65
    obtain ⟨rfl, N65q, K65, E_65, G0_65, G1_65, G2_65, G3_65, G4_65⟩ := hQ65
    have N65 := Fr.app N0 N65q
    have P67 : Rch p e below (s₁.setTop (entryFrame m #[(.int p1), (.long q2), (.long q3), (.long q4), (.int p5)] maxLocals)) (T65.setTop (mkF m 34 #[.val (.int p1), .val (.long q2), .second, .val (.long q3), .second, .val (.long q4), .second, .val (.int p5), .val (.int (1 : Int32)), .val (.long y58), .second, .val (.long y59), .second, .val (.long y60), .second, .unset, .unset, .unset, .unset, .unset, .unset, .unset, .unset] [(.ref b62)])) := fun t k => P64 t (st65.trans k)
    obtain ⟨x68, hx68⟩ : ∃ z : Int32, z = (p5 &&& (1 : Int32)) := ⟨_, rfl⟩
    have P69 : Rch p e below (s₁.setTop (entryFrame m #[(.int p1), (.long q2), (.long q3), (.long q4), (.int p5)] maxLocals)) (T65.setTop (mkF m 40 #[.val (.int p1), .val (.long q2), .second, .val (.long q3), .second, .val (.long q4), .second, .val (.int p5), .val (.int (1 : Int32)), .val (.long y58), .second, .val (.long y59), .second, .val (.long y60), .second, .val (.ref b62), .unset, .unset, .unset, .unset, .unset, .unset, .unset] [(.int x68)])) := fun t k => P67 t (by
      subst hx68
      show Steps p.tables e below (T65.setTop (mkF m 34 #[.val (.int p1), .val (.long q2), .second, .val (.long q3), .second, .val (.long q4), .second, .val (.int p5), .val (.int (1 : Int32)), .val (.long y58), .second, .val (.long y59), .second, .val (.long y60), .second, .unset, .unset, .unset, .unset, .unset, .unset, .unset, .unset] [(.ref b62)])) t
      refine XS.astore X65.here hx rfl (hb hby at_34) rfl rfl (l' := #[.val (.int p1), .val (.long q2), .second, .val (.long q3), .second, .val (.long q4), .second, .val (.int p5), .val (.int (1 : Int32)), .val (.long y58), .second, .val (.long y59), .second, .val (.long y60), .second, .val (.ref b62), .unset, .unset, .unset, .unset, .unset, .unset, .unset]) rfl ?_
      show Steps p.tables e below (T65.setTop (mkF m 36 #[.val (.int p1), .val (.long q2), .second, .val (.long q3), .second, .val (.long q4), .second, .val (.int p5), .val (.int (1 : Int32)), .val (.long y58), .second, .val (.long y59), .second, .val (.long y60), .second, .val (.ref b62), .unset, .unset, .unset, .unset, .unset, .unset, .unset] [])) t
      refine XS.iload X65.here hx rfl (hb hby at_36) rfl ?_
      show Steps p.tables e below (T65.setTop (mkF m 38 #[.val (.int p1), .val (.long q2), .second, .val (.long q3), .second, .val (.long q4), .second, .val (.int p5), .val (.int (1 : Int32)), .val (.long y58), .second, .val (.long y59), .second, .val (.long y60), .second, .val (.ref b62), .unset, .unset, .unset, .unset, .unset, .unset, .unset] [(.int p5)])) t
      refine XS.iconst X65.here hx rfl (hb hby at_38) ?_
      show Steps p.tables e below (T65.setTop (mkF m 39 #[.val (.int p1), .val (.long q2), .second, .val (.long q3), .second, .val (.long q4), .second, .val (.int p5), .val (.int (1 : Int32)), .val (.long y58), .second, .val (.long y59), .second, .val (.long y60), .second, .val (.ref b62), .unset, .unset, .unset, .unset, .unset, .unset, .unset] [(.int (1 : Int32)), (.int p5)])) t
      refine XS.iand X65.here hx rfl (hb hby at_39) rfl ?_
      exact k)
    obtain ⟨T70, L70, h70, u__70, X70, e70, N70, Z70, K70, G0_70, G1_70, G2_70, G3_70, G4_70, P70⟩ : ∃ (T70 : State) (L70 : List Loc) (h70 : Heap) (u__70 : Int64), Stand p l e room_1 s m #[(.int p1), (.long q2), (.long q3), (.long q4), (.int p5)] below meth c T70 L70 1 8 ∧ T70.heap = h70 ∧ Fr n0 L70 ∧ n0 ≤ h70.size ∧ Keep T65.heap h70 [b62] ∧ (Fld Z h70 b62 "com/example/usher/usher/server/Traffic" "sent" "J" (.long u__70)) ∧ (Fld Z h70 b62 "com/example/usher/usher/server/Traffic" "answered" "J" (.long (0 : Int64))) ∧ (Fld Z h70 b62 "com/example/usher/usher/server/Traffic" "latencyMin" "J" (.long (9223372036854775807 : Int64))) ∧ (Fld Z h70 b62 "com/example/usher/usher/server/Traffic" "latencyMax" "J" (.long (0 : Int64))) ∧ (Fld Z h70 b62 "com/example/usher/usher/server/Traffic" "latencyTotal" "J" (.long (0 : Int64))) ∧ Rch p e below (s₁.setTop (entryFrame m #[(.int p1), (.long q2), (.long q3), (.long q4), (.int p5)] maxLocals)) (T70.setTop (mkF m 48 #[.val (.int p1), .val (.long q2), .second, .val (.long q3), .second, .val (.long q4), .second, .val (.int p5), .val (.int (1 : Int32)), .val (.long y58), .second, .val (.long y59), .second, .val (.long y60), .second, .val (.ref b62), .unset, .unset, .unset, .unset, .unset, .unset, .unset] [])) := by
      by_cases c71 : x68 = (0 : Int32)
      · have P72 : Rch p e below (s₁.setTop (entryFrame m #[(.int p1), (.long q2), (.long q3), (.long q4), (.int p5)] maxLocals)) (T65.setTop (mkF m 48 #[.val (.int p1), .val (.long q2), .second, .val (.long q3), .second, .val (.long q4), .second, .val (.int p5), .val (.int (1 : Int32)), .val (.long y58), .second, .val (.long y59), .second, .val (.long y60), .second, .val (.ref b62), .unset, .unset, .unset, .unset, .unset, .unset, .unset] [])) := fun t k => P69 t (by
          show Steps p.tables e below (T65.setTop (mkF m 40 #[.val (.int p1), .val (.long q2), .second, .val (.long q3), .second, .val (.long q4), .second, .val (.int p5), .val (.int (1 : Int32)), .val (.long y58), .second, .val (.long y59), .second, .val (.long y60), .second, .val (.ref b62), .unset, .unset, .unset, .unset, .unset, .unset, .unset] [(.int x68)])) t
          refine XS.ifYes X65.here hx rfl (pc0 := 40) (pc' := 48) rfl (hb hby at_40) rfl ((if0 _ _).trans (teq c71).1) (by decide) (by decide) ?_
          exact k)
        have f73 : n0 ≤ T65.heap.size := (Nat.le_trans f66 K65.1)
        exact ⟨T65, _, T65.heap, (0 : Int64), X65, rfl, N65, f73, (Keep.refl T65.heap [b62]), G0_65, G1_65, G2_65, G3_65, G4_65, P72⟩
      · have P74 : Rch p e below (s₁.setTop (entryFrame m #[(.int p1), (.long q2), (.long q3), (.long q4), (.int p5)] maxLocals)) (T65.setTop (mkF m 45 #[.val (.int p1), .val (.long q2), .second, .val (.long q3), .second, .val (.long q4), .second, .val (.int p5), .val (.int (1 : Int32)), .val (.long y58), .second, .val (.long y59), .second, .val (.long y60), .second, .val (.ref b62), .unset, .unset, .unset, .unset, .unset, .unset, .unset] [(.ref b62)])) := fun t k => P69 t (by
          show Steps p.tables e below (T65.setTop (mkF m 40 #[.val (.int p1), .val (.long q2), .second, .val (.long q3), .second, .val (.long q4), .second, .val (.int p5), .val (.int (1 : Int32)), .val (.long y58), .second, .val (.long y59), .second, .val (.long y60), .second, .val (.ref b62), .unset, .unset, .unset, .unset, .unset, .unset, .unset] [(.int x68)])) t
          refine XS.ifNo X65.here hx rfl (hb hby at_40) rfl ((if0 _ _).trans (feq c71).1) ?_
          show Steps p.tables e below (T65.setTop (mkF m 43 #[.val (.int p1), .val (.long q2), .second, .val (.long q3), .second, .val (.long q4), .second, .val (.int p5), .val (.int (1 : Int32)), .val (.long y58), .second, .val (.long y59), .second, .val (.long y60), .second, .val (.ref b62), .unset, .unset, .unset, .unset, .unset, .unset, .unset] [])) t
          refine XS.aload X65.here hx rfl (hb hby at_43) rfl rfl ?_
          exact k)
        have f76 : n0 ≤ T65.heap.size := (Nat.le_trans f66 K65.1)
        obtain ⟨cq75, kq75, q75a, q75b, q75c⟩ := isOf hZ rfl E_65
        obtain ⟨_, _, ⟨T75, L75, k75, n75⟩, -, X75, ⟨Lc75, hQ75, l75, y75, z75⟩, st75⟩ := X65.virtualBack hx (y := (⟨"com/example/usher/usher/server/Traffic", "notificationSent", "()V"⟩ : MethodName)) (z := (⟨"com/example/usher/usher/server/Traffic", "notificationSent", "()V"⟩ : MethodName)) hown (mvT hZ (hw _ (List.mem_of_getElem? (i := 13) rfl))) (mvT hZ (hw _ (List.mem_of_getElem? (i := 14) rfl))) (notFace_of_selects (args := #[]) (mvT hZ (hw _ (List.mem_of_getElem? (i := 16) rfl)))) (mvT hZ (hw _ (List.mem_of_getElem? (i := 16) rfl))) (mvT hZ (hw _ (List.mem_of_getElem? (i := 15) rfl))) (by decide) (backOf (W := 0) (rmN l Z a0 hw [] b62 (0 : Int64) (0 : Int64) (9223372036854775807 : Int64) (0 : Int64) (0 : Int64) T65.heap n0 f76 E_65 g_b62 G0_65 G1_65 G2_65 G3_65 G4_65) hZ (hw _ (List.mem_of_getElem? (i := 17) rfl)) (hw _ (List.mem_of_getElem? (i := 3) rfl)) (by decide) (by decide)) q75a q75c (g := (mkF m 45 #[.val (.int p1), .val (.long q2), .second, .val (.long q3), .second, .val (.long q4), .second, .val (.int p5), .val (.int (1 : Int32)), .val (.long y58), .second, .val (.long y59), .second, .val (.long y60), .second, .val (.ref b62), .unset, .unset, .unset, .unset, .unset, .unset, .unset] [(.ref b62)])) rfl (by rw [hml]; rfl) (Steps.refl _) (argsL := []) (rest := []) (lenOf pd_1 rfl) rfl (by show 2 * 0 + _ ≤ _; exact Nat.le_of_eq rfl) (hb hby at_45) (fun _ _ => ⟨rfl, rfl, (by decide : 1 + 0 ≤ _), (by decide : 8 + 0 ≤ _)⟩)
        dsimp only [Pt.U, Pt.locs, Pt.cells, Pt.slots] at X75 l75 y75 z75 st75 hQ75
        subst l75 y75 z75
        obtain ⟨rfl, N75q, K75, E_75, G0_75, G1_75, G2_75, G3_75, G4_75⟩ := hQ75
        have N75 := Fr.app N65 N75q
        have P77 : Rch p e below (s₁.setTop (entryFrame m #[(.int p1), (.long q2), (.long q3), (.long q4), (.int p5)] maxLocals)) (T75.setTop (mkF m 48 #[.val (.int p1), .val (.long q2), .second, .val (.long q3), .second, .val (.long q4), .second, .val (.int p5), .val (.int (1 : Int32)), .val (.long y58), .second, .val (.long y59), .second, .val (.long y60), .second, .val (.ref b62), .unset, .unset, .unset, .unset, .unset, .unset, .unset] [])) := fun t k => P74 t (st75.trans k)
        have f78 : n0 ≤ T75.heap.size := (Nat.le_trans f76 K75.1)
        exact ⟨T75, _, T75.heap, ((0 : Int64) + (1 : Int64)), X75, rfl, N75, f78, ((Keep.refl T65.heap [b62]).trans K75 (allS (P := fun x => x ∈ ([b62] : List Addr) ∨ T65.heap.size ≤ x) (Or.inl (List.mem_of_getElem? (i := 0) rfl)) all0)), G0_75, G1_75, G2_75, G3_75, G4_75, P77⟩
    have P79 : Rch p e below (s₁.setTop (entryFrame m #[(.int p1), (.long q2), (.long q3), (.long q4), (.int p5)] maxLocals)) (T70.setTop (mkF m 58 #[.val (.int p1), .val (.long q2), .second, .val (.long q3), .second, .val (.long q4), .second, .val (.int p5), .val (.int (1 : Int32)), .val (.long y58), .second, .val (.long y59), .second, .val (.long y60), .second, .val (.ref b62), .unset, .unset, .unset, .unset, .unset, .unset, .unset] [(.long y58), (.ref b62)])) := fun t k => P70 t (by
      show Steps p.tables e below (T70.setTop (mkF m 48 #[.val (.int p1), .val (.long q2), .second, .val (.long q3), .second, .val (.long q4), .second, .val (.int p5), .val (.int (1 : Int32)), .val (.long y58), .second, .val (.long y59), .second, .val (.long y60), .second, .val (.ref b62), .unset, .unset, .unset, .unset, .unset, .unset, .unset] [])) t
      refine XS.iload X70.here hx rfl (hb hby at_48) rfl ?_
      show Steps p.tables e below (T70.setTop (mkF m 50 #[.val (.int p1), .val (.long q2), .second, .val (.long q3), .second, .val (.long q4), .second, .val (.int p5), .val (.int (1 : Int32)), .val (.long y58), .second, .val (.long y59), .second, .val (.long y60), .second, .val (.ref b62), .unset, .unset, .unset, .unset, .unset, .unset, .unset] [(.int (1 : Int32))])) t
      refine XS.iconst X70.here hx rfl (hb hby at_50) ?_
      show Steps p.tables e below (T70.setTop (mkF m 51 #[.val (.int p1), .val (.long q2), .second, .val (.long q3), .second, .val (.long q4), .second, .val (.int p5), .val (.int (1 : Int32)), .val (.long y58), .second, .val (.long y59), .second, .val (.long y60), .second, .val (.ref b62), .unset, .unset, .unset, .unset, .unset, .unset, .unset] [(.int (1 : Int32)), (.int (1 : Int32))])) t
      refine XS.icmpNo X70.here hx rfl (hb hby at_51) rfl (flt (by decide)).1 ?_
      show Steps p.tables e below (T70.setTop (mkF m 54 #[.val (.int p1), .val (.long q2), .second, .val (.long q3), .second, .val (.long q4), .second, .val (.int p5), .val (.int (1 : Int32)), .val (.long y58), .second, .val (.long y59), .second, .val (.long y60), .second, .val (.ref b62), .unset, .unset, .unset, .unset, .unset, .unset, .unset] [])) t
      refine XS.aload X70.here hx rfl (hb hby at_54) rfl rfl ?_
      show Steps p.tables e below (T70.setTop (mkF m 56 #[.val (.int p1), .val (.long q2), .second, .val (.long q3), .second, .val (.long q4), .second, .val (.int p5), .val (.int (1 : Int32)), .val (.long y58), .second, .val (.long y59), .second, .val (.long y60), .second, .val (.ref b62), .unset, .unset, .unset, .unset, .unset, .unset, .unset] [(.ref b62)])) t
      refine XS.lload X70.here hx rfl (hb hby at_56) rfl ?_
      exact k)
    obtain ⟨cq80, kq80, q80a, q80b, q80c⟩ := isOf hZ e70 (E_65.keep K70)
    obtain ⟨_, _, ⟨T80, L80, k80, n80⟩, -, X80, ⟨Lc80, hQ80, l80, y80, z80⟩, st80⟩ := X70.virtualBack hx (y := (⟨"com/example/usher/usher/server/Traffic", "frameAnswered", "(J)V"⟩ : MethodName)) (z := (⟨"com/example/usher/usher/server/Traffic", "frameAnswered", "(J)V"⟩ : MethodName)) hown (mvT hZ (hw _ (List.mem_of_getElem? (i := 28) rfl))) (mvT hZ (hw _ (List.mem_of_getElem? (i := 29) rfl))) (notFace_of_selects (args := #[]) (mvT hZ (hw _ (List.mem_of_getElem? (i := 31) rfl)))) (mvT hZ (hw _ (List.mem_of_getElem? (i := 31) rfl))) (mvT hZ (hw _ (List.mem_of_getElem? (i := 30) rfl))) (by decide) (backOf (W := 0) (rmA l Z a0 hw [] b62 y58 u__70 (0 : Int64) (9223372036854775807 : Int64) (0 : Int64) (0 : Int64) h70 n0 Z70 (E_65.keep K70) g_b62 G0_70 G1_70 G2_70 G3_70 G4_70) hZ (hw _ (List.mem_of_getElem? (i := 32) rfl)) (hw _ (List.mem_of_getElem? (i := 3) rfl)) (by decide) (by decide)) q80a q80c (g := (mkF m 58 #[.val (.int p1), .val (.long q2), .second, .val (.long q3), .second, .val (.long q4), .second, .val (.int p5), .val (.int (1 : Int32)), .val (.long y58), .second, .val (.long y59), .second, .val (.long y60), .second, .val (.ref b62), .unset, .unset, .unset, .unset, .unset, .unset, .unset] [(.long y58), (.ref b62)])) rfl (by rw [hml]; rfl) (Steps.refl _) (argsL := [(.long y58)]) (rest := []) (lenOf pd_3 rfl) rfl (by show 2 * 0 + _ ≤ _; exact Nat.le_of_eq rfl) (hb hby at_58) (fun _ _ => ⟨rfl, e70, (by decide : 1 + 0 ≤ _), (by decide : 8 + 0 ≤ _)⟩)
    dsimp only [Pt.U, Pt.locs, Pt.cells, Pt.slots] at X80 l80 y80 z80 st80 hQ80
    subst l80 y80 z80
    obtain ⟨rfl, N80q, K80, E_80, G0_80, G1_80, G2_80, G3_80, G4_80⟩ := hQ80
    have N80 := Fr.app N70 N80q
    have P81 : Rch p e below (s₁.setTop (entryFrame m #[(.int p1), (.long q2), (.long q3), (.long q4), (.int p5)] maxLocals)) (T80.setTop (mkF m 61 #[.val (.int p1), .val (.long q2), .second, .val (.long q3), .second, .val (.long q4), .second, .val (.int p5), .val (.int (1 : Int32)), .val (.long y58), .second, .val (.long y59), .second, .val (.long y60), .second, .val (.ref b62), .unset, .unset, .unset, .unset, .unset, .unset, .unset] [])) := fun t k => P79 t (st80.trans k)
    obtain ⟨x82, hx82⟩ : ∃ z : Int32, z = (p5 &&& (2 : Int32)) := ⟨_, rfl⟩
    have P83 : Rch p e below (s₁.setTop (entryFrame m #[(.int p1), (.long q2), (.long q3), (.long q4), (.int p5)] maxLocals)) (T80.setTop (mkF m 78 #[.val (.int p1), .val (.long q2), .second, .val (.long q3), .second, .val (.long q4), .second, .val (.int p5), .val (.int (1 : Int32)), .val (.long y58), .second, .val (.long y59), .second, .val (.long y60), .second, .val (.ref b62), .unset, .unset, .unset, .unset, .unset, .unset, .unset] [(.int x82)])) := fun t k => P81 t (by
      subst hx82
      show Steps p.tables e below (T80.setTop (mkF m 61 #[.val (.int p1), .val (.long q2), .second, .val (.long q3), .second, .val (.long q4), .second, .val (.int p5), .val (.int (1 : Int32)), .val (.long y58), .second, .val (.long y59), .second, .val (.long y60), .second, .val (.ref b62), .unset, .unset, .unset, .unset, .unset, .unset, .unset] [])) t
      refine XS.iload X80.here hx rfl (hb hby at_61) rfl ?_
      show Steps p.tables e below (T80.setTop (mkF m 63 #[.val (.int p1), .val (.long q2), .second, .val (.long q3), .second, .val (.long q4), .second, .val (.int p5), .val (.int (1 : Int32)), .val (.long y58), .second, .val (.long y59), .second, .val (.long y60), .second, .val (.ref b62), .unset, .unset, .unset, .unset, .unset, .unset, .unset] [(.int (1 : Int32))])) t
      refine XS.iconst X80.here hx rfl (hb hby at_63) ?_
      show Steps p.tables e below (T80.setTop (mkF m 64 #[.val (.int p1), .val (.long q2), .second, .val (.long q3), .second, .val (.long q4), .second, .val (.int p5), .val (.int (1 : Int32)), .val (.long y58), .second, .val (.long y59), .second, .val (.long y60), .second, .val (.ref b62), .unset, .unset, .unset, .unset, .unset, .unset, .unset] [(.int (2 : Int32)), (.int (1 : Int32))])) t
      refine XS.icmpYes X80.here hx rfl (pc0 := 64) (pc' := 74) rfl (hb hby at_64) rfl (tlt (by decide)).1 (by decide) (by decide) ?_
      show Steps p.tables e below (T80.setTop (mkF m 74 #[.val (.int p1), .val (.long q2), .second, .val (.long q3), .second, .val (.long q4), .second, .val (.int p5), .val (.int (1 : Int32)), .val (.long y58), .second, .val (.long y59), .second, .val (.long y60), .second, .val (.ref b62), .unset, .unset, .unset, .unset, .unset, .unset, .unset] [])) t
      refine XS.iload X80.here hx rfl (hb hby at_74) rfl ?_
      show Steps p.tables e below (T80.setTop (mkF m 76 #[.val (.int p1), .val (.long q2), .second, .val (.long q3), .second, .val (.long q4), .second, .val (.int p5), .val (.int (1 : Int32)), .val (.long y58), .second, .val (.long y59), .second, .val (.long y60), .second, .val (.ref b62), .unset, .unset, .unset, .unset, .unset, .unset, .unset] [(.int p5)])) t
      refine XS.iconst X80.here hx rfl (hb hby at_76) ?_
      show Steps p.tables e below (T80.setTop (mkF m 77 #[.val (.int p1), .val (.long q2), .second, .val (.long q3), .second, .val (.long q4), .second, .val (.int p5), .val (.int (1 : Int32)), .val (.long y58), .second, .val (.long y59), .second, .val (.long y60), .second, .val (.ref b62), .unset, .unset, .unset, .unset, .unset, .unset, .unset] [(.int (2 : Int32)), (.int p5)])) t
      refine XS.iand X80.here hx rfl (hb hby at_77) rfl ?_
      exact k)
    obtain ⟨T84, L84, h84, u__84, X84, e84, N84, Z84, K84, G0_84, G1_84, G2_84, G3_84, G4_84, P84⟩ : ∃ (T84 : State) (L84 : List Loc) (h84 : Heap) (u__84 : Int64), Stand p l e room_1 s m #[(.int p1), (.long q2), (.long q3), (.long q4), (.int p5)] below meth c T84 L84 1 8 ∧ T84.heap = h84 ∧ Fr n0 L84 ∧ n0 ≤ h84.size ∧ Keep T80.heap h84 [b62] ∧ (Fld Z h84 b62 "com/example/usher/usher/server/Traffic" "sent" "J" (.long u__84)) ∧ (Fld Z h84 b62 "com/example/usher/usher/server/Traffic" "answered" "J" (.long ((0 : Int64) + (1 : Int64)))) ∧ (Fld Z h84 b62 "com/example/usher/usher/server/Traffic" "latencyMin" "J" (.long (own_min (9223372036854775807 : Int64) y58))) ∧ (Fld Z h84 b62 "com/example/usher/usher/server/Traffic" "latencyMax" "J" (.long (own_max (0 : Int64) y58))) ∧ (Fld Z h84 b62 "com/example/usher/usher/server/Traffic" "latencyTotal" "J" (.long ((0 : Int64) + y58))) ∧ Rch p e below (s₁.setTop (entryFrame m #[(.int p1), (.long q2), (.long q3), (.long q4), (.int p5)] maxLocals)) (T84.setTop (mkF m 86 #[.val (.int p1), .val (.long q2), .second, .val (.long q3), .second, .val (.long q4), .second, .val (.int p5), .val (.int (1 : Int32)), .val (.long y58), .second, .val (.long y59), .second, .val (.long y60), .second, .val (.ref b62), .unset, .unset, .unset, .unset, .unset, .unset, .unset] [])) := by
      by_cases c85 : x82 = (0 : Int32)
      · have P86 : Rch p e below (s₁.setTop (entryFrame m #[(.int p1), (.long q2), (.long q3), (.long q4), (.int p5)] maxLocals)) (T80.setTop (mkF m 86 #[.val (.int p1), .val (.long q2), .second, .val (.long q3), .second, .val (.long q4), .second, .val (.int p5), .val (.int (1 : Int32)), .val (.long y58), .second, .val (.long y59), .second, .val (.long y60), .second, .val (.ref b62), .unset, .unset, .unset, .unset, .unset, .unset, .unset] [])) := fun t k => P83 t (by
          show Steps p.tables e below (T80.setTop (mkF m 78 #[.val (.int p1), .val (.long q2), .second, .val (.long q3), .second, .val (.long q4), .second, .val (.int p5), .val (.int (1 : Int32)), .val (.long y58), .second, .val (.long y59), .second, .val (.long y60), .second, .val (.ref b62), .unset, .unset, .unset, .unset, .unset, .unset, .unset] [(.int x82)])) t
          refine XS.ifYes X80.here hx rfl (pc0 := 78) (pc' := 86) rfl (hb hby at_78) rfl ((if0 _ _).trans (teq c85).1) (by decide) (by decide) ?_
          exact k)
        have f87 : n0 ≤ T80.heap.size := (Nat.le_trans Z70 K80.1)
        exact ⟨T80, _, T80.heap, (u__70 + (1 : Int64)), X80, rfl, N80, f87, (Keep.refl T80.heap [b62]), G0_80, G1_80, G2_80, G3_80, G4_80, P86⟩
      · have P88 : Rch p e below (s₁.setTop (entryFrame m #[(.int p1), (.long q2), (.long q3), (.long q4), (.int p5)] maxLocals)) (T80.setTop (mkF m 83 #[.val (.int p1), .val (.long q2), .second, .val (.long q3), .second, .val (.long q4), .second, .val (.int p5), .val (.int (1 : Int32)), .val (.long y58), .second, .val (.long y59), .second, .val (.long y60), .second, .val (.ref b62), .unset, .unset, .unset, .unset, .unset, .unset, .unset] [(.ref b62)])) := fun t k => P83 t (by
          show Steps p.tables e below (T80.setTop (mkF m 78 #[.val (.int p1), .val (.long q2), .second, .val (.long q3), .second, .val (.long q4), .second, .val (.int p5), .val (.int (1 : Int32)), .val (.long y58), .second, .val (.long y59), .second, .val (.long y60), .second, .val (.ref b62), .unset, .unset, .unset, .unset, .unset, .unset, .unset] [(.int x82)])) t
          refine XS.ifNo X80.here hx rfl (hb hby at_78) rfl ((if0 _ _).trans (feq c85).1) ?_
          show Steps p.tables e below (T80.setTop (mkF m 81 #[.val (.int p1), .val (.long q2), .second, .val (.long q3), .second, .val (.long q4), .second, .val (.int p5), .val (.int (1 : Int32)), .val (.long y58), .second, .val (.long y59), .second, .val (.long y60), .second, .val (.ref b62), .unset, .unset, .unset, .unset, .unset, .unset, .unset] [])) t
          refine XS.aload X80.here hx rfl (hb hby at_81) rfl rfl ?_
          exact k)
        have f90 : n0 ≤ T80.heap.size := (Nat.le_trans Z70 K80.1)
        obtain ⟨cq89, kq89, q89a, q89b, q89c⟩ := isOf hZ rfl E_80
        obtain ⟨_, _, ⟨T89, L89, k89, n89⟩, -, X89, ⟨Lc89, hQ89, l89, y89, z89⟩, st89⟩ := X80.virtualBack hx (y := (⟨"com/example/usher/usher/server/Traffic", "notificationSent", "()V"⟩ : MethodName)) (z := (⟨"com/example/usher/usher/server/Traffic", "notificationSent", "()V"⟩ : MethodName)) hown (mvT hZ (hw _ (List.mem_of_getElem? (i := 13) rfl))) (mvT hZ (hw _ (List.mem_of_getElem? (i := 14) rfl))) (notFace_of_selects (args := #[]) (mvT hZ (hw _ (List.mem_of_getElem? (i := 16) rfl)))) (mvT hZ (hw _ (List.mem_of_getElem? (i := 16) rfl))) (mvT hZ (hw _ (List.mem_of_getElem? (i := 15) rfl))) (by decide) (backOf (W := 0) (rmN l Z a0 hw [] b62 (u__70 + (1 : Int64)) ((0 : Int64) + (1 : Int64)) (own_min (9223372036854775807 : Int64) y58) (own_max (0 : Int64) y58) ((0 : Int64) + y58) T80.heap n0 f90 E_80 g_b62 G0_80 G1_80 G2_80 G3_80 G4_80) hZ (hw _ (List.mem_of_getElem? (i := 17) rfl)) (hw _ (List.mem_of_getElem? (i := 3) rfl)) (by decide) (by decide)) q89a q89c (g := (mkF m 83 #[.val (.int p1), .val (.long q2), .second, .val (.long q3), .second, .val (.long q4), .second, .val (.int p5), .val (.int (1 : Int32)), .val (.long y58), .second, .val (.long y59), .second, .val (.long y60), .second, .val (.ref b62), .unset, .unset, .unset, .unset, .unset, .unset, .unset] [(.ref b62)])) rfl (by rw [hml]; rfl) (Steps.refl _) (argsL := []) (rest := []) (lenOf pd_1 rfl) rfl (by show 2 * 0 + _ ≤ _; exact Nat.le_of_eq rfl) (hb hby at_83) (fun _ _ => ⟨rfl, rfl, (by decide : 1 + 0 ≤ _), (by decide : 8 + 0 ≤ _)⟩)
        dsimp only [Pt.U, Pt.locs, Pt.cells, Pt.slots] at X89 l89 y89 z89 st89 hQ89
        subst l89 y89 z89
        obtain ⟨rfl, N89q, K89, E_89, G0_89, G1_89, G2_89, G3_89, G4_89⟩ := hQ89
        have N89 := Fr.app N80 N89q
        have P91 : Rch p e below (s₁.setTop (entryFrame m #[(.int p1), (.long q2), (.long q3), (.long q4), (.int p5)] maxLocals)) (T89.setTop (mkF m 86 #[.val (.int p1), .val (.long q2), .second, .val (.long q3), .second, .val (.long q4), .second, .val (.int p5), .val (.int (1 : Int32)), .val (.long y58), .second, .val (.long y59), .second, .val (.long y60), .second, .val (.ref b62), .unset, .unset, .unset, .unset, .unset, .unset, .unset] [])) := fun t k => P88 t (st89.trans k)
        have f92 : n0 ≤ T89.heap.size := (Nat.le_trans f90 K89.1)
        exact ⟨T89, _, T89.heap, ((u__70 + (1 : Int64)) + (1 : Int64)), X89, rfl, N89, f92, ((Keep.refl T80.heap [b62]).trans K89 (allS (P := fun x => x ∈ ([b62] : List Addr) ∨ T80.heap.size ≤ x) (Or.inl (List.mem_of_getElem? (i := 0) rfl)) all0)), G0_89, G1_89, G2_89, G3_89, G4_89, P91⟩
    have P93 : Rch p e below (s₁.setTop (entryFrame m #[(.int p1), (.long q2), (.long q3), (.long q4), (.int p5)] maxLocals)) (T84.setTop (mkF m 101 #[.val (.int p1), .val (.long q2), .second, .val (.long q3), .second, .val (.long q4), .second, .val (.int p5), .val (.int (1 : Int32)), .val (.long y58), .second, .val (.long y59), .second, .val (.long y60), .second, .val (.ref b62), .unset, .unset, .unset, .unset, .unset, .unset, .unset] [(.ref b62)])) := fun t k => P84 t (by
      show Steps p.tables e below (T84.setTop (mkF m 86 #[.val (.int p1), .val (.long q2), .second, .val (.long q3), .second, .val (.long q4), .second, .val (.int p5), .val (.int (1 : Int32)), .val (.long y58), .second, .val (.long y59), .second, .val (.long y60), .second, .val (.ref b62), .unset, .unset, .unset, .unset, .unset, .unset, .unset] [])) t
      refine XS.iload X84.here hx rfl (hb hby at_86) rfl ?_
      show Steps p.tables e below (T84.setTop (mkF m 88 #[.val (.int p1), .val (.long q2), .second, .val (.long q3), .second, .val (.long q4), .second, .val (.int p5), .val (.int (1 : Int32)), .val (.long y58), .second, .val (.long y59), .second, .val (.long y60), .second, .val (.ref b62), .unset, .unset, .unset, .unset, .unset, .unset, .unset] [(.int (1 : Int32))])) t
      refine XS.iconst X84.here hx rfl (hb hby at_88) ?_
      show Steps p.tables e below (T84.setTop (mkF m 89 #[.val (.int p1), .val (.long q2), .second, .val (.long q3), .second, .val (.long q4), .second, .val (.int p5), .val (.int (1 : Int32)), .val (.long y58), .second, .val (.long y59), .second, .val (.long y60), .second, .val (.ref b62), .unset, .unset, .unset, .unset, .unset, .unset, .unset] [(.int (3 : Int32)), (.int (1 : Int32))])) t
      refine XS.icmpYes X84.here hx rfl (pc0 := 89) (pc' := 99) rfl (hb hby at_89) rfl (tlt (by decide)).1 (by decide) (by decide) ?_
      show Steps p.tables e below (T84.setTop (mkF m 99 #[.val (.int p1), .val (.long q2), .second, .val (.long q3), .second, .val (.long q4), .second, .val (.int p5), .val (.int (1 : Int32)), .val (.long y58), .second, .val (.long y59), .second, .val (.long y60), .second, .val (.ref b62), .unset, .unset, .unset, .unset, .unset, .unset, .unset] [])) t
      refine XS.aload X84.here hx rfl (hb hby at_99) rfl rfl ?_
      exact k)
    obtain ⟨cq94, kq94, q94a, q94b, q94c⟩ := isOf hZ e84 (E_80.keep K84)
    obtain ⟨_, _, ⟨T94, L94, k94, n94⟩, -, X94, ⟨Lc94, hQ94, l94, y94, z94⟩, st94⟩ := X84.virtualBack hx (y := (⟨"com/example/usher/usher/server/Traffic", "latencyMillis", "()[J"⟩ : MethodName)) (z := (⟨"com/example/usher/usher/server/Traffic", "latencyMillis", "()[J"⟩ : MethodName)) hown (mvT hZ (hw _ (List.mem_of_getElem? (i := 20) rfl))) (mvT hZ (hw _ (List.mem_of_getElem? (i := 21) rfl))) (notFace_of_selects (args := #[]) (mvT hZ (hw _ (List.mem_of_getElem? (i := 23) rfl)))) (mvT hZ (hw _ (List.mem_of_getElem? (i := 23) rfl))) (mvT hZ (hw _ (List.mem_of_getElem? (i := 22) rfl))) (by decide) (backOf (W := 0) (rmL1 l Z a0 hw [] b62 ((0 : Int64) + (1 : Int64)) (own_min (9223372036854775807 : Int64) y58) (own_max (0 : Int64) y58) ((0 : Int64) + y58) h84 n0 Z84 G1_84 G2_84 G3_84 G4_84 (by decide)) hZ (hw _ (List.mem_of_getElem? (i := 24) rfl)) (hw _ (List.mem_of_getElem? (i := 3) rfl)) (by decide) (by decide)) q94a q94c (g := (mkF m 101 #[.val (.int p1), .val (.long q2), .second, .val (.long q3), .second, .val (.long q4), .second, .val (.int p5), .val (.int (1 : Int32)), .val (.long y58), .second, .val (.long y59), .second, .val (.long y60), .second, .val (.ref b62), .unset, .unset, .unset, .unset, .unset, .unset, .unset] [(.ref b62)])) rfl (by rw [hml]; rfl) (Steps.refl _) (argsL := []) (rest := []) (lenOf pd_2 rfl) rfl (by show 2 * 0 + _ ≤ _; exact Nat.le_of_eq rfl) (hb hby at_101) (fun _ _ => ⟨rfl, e84, (by decide : 1 + 1 ≤ _), (by decide : 8 + 3 ≤ _)⟩)
    dsimp only [Pt.U, Pt.locs, Pt.cells, Pt.slots] at X94 l94 y94 z94 st94 hQ94
    subst l94 y94 z94
    have f95 : Keep h0 h84 [] := ((((((Keep.refl h0 []).ext E62).trans K65 (allS (P := fun x => x ∈ [] ∨ h0.size ≤ x) (Or.inr sz_b62) all0)).trans K70 (allS (P := fun x => x ∈ [] ∨ h0.size ≤ x) (Or.inr sz_b62) all0)).trans K80 (allS (P := fun x => x ∈ [] ∨ h0.size ≤ x) (Or.inr sz_b62) all0)).trans K84 (allS (P := fun x => x ∈ [] ∨ h0.size ≤ x) (Or.inr sz_b62) all0))
    obtain ⟨b__94, kb__94, rfl, N94q, K94, Fz_94, V_94⟩ := hQ94
    have N94 := Fr.app N84 N94q
    have g_b__94 : n0 ≤ b__94 := Nat.le_trans Z84 Fz_94
    have sz_b__94 : h0.size ≤ b__94 := Nat.le_trans f95.1 Fz_94
    have ne_b62_b__94 : b62 ≠ b__94 := Nat.ne_of_lt (Nat.lt_of_lt_of_le ((((A62.keep K65).keep K70).keep K80).keep K84).lt Fz_94)
    have P96 : Rch p e below (s₁.setTop (entryFrame m #[(.int p1), (.long q2), (.long q3), (.long q4), (.int p5)] maxLocals)) (T94.setTop (mkF m 104 #[.val (.int p1), .val (.long q2), .second, .val (.long q3), .second, .val (.long q4), .second, .val (.int p5), .val (.int (1 : Int32)), .val (.long y58), .second, .val (.long y59), .second, .val (.long y60), .second, .val (.ref b62), .unset, .unset, .unset, .unset, .unset, .unset, .unset] [(.ref b__94)])) := fun t k => P93 t (st94.trans k)
    have P97 : Rch p e below (s₁.setTop (entryFrame m #[(.int p1), (.long q2), (.long q3), (.long q4), (.int p5)] maxLocals)) (T94.setTop (mkF m 113 #[.val (.int p1), .val (.long q2), .second, .val (.long q3), .second, .val (.long q4), .second, .val (.int p5), .val (.int (1 : Int32)), .val (.long y58), .second, .val (.long y59), .second, .val (.long y60), .second, .val (.ref b62), .val (.ref b__94), .unset, .unset, .unset, .unset, .unset, .unset] [(.ref b__94)])) := fun t k => P96 t (by
      show Steps p.tables e below (T94.setTop (mkF m 104 #[.val (.int p1), .val (.long q2), .second, .val (.long q3), .second, .val (.long q4), .second, .val (.int p5), .val (.int (1 : Int32)), .val (.long y58), .second, .val (.long y59), .second, .val (.long y60), .second, .val (.ref b62), .unset, .unset, .unset, .unset, .unset, .unset, .unset] [(.ref b__94)])) t
      refine XS.astore X94.here hx rfl (hb hby at_104) rfl rfl (l' := #[.val (.int p1), .val (.long q2), .second, .val (.long q3), .second, .val (.long q4), .second, .val (.int p5), .val (.int (1 : Int32)), .val (.long y58), .second, .val (.long y59), .second, .val (.long y60), .second, .val (.ref b62), .val (.ref b__94), .unset, .unset, .unset, .unset, .unset, .unset]) rfl ?_
      show Steps p.tables e below (T94.setTop (mkF m 106 #[.val (.int p1), .val (.long q2), .second, .val (.long q3), .second, .val (.long q4), .second, .val (.int p5), .val (.int (1 : Int32)), .val (.long y58), .second, .val (.long y59), .second, .val (.long y60), .second, .val (.ref b62), .val (.ref b__94), .unset, .unset, .unset, .unset, .unset, .unset] [])) t
      refine XS.aload X94.here hx rfl (hb hby at_106) rfl rfl ?_
      show Steps p.tables e below (T94.setTop (mkF m 108 #[.val (.int p1), .val (.long q2), .second, .val (.long q3), .second, .val (.long q4), .second, .val (.int p5), .val (.int (1 : Int32)), .val (.long y58), .second, .val (.long y59), .second, .val (.long y60), .second, .val (.ref b62), .val (.ref b__94), .unset, .unset, .unset, .unset, .unset, .unset] [(.ref b__94)])) t
      refine XS.ifnullNo X94.here hx rfl (hb hby at_108) rfl ?_
      show Steps p.tables e below (T94.setTop (mkF m 111 #[.val (.int p1), .val (.long q2), .second, .val (.long q3), .second, .val (.long q4), .second, .val (.int p5), .val (.int (1 : Int32)), .val (.long y58), .second, .val (.long y59), .second, .val (.long y60), .second, .val (.ref b62), .val (.ref b__94), .unset, .unset, .unset, .unset, .unset, .unset] [])) t
      refine XS.aload X94.here hx rfl (hb hby at_111) rfl rfl ?_
      exact k)
    have V_o98 := V_94
    obtain ⟨co98, Aro98, qo98, So98, Mo98, Ho98, Go98⟩ := V_o98
    have P99 : Rch p e below (s₁.setTop (entryFrame m #[(.int p1), (.long q2), (.long q3), (.long q4), (.int p5)] maxLocals)) (T94.setTop (mkF m 114 #[.val (.int p1), .val (.long q2), .second, .val (.long q3), .second, .val (.long q4), .second, .val (.int p5), .val (.int (1 : Int32)), .val (.long y58), .second, .val (.long y59), .second, .val (.long y60), .second, .val (.ref b62), .val (.ref b__94), .unset, .unset, .unset, .unset, .unset, .unset] [(.int (3 : Int32))])) := fun t k => P97 t (by
      refine X94.arraylength hx Aro98.1 (State.isArrayOf_alike hZ.alike Aro98.2.1) (g := (mkF m 113 #[.val (.int p1), .val (.long q2), .second, .val (.long q3), .second, .val (.long q4), .second, .val (.int p5), .val (.int (1 : Int32)), .val (.long y58), .second, .val (.long y59), .second, .val (.long y60), .second, .val (.ref b62), .val (.ref b__94), .unset, .unset, .unset, .unset, .unset, .unset] [(.ref b__94)])) rfl rfl (hb hby at_113) _ ?_
      rw [len_of So98 Mo98]; exact k)
    obtain ⟨y100, hy100⟩ : ∃ z : Int64, z = (y58 / (1000000 : Int64)) := ⟨_, rfl⟩
    have P101 : Rch p e below (s₁.setTop (entryFrame m #[(.int p1), (.long q2), (.long q3), (.long q4), (.int p5)] maxLocals)) (T94.setTop (mkF m 277 #[.val (.int p1), .val (.long q2), .second, .val (.long q3), .second, .val (.long q4), .second, .val (.int p5), .val (.int (1 : Int32)), .val (.long y58), .second, .val (.long y59), .second, .val (.long y60), .second, .val (.ref b62), .val (.ref b__94), .val (.long y100), .second, .val (.long y100), .second, .val (.long y100), .second] [(.int (0 : Int32)), (.ref b__94)])) := fun t k => P99 t (by
      subst hy100
      show Steps p.tables e below (T94.setTop (mkF m 114 #[.val (.int p1), .val (.long q2), .second, .val (.long q3), .second, .val (.long q4), .second, .val (.int p5), .val (.int (1 : Int32)), .val (.long y58), .second, .val (.long y59), .second, .val (.long y60), .second, .val (.ref b62), .val (.ref b__94), .unset, .unset, .unset, .unset, .unset, .unset] [(.int (3 : Int32))])) t
      refine XS.iconst X94.here hx rfl (hb hby at_114) ?_
      show Steps p.tables e below (T94.setTop (mkF m 115 #[.val (.int p1), .val (.long q2), .second, .val (.long q3), .second, .val (.long q4), .second, .val (.int p5), .val (.int (1 : Int32)), .val (.long y58), .second, .val (.long y59), .second, .val (.long y60), .second, .val (.ref b62), .val (.ref b__94), .unset, .unset, .unset, .unset, .unset, .unset] [(.int (3 : Int32)), (.int (3 : Int32))])) t
      refine XS.icmpYes X94.here hx rfl (pc0 := 115) (pc' := 120) rfl (hb hby at_115) rfl (teq (by decide)).1 (by decide) (by decide) ?_
      show Steps p.tables e below (T94.setTop (mkF m 120 #[.val (.int p1), .val (.long q2), .second, .val (.long q3), .second, .val (.long q4), .second, .val (.int p5), .val (.int (1 : Int32)), .val (.long y58), .second, .val (.long y59), .second, .val (.long y60), .second, .val (.ref b62), .val (.ref b__94), .unset, .unset, .unset, .unset, .unset, .unset] [])) t
      refine XS.iload X94.here hx rfl (hb hby at_120) rfl ?_
      show Steps p.tables e below (T94.setTop (mkF m 122 #[.val (.int p1), .val (.long q2), .second, .val (.long q3), .second, .val (.long q4), .second, .val (.int p5), .val (.int (1 : Int32)), .val (.long y58), .second, .val (.long y59), .second, .val (.long y60), .second, .val (.ref b62), .val (.ref b__94), .unset, .unset, .unset, .unset, .unset, .unset] [(.int (1 : Int32))])) t
      refine XS.ifYes X94.here hx rfl (pc0 := 122) (pc' := 137) rfl (hb hby at_122) rfl ((if0 _ _).trans (feq (by decide)).2) (by decide) (by decide) ?_
      show Steps p.tables e below (T94.setTop (mkF m 137 #[.val (.int p1), .val (.long q2), .second, .val (.long q3), .second, .val (.long q4), .second, .val (.int p5), .val (.int (1 : Int32)), .val (.long y58), .second, .val (.long y59), .second, .val (.long y60), .second, .val (.ref b62), .val (.ref b__94), .unset, .unset, .unset, .unset, .unset, .unset] [])) t
      refine XS.iload X94.here hx rfl (hb hby at_137) rfl ?_
      show Steps p.tables e below (T94.setTop (mkF m 139 #[.val (.int p1), .val (.long q2), .second, .val (.long q3), .second, .val (.long q4), .second, .val (.int p5), .val (.int (1 : Int32)), .val (.long y58), .second, .val (.long y59), .second, .val (.long y60), .second, .val (.ref b62), .val (.ref b__94), .unset, .unset, .unset, .unset, .unset, .unset] [(.int (1 : Int32))])) t
      refine XS.iconst X94.here hx rfl (hb hby at_139) ?_
      show Steps p.tables e below (T94.setTop (mkF m 140 #[.val (.int p1), .val (.long q2), .second, .val (.long q3), .second, .val (.long q4), .second, .val (.int p5), .val (.int (1 : Int32)), .val (.long y58), .second, .val (.long y59), .second, .val (.long y60), .second, .val (.ref b62), .val (.ref b__94), .unset, .unset, .unset, .unset, .unset, .unset] [(.int (1 : Int32)), (.int (1 : Int32))])) t
      refine XS.icmpNo X94.here hx rfl (hb hby at_140) rfl (teq (by decide)).2 ?_
      show Steps p.tables e below (T94.setTop (mkF m 143 #[.val (.int p1), .val (.long q2), .second, .val (.long q3), .second, .val (.long q4), .second, .val (.int p5), .val (.int (1 : Int32)), .val (.long y58), .second, .val (.long y59), .second, .val (.long y60), .second, .val (.ref b62), .val (.ref b__94), .unset, .unset, .unset, .unset, .unset, .unset] [])) t
      refine XS.lload X94.here hx rfl (hb hby at_143) rfl ?_
      show Steps p.tables e below (T94.setTop (mkF m 145 #[.val (.int p1), .val (.long q2), .second, .val (.long q3), .second, .val (.long q4), .second, .val (.int p5), .val (.int (1 : Int32)), .val (.long y58), .second, .val (.long y59), .second, .val (.long y60), .second, .val (.ref b62), .val (.ref b__94), .unset, .unset, .unset, .unset, .unset, .unset] [(.long y58)])) t
      refine XS.lstore X94.here hx rfl (hb hby at_145) rfl (l' := #[.val (.int p1), .val (.long q2), .second, .val (.long q3), .second, .val (.long q4), .second, .val (.int p5), .val (.int (1 : Int32)), .val (.long y58), .second, .val (.long y59), .second, .val (.long y60), .second, .val (.ref b62), .val (.ref b__94), .val (.long y58), .second, .unset, .unset, .unset, .unset]) rfl ?_
      show Steps p.tables e below (T94.setTop (mkF m 147 #[.val (.int p1), .val (.long q2), .second, .val (.long q3), .second, .val (.long q4), .second, .val (.int p5), .val (.int (1 : Int32)), .val (.long y58), .second, .val (.long y59), .second, .val (.long y60), .second, .val (.ref b62), .val (.ref b__94), .val (.long y58), .second, .unset, .unset, .unset, .unset] [])) t
      refine XS.lload X94.here hx rfl (hb hby at_147) rfl ?_
      show Steps p.tables e below (T94.setTop (mkF m 149 #[.val (.int p1), .val (.long q2), .second, .val (.long q3), .second, .val (.long q4), .second, .val (.int p5), .val (.int (1 : Int32)), .val (.long y58), .second, .val (.long y59), .second, .val (.long y60), .second, .val (.ref b62), .val (.ref b__94), .val (.long y58), .second, .unset, .unset, .unset, .unset] [(.long y58)])) t
      refine XS.lstore X94.here hx rfl (hb hby at_149) rfl (l' := #[.val (.int p1), .val (.long q2), .second, .val (.long q3), .second, .val (.long q4), .second, .val (.int p5), .val (.int (1 : Int32)), .val (.long y58), .second, .val (.long y59), .second, .val (.long y60), .second, .val (.ref b62), .val (.ref b__94), .val (.long y58), .second, .unset, .unset, .val (.long y58), .second]) rfl ?_
      show Steps p.tables e below (T94.setTop (mkF m 151 #[.val (.int p1), .val (.long q2), .second, .val (.long q3), .second, .val (.long q4), .second, .val (.int p5), .val (.int (1 : Int32)), .val (.long y58), .second, .val (.long y59), .second, .val (.long y60), .second, .val (.ref b62), .val (.ref b__94), .val (.long y58), .second, .unset, .unset, .val (.long y58), .second] [])) t
      refine XS.lload X94.here hx rfl (hb hby at_151) rfl ?_
      show Steps p.tables e below (T94.setTop (mkF m 153 #[.val (.int p1), .val (.long q2), .second, .val (.long q3), .second, .val (.long q4), .second, .val (.int p5), .val (.int (1 : Int32)), .val (.long y58), .second, .val (.long y59), .second, .val (.long y60), .second, .val (.ref b62), .val (.ref b__94), .val (.long y58), .second, .unset, .unset, .val (.long y58), .second] [(.long y58)])) t
      refine X94.ldc2Long hx hown (mvT hZ (hw _ (List.mem_of_getElem? (i := 46) rfl))) (g := (mkF m 153 #[.val (.int p1), .val (.long q2), .second, .val (.long q3), .second, .val (.long q4), .second, .val (.int p5), .val (.int (1 : Int32)), .val (.long y58), .second, .val (.long y59), .second, .val (.long y60), .second, .val (.ref b62), .val (.ref b__94), .val (.long y58), .second, .unset, .unset, .val (.long y58), .second] [(.long y58)])) rfl (hb hby at_153) _ ?_
      show Steps p.tables e below (T94.setTop (mkF m 156 #[.val (.int p1), .val (.long q2), .second, .val (.long q3), .second, .val (.long q4), .second, .val (.int p5), .val (.int (1 : Int32)), .val (.long y58), .second, .val (.long y59), .second, .val (.long y60), .second, .val (.ref b62), .val (.ref b__94), .val (.long y58), .second, .unset, .unset, .val (.long y58), .second] [(.long (1000000 : Int64)), (.long y58)])) t
      refine XS.ldiv X94.here hx rfl (hb hby at_156) rfl (by decide) ?_
      show Steps p.tables e below (T94.setTop (mkF m 157 #[.val (.int p1), .val (.long q2), .second, .val (.long q3), .second, .val (.long q4), .second, .val (.int p5), .val (.int (1 : Int32)), .val (.long y58), .second, .val (.long y59), .second, .val (.long y60), .second, .val (.ref b62), .val (.ref b__94), .val (.long y58), .second, .unset, .unset, .val (.long y58), .second] [(.long (y58 / (1000000 : Int64)))])) t
      refine XS.lstore X94.here hx rfl (hb hby at_157) rfl (l' := #[.val (.int p1), .val (.long q2), .second, .val (.long q3), .second, .val (.long q4), .second, .val (.int p5), .val (.int (1 : Int32)), .val (.long y58), .second, .val (.long y59), .second, .val (.long y60), .second, .val (.ref b62), .val (.ref b__94), .val (.long y58), .second, .val (.long (y58 / (1000000 : Int64))), .second, .val (.long y58), .second]) rfl ?_
      show Steps p.tables e below (T94.setTop (mkF m 159 #[.val (.int p1), .val (.long q2), .second, .val (.long q3), .second, .val (.long q4), .second, .val (.int p5), .val (.int (1 : Int32)), .val (.long y58), .second, .val (.long y59), .second, .val (.long y60), .second, .val (.ref b62), .val (.ref b__94), .val (.long y58), .second, .val (.long (y58 / (1000000 : Int64))), .second, .val (.long y58), .second] [])) t
      refine XS.lload X94.here hx rfl (hb hby at_159) rfl ?_
      show Steps p.tables e below (T94.setTop (mkF m 161 #[.val (.int p1), .val (.long q2), .second, .val (.long q3), .second, .val (.long q4), .second, .val (.int p5), .val (.int (1 : Int32)), .val (.long y58), .second, .val (.long y59), .second, .val (.long y60), .second, .val (.ref b62), .val (.ref b__94), .val (.long y58), .second, .val (.long (y58 / (1000000 : Int64))), .second, .val (.long y58), .second] [(.long y58)])) t
      refine X94.ldc2Long hx hown (mvT hZ (hw _ (List.mem_of_getElem? (i := 46) rfl))) (g := (mkF m 161 #[.val (.int p1), .val (.long q2), .second, .val (.long q3), .second, .val (.long q4), .second, .val (.int p5), .val (.int (1 : Int32)), .val (.long y58), .second, .val (.long y59), .second, .val (.long y60), .second, .val (.ref b62), .val (.ref b__94), .val (.long y58), .second, .val (.long (y58 / (1000000 : Int64))), .second, .val (.long y58), .second] [(.long y58)])) rfl (hb hby at_161) _ ?_
      show Steps p.tables e below (T94.setTop (mkF m 164 #[.val (.int p1), .val (.long q2), .second, .val (.long q3), .second, .val (.long q4), .second, .val (.int p5), .val (.int (1 : Int32)), .val (.long y58), .second, .val (.long y59), .second, .val (.long y60), .second, .val (.ref b62), .val (.ref b__94), .val (.long y58), .second, .val (.long (y58 / (1000000 : Int64))), .second, .val (.long y58), .second] [(.long (1000000 : Int64)), (.long y58)])) t
      refine XS.ldiv X94.here hx rfl (hb hby at_164) rfl (by decide) ?_
      show Steps p.tables e below (T94.setTop (mkF m 165 #[.val (.int p1), .val (.long q2), .second, .val (.long q3), .second, .val (.long q4), .second, .val (.int p5), .val (.int (1 : Int32)), .val (.long y58), .second, .val (.long y59), .second, .val (.long y60), .second, .val (.ref b62), .val (.ref b__94), .val (.long y58), .second, .val (.long (y58 / (1000000 : Int64))), .second, .val (.long y58), .second] [(.long (y58 / (1000000 : Int64)))])) t
      refine XS.lstore X94.here hx rfl (hb hby at_165) rfl (l' := #[.val (.int p1), .val (.long q2), .second, .val (.long q3), .second, .val (.long q4), .second, .val (.int p5), .val (.int (1 : Int32)), .val (.long y58), .second, .val (.long y59), .second, .val (.long y60), .second, .val (.ref b62), .val (.ref b__94), .val (.long (y58 / (1000000 : Int64))), .second, .val (.long (y58 / (1000000 : Int64))), .second, .val (.long y58), .second]) rfl ?_
      show Steps p.tables e below (T94.setTop (mkF m 167 #[.val (.int p1), .val (.long q2), .second, .val (.long q3), .second, .val (.long q4), .second, .val (.int p5), .val (.int (1 : Int32)), .val (.long y58), .second, .val (.long y59), .second, .val (.long y60), .second, .val (.ref b62), .val (.ref b__94), .val (.long (y58 / (1000000 : Int64))), .second, .val (.long (y58 / (1000000 : Int64))), .second, .val (.long y58), .second] [])) t
      refine XS.lload X94.here hx rfl (hb hby at_167) rfl ?_
      show Steps p.tables e below (T94.setTop (mkF m 169 #[.val (.int p1), .val (.long q2), .second, .val (.long q3), .second, .val (.long q4), .second, .val (.int p5), .val (.int (1 : Int32)), .val (.long y58), .second, .val (.long y59), .second, .val (.long y60), .second, .val (.ref b62), .val (.ref b__94), .val (.long (y58 / (1000000 : Int64))), .second, .val (.long (y58 / (1000000 : Int64))), .second, .val (.long y58), .second] [(.long y58)])) t
      refine X94.ldc2Long hx hown (mvT hZ (hw _ (List.mem_of_getElem? (i := 46) rfl))) (g := (mkF m 169 #[.val (.int p1), .val (.long q2), .second, .val (.long q3), .second, .val (.long q4), .second, .val (.int p5), .val (.int (1 : Int32)), .val (.long y58), .second, .val (.long y59), .second, .val (.long y60), .second, .val (.ref b62), .val (.ref b__94), .val (.long (y58 / (1000000 : Int64))), .second, .val (.long (y58 / (1000000 : Int64))), .second, .val (.long y58), .second] [(.long y58)])) rfl (hb hby at_169) _ ?_
      show Steps p.tables e below (T94.setTop (mkF m 172 #[.val (.int p1), .val (.long q2), .second, .val (.long q3), .second, .val (.long q4), .second, .val (.int p5), .val (.int (1 : Int32)), .val (.long y58), .second, .val (.long y59), .second, .val (.long y60), .second, .val (.ref b62), .val (.ref b__94), .val (.long (y58 / (1000000 : Int64))), .second, .val (.long (y58 / (1000000 : Int64))), .second, .val (.long y58), .second] [(.long (1000000 : Int64)), (.long y58)])) t
      refine XS.ldiv X94.here hx rfl (hb hby at_172) rfl (by decide) ?_
      show Steps p.tables e below (T94.setTop (mkF m 173 #[.val (.int p1), .val (.long q2), .second, .val (.long q3), .second, .val (.long q4), .second, .val (.int p5), .val (.int (1 : Int32)), .val (.long y58), .second, .val (.long y59), .second, .val (.long y60), .second, .val (.ref b62), .val (.ref b__94), .val (.long (y58 / (1000000 : Int64))), .second, .val (.long (y58 / (1000000 : Int64))), .second, .val (.long y58), .second] [(.long (y58 / (1000000 : Int64)))])) t
      refine XS.lstore X94.here hx rfl (hb hby at_173) rfl (l' := #[.val (.int p1), .val (.long q2), .second, .val (.long q3), .second, .val (.long q4), .second, .val (.int p5), .val (.int (1 : Int32)), .val (.long y58), .second, .val (.long y59), .second, .val (.long y60), .second, .val (.ref b62), .val (.ref b__94), .val (.long (y58 / (1000000 : Int64))), .second, .val (.long (y58 / (1000000 : Int64))), .second, .val (.long (y58 / (1000000 : Int64))), .second]) rfl ?_
      show Steps p.tables e below (T94.setTop (mkF m 175 #[.val (.int p1), .val (.long q2), .second, .val (.long q3), .second, .val (.long q4), .second, .val (.int p5), .val (.int (1 : Int32)), .val (.long y58), .second, .val (.long y59), .second, .val (.long y60), .second, .val (.ref b62), .val (.ref b__94), .val (.long (y58 / (1000000 : Int64))), .second, .val (.long (y58 / (1000000 : Int64))), .second, .val (.long (y58 / (1000000 : Int64))), .second] [])) t
      refine XS.goto X94.here hx rfl (pc0 := 175) (pc' := 274) rfl (hb hby at_175) (by decide) (by decide) ?_
      show Steps p.tables e below (T94.setTop (mkF m 274 #[.val (.int p1), .val (.long q2), .second, .val (.long q3), .second, .val (.long q4), .second, .val (.int p5), .val (.int (1 : Int32)), .val (.long y58), .second, .val (.long y59), .second, .val (.long y60), .second, .val (.ref b62), .val (.ref b__94), .val (.long (y58 / (1000000 : Int64))), .second, .val (.long (y58 / (1000000 : Int64))), .second, .val (.long (y58 / (1000000 : Int64))), .second] [])) t
      refine XS.aload X94.here hx rfl (hb hby at_274) rfl rfl ?_
      show Steps p.tables e below (T94.setTop (mkF m 276 #[.val (.int p1), .val (.long q2), .second, .val (.long q3), .second, .val (.long q4), .second, .val (.int p5), .val (.int (1 : Int32)), .val (.long y58), .second, .val (.long y59), .second, .val (.long y60), .second, .val (.ref b62), .val (.ref b__94), .val (.long (y58 / (1000000 : Int64))), .second, .val (.long (y58 / (1000000 : Int64))), .second, .val (.long (y58 / (1000000 : Int64))), .second] [(.ref b__94)])) t
      refine XS.iconst X94.here hx rfl (hb hby at_276) ?_
      exact k)
    have V_o102 := V_94
    obtain ⟨co102, Aro102, qo102, So102, Mo102, Ho102, Go102⟩ := V_o102
    have hin103 : ¬ ((0 : Int32) < 0 ∨ co102.slots.size ≤ ((0 : Int32)).toNatClampNeg) := inb_of So102 ⟨by decide, by decide⟩
    have hat103 : co102.slots[((0 : Int32)).toNatClampNeg]? = some (.long ((own_min (9223372036854775807 : Int64) y58) / (1000000 : Int64))) := Has.at Ho102 hin103 rfl
    have P104 : Rch p e below (s₁.setTop (entryFrame m #[(.int p1), (.long q2), (.long q3), (.long q4), (.int p5)] maxLocals)) (T94.setTop (mkF m 278 #[.val (.int p1), .val (.long q2), .second, .val (.long q3), .second, .val (.long q4), .second, .val (.int p5), .val (.int (1 : Int32)), .val (.long y58), .second, .val (.long y59), .second, .val (.long y60), .second, .val (.ref b62), .val (.ref b__94), .val (.long y100), .second, .val (.long y100), .second, .val (.long y100), .second] [(.long ((own_min (9223372036854775807 : Int64) y58) / (1000000 : Int64)))])) := fun t k => P101 t (X94.laload hx (j := (0 : Int32)) (v := (.long ((own_min (9223372036854775807 : Int64) y58) / (1000000 : Int64)))) Aro102.1 (State.isArrayOf_alike hZ.alike Aro102.2.1) Aro102.2.2 hin103 hat103 (g := (mkF m 277 #[.val (.int p1), .val (.long q2), .second, .val (.long q3), .second, .val (.long q4), .second, .val (.int p5), .val (.int (1 : Int32)), .val (.long y58), .second, .val (.long y59), .second, .val (.long y60), .second, .val (.ref b62), .val (.ref b__94), .val (.long y100), .second, .val (.long y100), .second, .val (.long y100), .second] [(.int (0 : Int32)), (.ref b__94)])) rfl rfl (hb hby at_277) t k)
    obtain ⟨y105, hy105⟩ : ∃ z : Int64, z = ((own_min (9223372036854775807 : Int64) y58) / (1000000 : Int64)) := ⟨_, rfl⟩
    have P106 : Rch p e below (s₁.setTop (entryFrame m #[(.int p1), (.long q2), (.long q3), (.long q4), (.int p5)] maxLocals)) (T94.setTop (mkF m 281 #[.val (.int p1), .val (.long q2), .second, .val (.long q3), .second, .val (.long q4), .second, .val (.int p5), .val (.int (1 : Int32)), .val (.long y58), .second, .val (.long y59), .second, .val (.long y60), .second, .val (.ref b62), .val (.ref b__94), .val (.long y100), .second, .val (.long y100), .second, .val (.long y100), .second] [(.int (lcmpW y105 y100))])) := fun t k => P104 t (by
      subst hy105
      show Steps p.tables e below (T94.setTop (mkF m 278 #[.val (.int p1), .val (.long q2), .second, .val (.long q3), .second, .val (.long q4), .second, .val (.int p5), .val (.int (1 : Int32)), .val (.long y58), .second, .val (.long y59), .second, .val (.long y60), .second, .val (.ref b62), .val (.ref b__94), .val (.long y100), .second, .val (.long y100), .second, .val (.long y100), .second] [(.long ((own_min (9223372036854775807 : Int64) y58) / (1000000 : Int64)))])) t
      refine XS.lload X94.here hx rfl (hb hby at_278) rfl ?_
      show Steps p.tables e below (T94.setTop (mkF m 280 #[.val (.int p1), .val (.long q2), .second, .val (.long q3), .second, .val (.long q4), .second, .val (.int p5), .val (.int (1 : Int32)), .val (.long y58), .second, .val (.long y59), .second, .val (.long y60), .second, .val (.ref b62), .val (.ref b__94), .val (.long y100), .second, .val (.long y100), .second, .val (.long y100), .second] [(.long y100), (.long ((own_min (9223372036854775807 : Int64) y58) / (1000000 : Int64)))])) t
      refine XS.lcmp X94.here hx rfl (hb hby at_280) rfl ?_
      exact k)
    have hq0_ : y105 = y100 := by
      subst hy105 hy100
      exact own_e10 _ (own_y (hy58))
    have P107 : Rch p e below (s₁.setTop (entryFrame m #[(.int p1), (.long q2), (.long q3), (.long q4), (.int p5)] maxLocals)) (T94.setTop (mkF m 287 #[.val (.int p1), .val (.long q2), .second, .val (.long q3), .second, .val (.long q4), .second, .val (.int p5), .val (.int (1 : Int32)), .val (.long y58), .second, .val (.long y59), .second, .val (.long y60), .second, .val (.ref b62), .val (.ref b__94), .val (.long y100), .second, .val (.long y100), .second, .val (.long y100), .second] [(.int (1 : Int32)), (.ref b__94)])) := fun t k => P106 t (by
      show Steps p.tables e below (T94.setTop (mkF m 281 #[.val (.int p1), .val (.long q2), .second, .val (.long q3), .second, .val (.long q4), .second, .val (.int p5), .val (.int (1 : Int32)), .val (.long y58), .second, .val (.long y59), .second, .val (.long y60), .second, .val (.ref b62), .val (.ref b__94), .val (.long y100), .second, .val (.long y100), .second, .val (.long y100), .second] [(.int (lcmpW y105 y100))])) t
      refine XS.ifNo X94.here hx rfl (hb hby at_281) rfl ((if0 _ _).trans (teq ((lw_eq y105 y100).mpr hq0_)).2) ?_
      show Steps p.tables e below (T94.setTop (mkF m 284 #[.val (.int p1), .val (.long q2), .second, .val (.long q3), .second, .val (.long q4), .second, .val (.int p5), .val (.int (1 : Int32)), .val (.long y58), .second, .val (.long y59), .second, .val (.long y60), .second, .val (.ref b62), .val (.ref b__94), .val (.long y100), .second, .val (.long y100), .second, .val (.long y100), .second] [])) t
      refine XS.aload X94.here hx rfl (hb hby at_284) rfl rfl ?_
      show Steps p.tables e below (T94.setTop (mkF m 286 #[.val (.int p1), .val (.long q2), .second, .val (.long q3), .second, .val (.long q4), .second, .val (.int p5), .val (.int (1 : Int32)), .val (.long y58), .second, .val (.long y59), .second, .val (.long y60), .second, .val (.ref b62), .val (.ref b__94), .val (.long y100), .second, .val (.long y100), .second, .val (.long y100), .second] [(.ref b__94)])) t
      refine XS.iconst X94.here hx rfl (hb hby at_286) ?_
      exact k)
    have V_o108 := V_94
    obtain ⟨co108, Aro108, qo108, So108, Mo108, Ho108, Go108⟩ := V_o108
    have hin109 : ¬ ((1 : Int32) < 0 ∨ co108.slots.size ≤ ((1 : Int32)).toNatClampNeg) := inb_of So108 ⟨by decide, by decide⟩
    have hat109 : co108.slots[((1 : Int32)).toNatClampNeg]? = some (.long ((((0 : Int64) + y58) / ((0 : Int64) + (1 : Int64))) / (1000000 : Int64))) := Has.at Ho108 hin109 rfl
    have P110 : Rch p e below (s₁.setTop (entryFrame m #[(.int p1), (.long q2), (.long q3), (.long q4), (.int p5)] maxLocals)) (T94.setTop (mkF m 288 #[.val (.int p1), .val (.long q2), .second, .val (.long q3), .second, .val (.long q4), .second, .val (.int p5), .val (.int (1 : Int32)), .val (.long y58), .second, .val (.long y59), .second, .val (.long y60), .second, .val (.ref b62), .val (.ref b__94), .val (.long y100), .second, .val (.long y100), .second, .val (.long y100), .second] [(.long ((((0 : Int64) + y58) / ((0 : Int64) + (1 : Int64))) / (1000000 : Int64)))])) := fun t k => P107 t (X94.laload hx (j := (1 : Int32)) (v := (.long ((((0 : Int64) + y58) / ((0 : Int64) + (1 : Int64))) / (1000000 : Int64)))) Aro108.1 (State.isArrayOf_alike hZ.alike Aro108.2.1) Aro108.2.2 hin109 hat109 (g := (mkF m 287 #[.val (.int p1), .val (.long q2), .second, .val (.long q3), .second, .val (.long q4), .second, .val (.int p5), .val (.int (1 : Int32)), .val (.long y58), .second, .val (.long y59), .second, .val (.long y60), .second, .val (.ref b62), .val (.ref b__94), .val (.long y100), .second, .val (.long y100), .second, .val (.long y100), .second] [(.int (1 : Int32)), (.ref b__94)])) rfl rfl (hb hby at_287) t k)
    obtain ⟨y111, hy111⟩ : ∃ z : Int64, z = ((((0 : Int64) + y58) / ((0 : Int64) + (1 : Int64))) / (1000000 : Int64)) := ⟨_, rfl⟩
    have P112 : Rch p e below (s₁.setTop (entryFrame m #[(.int p1), (.long q2), (.long q3), (.long q4), (.int p5)] maxLocals)) (T94.setTop (mkF m 291 #[.val (.int p1), .val (.long q2), .second, .val (.long q3), .second, .val (.long q4), .second, .val (.int p5), .val (.int (1 : Int32)), .val (.long y58), .second, .val (.long y59), .second, .val (.long y60), .second, .val (.ref b62), .val (.ref b__94), .val (.long y100), .second, .val (.long y100), .second, .val (.long y100), .second] [(.int (lcmpW y111 y100))])) := fun t k => P110 t (by
      subst hy111
      show Steps p.tables e below (T94.setTop (mkF m 288 #[.val (.int p1), .val (.long q2), .second, .val (.long q3), .second, .val (.long q4), .second, .val (.int p5), .val (.int (1 : Int32)), .val (.long y58), .second, .val (.long y59), .second, .val (.long y60), .second, .val (.ref b62), .val (.ref b__94), .val (.long y100), .second, .val (.long y100), .second, .val (.long y100), .second] [(.long ((((0 : Int64) + y58) / ((0 : Int64) + (1 : Int64))) / (1000000 : Int64)))])) t
      refine XS.lload X94.here hx rfl (hb hby at_288) rfl ?_
      show Steps p.tables e below (T94.setTop (mkF m 290 #[.val (.int p1), .val (.long q2), .second, .val (.long q3), .second, .val (.long q4), .second, .val (.int p5), .val (.int (1 : Int32)), .val (.long y58), .second, .val (.long y59), .second, .val (.long y60), .second, .val (.ref b62), .val (.ref b__94), .val (.long y100), .second, .val (.long y100), .second, .val (.long y100), .second] [(.long y100), (.long ((((0 : Int64) + y58) / ((0 : Int64) + (1 : Int64))) / (1000000 : Int64)))])) t
      refine XS.lcmp X94.here hx rfl (hb hby at_290) rfl ?_
      exact k)
    have hq1_ : y111 = y100 := by
      subst hy111 hy100
      exact own_e11 _ (own_y (hy58))
    have P113 : Rch p e below (s₁.setTop (entryFrame m #[(.int p1), (.long q2), (.long q3), (.long q4), (.int p5)] maxLocals)) (T94.setTop (mkF m 297 #[.val (.int p1), .val (.long q2), .second, .val (.long q3), .second, .val (.long q4), .second, .val (.int p5), .val (.int (1 : Int32)), .val (.long y58), .second, .val (.long y59), .second, .val (.long y60), .second, .val (.ref b62), .val (.ref b__94), .val (.long y100), .second, .val (.long y100), .second, .val (.long y100), .second] [(.int (2 : Int32)), (.ref b__94)])) := fun t k => P112 t (by
      show Steps p.tables e below (T94.setTop (mkF m 291 #[.val (.int p1), .val (.long q2), .second, .val (.long q3), .second, .val (.long q4), .second, .val (.int p5), .val (.int (1 : Int32)), .val (.long y58), .second, .val (.long y59), .second, .val (.long y60), .second, .val (.ref b62), .val (.ref b__94), .val (.long y100), .second, .val (.long y100), .second, .val (.long y100), .second] [(.int (lcmpW y111 y100))])) t
      refine XS.ifNo X94.here hx rfl (hb hby at_291) rfl ((if0 _ _).trans (teq ((lw_eq y111 y100).mpr hq1_)).2) ?_
      show Steps p.tables e below (T94.setTop (mkF m 294 #[.val (.int p1), .val (.long q2), .second, .val (.long q3), .second, .val (.long q4), .second, .val (.int p5), .val (.int (1 : Int32)), .val (.long y58), .second, .val (.long y59), .second, .val (.long y60), .second, .val (.ref b62), .val (.ref b__94), .val (.long y100), .second, .val (.long y100), .second, .val (.long y100), .second] [])) t
      refine XS.aload X94.here hx rfl (hb hby at_294) rfl rfl ?_
      show Steps p.tables e below (T94.setTop (mkF m 296 #[.val (.int p1), .val (.long q2), .second, .val (.long q3), .second, .val (.long q4), .second, .val (.int p5), .val (.int (1 : Int32)), .val (.long y58), .second, .val (.long y59), .second, .val (.long y60), .second, .val (.ref b62), .val (.ref b__94), .val (.long y100), .second, .val (.long y100), .second, .val (.long y100), .second] [(.ref b__94)])) t
      refine XS.iconst X94.here hx rfl (hb hby at_296) ?_
      exact k)
    have V_o114 := V_94
    obtain ⟨co114, Aro114, qo114, So114, Mo114, Ho114, Go114⟩ := V_o114
    have hin115 : ¬ ((2 : Int32) < 0 ∨ co114.slots.size ≤ ((2 : Int32)).toNatClampNeg) := inb_of So114 ⟨by decide, by decide⟩
    have hat115 : co114.slots[((2 : Int32)).toNatClampNeg]? = some (.long ((own_max (0 : Int64) y58) / (1000000 : Int64))) := Has.at Ho114 hin115 rfl
    have P116 : Rch p e below (s₁.setTop (entryFrame m #[(.int p1), (.long q2), (.long q3), (.long q4), (.int p5)] maxLocals)) (T94.setTop (mkF m 298 #[.val (.int p1), .val (.long q2), .second, .val (.long q3), .second, .val (.long q4), .second, .val (.int p5), .val (.int (1 : Int32)), .val (.long y58), .second, .val (.long y59), .second, .val (.long y60), .second, .val (.ref b62), .val (.ref b__94), .val (.long y100), .second, .val (.long y100), .second, .val (.long y100), .second] [(.long ((own_max (0 : Int64) y58) / (1000000 : Int64)))])) := fun t k => P113 t (X94.laload hx (j := (2 : Int32)) (v := (.long ((own_max (0 : Int64) y58) / (1000000 : Int64)))) Aro114.1 (State.isArrayOf_alike hZ.alike Aro114.2.1) Aro114.2.2 hin115 hat115 (g := (mkF m 297 #[.val (.int p1), .val (.long q2), .second, .val (.long q3), .second, .val (.long q4), .second, .val (.int p5), .val (.int (1 : Int32)), .val (.long y58), .second, .val (.long y59), .second, .val (.long y60), .second, .val (.ref b62), .val (.ref b__94), .val (.long y100), .second, .val (.long y100), .second, .val (.long y100), .second] [(.int (2 : Int32)), (.ref b__94)])) rfl rfl (hb hby at_297) t k)
    obtain ⟨y117, hy117⟩ : ∃ z : Int64, z = ((own_max (0 : Int64) y58) / (1000000 : Int64)) := ⟨_, rfl⟩
    have P118 : Rch p e below (s₁.setTop (entryFrame m #[(.int p1), (.long q2), (.long q3), (.long q4), (.int p5)] maxLocals)) (T94.setTop (mkF m 301 #[.val (.int p1), .val (.long q2), .second, .val (.long q3), .second, .val (.long q4), .second, .val (.int p5), .val (.int (1 : Int32)), .val (.long y58), .second, .val (.long y59), .second, .val (.long y60), .second, .val (.ref b62), .val (.ref b__94), .val (.long y100), .second, .val (.long y100), .second, .val (.long y100), .second] [(.int (lcmpW y117 y100))])) := fun t k => P116 t (by
      subst hy117
      show Steps p.tables e below (T94.setTop (mkF m 298 #[.val (.int p1), .val (.long q2), .second, .val (.long q3), .second, .val (.long q4), .second, .val (.int p5), .val (.int (1 : Int32)), .val (.long y58), .second, .val (.long y59), .second, .val (.long y60), .second, .val (.ref b62), .val (.ref b__94), .val (.long y100), .second, .val (.long y100), .second, .val (.long y100), .second] [(.long ((own_max (0 : Int64) y58) / (1000000 : Int64)))])) t
      refine XS.lload X94.here hx rfl (hb hby at_298) rfl ?_
      show Steps p.tables e below (T94.setTop (mkF m 300 #[.val (.int p1), .val (.long q2), .second, .val (.long q3), .second, .val (.long q4), .second, .val (.int p5), .val (.int (1 : Int32)), .val (.long y58), .second, .val (.long y59), .second, .val (.long y60), .second, .val (.ref b62), .val (.ref b__94), .val (.long y100), .second, .val (.long y100), .second, .val (.long y100), .second] [(.long y100), (.long ((own_max (0 : Int64) y58) / (1000000 : Int64)))])) t
      refine XS.lcmp X94.here hx rfl (hb hby at_300) rfl ?_
      exact k)
    have hq2_ : y117 = y100 := by
      subst hy117 hy100
      exact own_e12 _ (own_y (hy58))
    have P119 : Rch p e below (s₁.setTop (entryFrame m #[(.int p1), (.long q2), (.long q3), (.long q4), (.int p5)] maxLocals)) (T94.setTop (mkF m 309 #[.val (.int p1), .val (.long q2), .second, .val (.long q3), .second, .val (.long q4), .second, .val (.int p5), .val (.int (1 : Int32)), .val (.long y58), .second, .val (.long y59), .second, .val (.long y60), .second, .val (.ref b62), .val (.ref b__94), .val (.long y100), .second, .val (.long y100), .second, .val (.long y100), .second] [(.int (1 : Int32))])) := fun t k => P118 t (by
      show Steps p.tables e below (T94.setTop (mkF m 301 #[.val (.int p1), .val (.long q2), .second, .val (.long q3), .second, .val (.long q4), .second, .val (.int p5), .val (.int (1 : Int32)), .val (.long y58), .second, .val (.long y59), .second, .val (.long y60), .second, .val (.ref b62), .val (.ref b__94), .val (.long y100), .second, .val (.long y100), .second, .val (.long y100), .second] [(.int (lcmpW y117 y100))])) t
      refine XS.ifNo X94.here hx rfl (hb hby at_301) rfl ((if0 _ _).trans (teq ((lw_eq y117 y100).mpr hq2_)).2) ?_
      show Steps p.tables e below (T94.setTop (mkF m 304 #[.val (.int p1), .val (.long q2), .second, .val (.long q3), .second, .val (.long q4), .second, .val (.int p5), .val (.int (1 : Int32)), .val (.long y58), .second, .val (.long y59), .second, .val (.long y60), .second, .val (.ref b62), .val (.ref b__94), .val (.long y100), .second, .val (.long y100), .second, .val (.long y100), .second] [])) t
      refine XS.iconst X94.here hx rfl (hb hby at_304) ?_
      show Steps p.tables e below (T94.setTop (mkF m 305 #[.val (.int p1), .val (.long q2), .second, .val (.long q3), .second, .val (.long q4), .second, .val (.int p5), .val (.int (1 : Int32)), .val (.long y58), .second, .val (.long y59), .second, .val (.long y60), .second, .val (.ref b62), .val (.ref b__94), .val (.long y100), .second, .val (.long y100), .second, .val (.long y100), .second] [(.int (1 : Int32))])) t
      refine XS.goto X94.here hx rfl (pc0 := 305) (pc' := 309) rfl (hb hby at_305) (by decide) (by decide) ?_
      exact k)
    obtain ⟨fs, hr, hrun, hended, hW, hsame⟩ := X94.leave (v := some (.int (1 : Int32))) (fun h => by rw [Bd.returns] at h; cases h)
    refine ⟨_, _, P119 _ ?_, hrun, hended, _, _, rfl, ?_, ⟨_, rfl⟩, hW, hsame.mono (by decide) (by decide)⟩
    · exact retN X94 hx (t := .boolean) Bd.returns (by simp) (hb hby at_309) hr
    · show Q_rm0 Z p1 q2 q3 q4 p5 h0 n0 _ T94.heap _
      exact ⟨rfl, N94⟩
  · have hi_ : x1 = (2 : Int32) := by rw [hx1]; exact hs
    have P120 : Rch p e below (s₁.setTop (entryFrame m #[(.int p1), (.long q2), (.long q3), (.long q4), (.int p5)] maxLocals)) (s₁.setTop (mkF m 5 #[.val (.int p1), .val (.long q2), .second, .val (.long q3), .second, .val (.long q4), .second, .val (.int p5), .val (.int (2 : Int32)), .unset, .unset, .unset, .unset, .unset, .unset, .unset, .unset, .unset, .unset, .unset, .unset, .unset, .unset] [])) := by have q_ := P2; rw [hi_] at q_; exact q_
    obtain ⟨y121, hy121⟩ : ∃ z : Int64, z = (q2 &&& (2305843009213693951 : Int64)) := ⟨_, rfl⟩
    obtain ⟨y122, hy122⟩ : ∃ z : Int64, z = (q3 &&& (2305843009213693951 : Int64)) := ⟨_, rfl⟩
    obtain ⟨y123, hy123⟩ : ∃ z : Int64, z = (q4 &&& (2305843009213693951 : Int64)) := ⟨_, rfl⟩
    have P124 : Rch p e below (s₁.setTop (entryFrame m #[(.int p1), (.long q2), (.long q3), (.long q4), (.int p5)] maxLocals)) (s₁.setTop (mkF m 27 #[.val (.int p1), .val (.long q2), .second, .val (.long q3), .second, .val (.long q4), .second, .val (.int p5), .val (.int (2 : Int32)), .val (.long y121), .second, .val (.long y122), .second, .val (.long y123), .second, .unset, .unset, .unset, .unset, .unset, .unset, .unset, .unset] [])) := fun t k => P120 t (by
      subst hy121 hy122 hy123
      show Steps p.tables e below (s₁.setTop (mkF m 5 #[.val (.int p1), .val (.long q2), .second, .val (.long q3), .second, .val (.long q4), .second, .val (.int p5), .val (.int (2 : Int32)), .unset, .unset, .unset, .unset, .unset, .unset, .unset, .unset, .unset, .unset, .unset, .unset, .unset, .unset] [])) t
      refine XS.lloadN X0.here hx rfl (hb hby at_5) rfl ?_
      show Steps p.tables e below (s₁.setTop (mkF m 6 #[.val (.int p1), .val (.long q2), .second, .val (.long q3), .second, .val (.long q4), .second, .val (.int p5), .val (.int (2 : Int32)), .unset, .unset, .unset, .unset, .unset, .unset, .unset, .unset, .unset, .unset, .unset, .unset, .unset, .unset] [(.long q2)])) t
      refine X0.ldc2Long hx hown (mvT hZ (hw _ (List.mem_of_getElem? (i := 0) rfl))) (g := (mkF m 6 #[.val (.int p1), .val (.long q2), .second, .val (.long q3), .second, .val (.long q4), .second, .val (.int p5), .val (.int (2 : Int32)), .unset, .unset, .unset, .unset, .unset, .unset, .unset, .unset, .unset, .unset, .unset, .unset, .unset, .unset] [(.long q2)])) rfl (hb hby at_6) _ ?_
      show Steps p.tables e below (s₁.setTop (mkF m 9 #[.val (.int p1), .val (.long q2), .second, .val (.long q3), .second, .val (.long q4), .second, .val (.int p5), .val (.int (2 : Int32)), .unset, .unset, .unset, .unset, .unset, .unset, .unset, .unset, .unset, .unset, .unset, .unset, .unset, .unset] [(.long (2305843009213693951 : Int64)), (.long q2)])) t
      refine XS.land X0.here hx rfl (hb hby at_9) rfl ?_
      show Steps p.tables e below (s₁.setTop (mkF m 10 #[.val (.int p1), .val (.long q2), .second, .val (.long q3), .second, .val (.long q4), .second, .val (.int p5), .val (.int (2 : Int32)), .unset, .unset, .unset, .unset, .unset, .unset, .unset, .unset, .unset, .unset, .unset, .unset, .unset, .unset] [(.long (q2 &&& (2305843009213693951 : Int64)))])) t
      refine XS.lstore X0.here hx rfl (hb hby at_10) rfl (l' := #[.val (.int p1), .val (.long q2), .second, .val (.long q3), .second, .val (.long q4), .second, .val (.int p5), .val (.int (2 : Int32)), .val (.long (q2 &&& (2305843009213693951 : Int64))), .second, .unset, .unset, .unset, .unset, .unset, .unset, .unset, .unset, .unset, .unset, .unset, .unset]) rfl ?_
      show Steps p.tables e below (s₁.setTop (mkF m 12 #[.val (.int p1), .val (.long q2), .second, .val (.long q3), .second, .val (.long q4), .second, .val (.int p5), .val (.int (2 : Int32)), .val (.long (q2 &&& (2305843009213693951 : Int64))), .second, .unset, .unset, .unset, .unset, .unset, .unset, .unset, .unset, .unset, .unset, .unset, .unset] [])) t
      refine XS.lloadN X0.here hx rfl (hb hby at_12) rfl ?_
      show Steps p.tables e below (s₁.setTop (mkF m 13 #[.val (.int p1), .val (.long q2), .second, .val (.long q3), .second, .val (.long q4), .second, .val (.int p5), .val (.int (2 : Int32)), .val (.long (q2 &&& (2305843009213693951 : Int64))), .second, .unset, .unset, .unset, .unset, .unset, .unset, .unset, .unset, .unset, .unset, .unset, .unset] [(.long q3)])) t
      refine X0.ldc2Long hx hown (mvT hZ (hw _ (List.mem_of_getElem? (i := 0) rfl))) (g := (mkF m 13 #[.val (.int p1), .val (.long q2), .second, .val (.long q3), .second, .val (.long q4), .second, .val (.int p5), .val (.int (2 : Int32)), .val (.long (q2 &&& (2305843009213693951 : Int64))), .second, .unset, .unset, .unset, .unset, .unset, .unset, .unset, .unset, .unset, .unset, .unset, .unset] [(.long q3)])) rfl (hb hby at_13) _ ?_
      show Steps p.tables e below (s₁.setTop (mkF m 16 #[.val (.int p1), .val (.long q2), .second, .val (.long q3), .second, .val (.long q4), .second, .val (.int p5), .val (.int (2 : Int32)), .val (.long (q2 &&& (2305843009213693951 : Int64))), .second, .unset, .unset, .unset, .unset, .unset, .unset, .unset, .unset, .unset, .unset, .unset, .unset] [(.long (2305843009213693951 : Int64)), (.long q3)])) t
      refine XS.land X0.here hx rfl (hb hby at_16) rfl ?_
      show Steps p.tables e below (s₁.setTop (mkF m 17 #[.val (.int p1), .val (.long q2), .second, .val (.long q3), .second, .val (.long q4), .second, .val (.int p5), .val (.int (2 : Int32)), .val (.long (q2 &&& (2305843009213693951 : Int64))), .second, .unset, .unset, .unset, .unset, .unset, .unset, .unset, .unset, .unset, .unset, .unset, .unset] [(.long (q3 &&& (2305843009213693951 : Int64)))])) t
      refine XS.lstore X0.here hx rfl (hb hby at_17) rfl (l' := #[.val (.int p1), .val (.long q2), .second, .val (.long q3), .second, .val (.long q4), .second, .val (.int p5), .val (.int (2 : Int32)), .val (.long (q2 &&& (2305843009213693951 : Int64))), .second, .val (.long (q3 &&& (2305843009213693951 : Int64))), .second, .unset, .unset, .unset, .unset, .unset, .unset, .unset, .unset, .unset, .unset]) rfl ?_
      show Steps p.tables e below (s₁.setTop (mkF m 19 #[.val (.int p1), .val (.long q2), .second, .val (.long q3), .second, .val (.long q4), .second, .val (.int p5), .val (.int (2 : Int32)), .val (.long (q2 &&& (2305843009213693951 : Int64))), .second, .val (.long (q3 &&& (2305843009213693951 : Int64))), .second, .unset, .unset, .unset, .unset, .unset, .unset, .unset, .unset, .unset, .unset] [])) t
      refine XS.lload X0.here hx rfl (hb hby at_19) rfl ?_
      show Steps p.tables e below (s₁.setTop (mkF m 21 #[.val (.int p1), .val (.long q2), .second, .val (.long q3), .second, .val (.long q4), .second, .val (.int p5), .val (.int (2 : Int32)), .val (.long (q2 &&& (2305843009213693951 : Int64))), .second, .val (.long (q3 &&& (2305843009213693951 : Int64))), .second, .unset, .unset, .unset, .unset, .unset, .unset, .unset, .unset, .unset, .unset] [(.long q4)])) t
      refine X0.ldc2Long hx hown (mvT hZ (hw _ (List.mem_of_getElem? (i := 0) rfl))) (g := (mkF m 21 #[.val (.int p1), .val (.long q2), .second, .val (.long q3), .second, .val (.long q4), .second, .val (.int p5), .val (.int (2 : Int32)), .val (.long (q2 &&& (2305843009213693951 : Int64))), .second, .val (.long (q3 &&& (2305843009213693951 : Int64))), .second, .unset, .unset, .unset, .unset, .unset, .unset, .unset, .unset, .unset, .unset] [(.long q4)])) rfl (hb hby at_21) _ ?_
      show Steps p.tables e below (s₁.setTop (mkF m 24 #[.val (.int p1), .val (.long q2), .second, .val (.long q3), .second, .val (.long q4), .second, .val (.int p5), .val (.int (2 : Int32)), .val (.long (q2 &&& (2305843009213693951 : Int64))), .second, .val (.long (q3 &&& (2305843009213693951 : Int64))), .second, .unset, .unset, .unset, .unset, .unset, .unset, .unset, .unset, .unset, .unset] [(.long (2305843009213693951 : Int64)), (.long q4)])) t
      refine XS.land X0.here hx rfl (hb hby at_24) rfl ?_
      show Steps p.tables e below (s₁.setTop (mkF m 25 #[.val (.int p1), .val (.long q2), .second, .val (.long q3), .second, .val (.long q4), .second, .val (.int p5), .val (.int (2 : Int32)), .val (.long (q2 &&& (2305843009213693951 : Int64))), .second, .val (.long (q3 &&& (2305843009213693951 : Int64))), .second, .unset, .unset, .unset, .unset, .unset, .unset, .unset, .unset, .unset, .unset] [(.long (q4 &&& (2305843009213693951 : Int64)))])) t
      refine XS.lstore X0.here hx rfl (hb hby at_25) rfl (l' := #[.val (.int p1), .val (.long q2), .second, .val (.long q3), .second, .val (.long q4), .second, .val (.int p5), .val (.int (2 : Int32)), .val (.long (q2 &&& (2305843009213693951 : Int64))), .second, .val (.long (q3 &&& (2305843009213693951 : Int64))), .second, .val (.long (q4 &&& (2305843009213693951 : Int64))), .second, .unset, .unset, .unset, .unset, .unset, .unset, .unset, .unset]) rfl ?_
      exact k)
    obtain ⟨T125, h125, X125, e125, E125, A125, D125, -, st125⟩ := newO X0 hx hZ hown (hw _ (List.mem_of_getElem? (i := 1) rfl)) (hw _ (List.mem_of_getElem? (i := 2) rfl)) (hw _ (List.mem_of_getElem? (i := 3) rfl)) e0 (g := (mkF m 27 #[.val (.int p1), .val (.long q2), .second, .val (.long q3), .second, .val (.long q4), .second, .val (.int p5), .val (.int (2 : Int32)), .val (.long y121), .second, .val (.long y122), .second, .val (.long y123), .second, .unset, .unset, .unset, .unset, .unset, .unset, .unset, .unset] [])) rfl (hb hby at_27) (by decide) (by decide)
    obtain ⟨b125, g125⟩ : ∃ z, z = h0.size := ⟨_, rfl⟩
    rw [← g125] at A125 D125 st125
    have g_b125 : n0 ≤ b125 := Nat.le_trans Z0 (Nat.le_of_eq g125.symm)
    have sz_b125 : h0.size ≤ b125 := Nat.le_trans (Keep.refl h0 []).1 (Nat.le_of_eq g125.symm)
    have F125_12 : Fld Z h125 b125 "com/example/usher/usher/server/Traffic" "latencyMin" "J" (.long (0 : Int64)) := D125 (Or.inl (hw _ (List.mem_of_getElem? (i := 12) rfl))) (ty := .long) (by decide)
    have F125_19 : Fld Z h125 b125 "com/example/usher/usher/server/Traffic" "sent" "J" (.long (0 : Int64)) := D125 (Or.inl (hw _ (List.mem_of_getElem? (i := 19) rfl))) (ty := .long) (by decide)
    have F125_27 : Fld Z h125 b125 "com/example/usher/usher/server/Traffic" "answered" "J" (.long (0 : Int64)) := D125 (Or.inl (hw _ (List.mem_of_getElem? (i := 27) rfl))) (ty := .long) (by decide)
    have F125_38 : Fld Z h125 b125 "com/example/usher/usher/server/Traffic" "latencyMax" "J" (.long (0 : Int64)) := D125 (Or.inl (hw _ (List.mem_of_getElem? (i := 38) rfl))) (ty := .long) (by decide)
    have F125_43 : Fld Z h125 b125 "com/example/usher/usher/server/Traffic" "latencyTotal" "J" (.long (0 : Int64)) := D125 (Or.inl (hw _ (List.mem_of_getElem? (i := 43) rfl))) (ty := .long) (by decide)
    have P126 : Rch p e below (s₁.setTop (entryFrame m #[(.int p1), (.long q2), (.long q3), (.long q4), (.int p5)] maxLocals)) (T125.setTop (mkF m 30 #[.val (.int p1), .val (.long q2), .second, .val (.long q3), .second, .val (.long q4), .second, .val (.int p5), .val (.int (2 : Int32)), .val (.long y121), .second, .val (.long y122), .second, .val (.long y123), .second, .unset, .unset, .unset, .unset, .unset, .unset, .unset, .unset] [(.ref b125)])) := fun t k => P124 t (st125 t k)
    have P127 : Rch p e below (s₁.setTop (entryFrame m #[(.int p1), (.long q2), (.long q3), (.long q4), (.int p5)] maxLocals)) (T125.setTop (mkF m 31 #[.val (.int p1), .val (.long q2), .second, .val (.long q3), .second, .val (.long q4), .second, .val (.int p5), .val (.int (2 : Int32)), .val (.long y121), .second, .val (.long y122), .second, .val (.long y123), .second, .unset, .unset, .unset, .unset, .unset, .unset, .unset, .unset] [(.ref b125), (.ref b125)])) := fun t k => P126 t (by
      show Steps p.tables e below (T125.setTop (mkF m 30 #[.val (.int p1), .val (.long q2), .second, .val (.long q3), .second, .val (.long q4), .second, .val (.int p5), .val (.int (2 : Int32)), .val (.long y121), .second, .val (.long y122), .second, .val (.long y123), .second, .unset, .unset, .unset, .unset, .unset, .unset, .unset, .unset] [(.ref b125)])) t
      refine XS.dup X125.here hx rfl (hb hby at_30) rfl rfl ?_
      exact k)
    have f129 : n0 ≤ h125.size := (Nat.le_trans Z0 E125.1)
    obtain ⟨_, _, ⟨T128, L128, k128, n128⟩, -, X128, ⟨Lc128, hQ128, l128, y128, z128⟩, st128⟩ := X125.specialBack hx (y := (⟨"com/example/usher/usher/server/Traffic", "<init>", "()V"⟩ : MethodName)) rfl hown (mvT hZ (hw _ (List.mem_of_getElem? (i := 4) rfl))) (mvT hZ (hw _ (List.mem_of_getElem? (i := 5) rfl))) (mvT hZ (hw _ (List.mem_of_getElem? (i := 6) rfl))) (by decide) (backOf (W := 1) (rmI l Z a0 hw [] b125 h125 n0 f129 A125 g_b125 F125_19 F125_27 F125_12 F125_38 F125_43) hZ (hw _ (List.mem_of_getElem? (i := 6) rfl)) (hw _ (List.mem_of_getElem? (i := 3) rfl)) (by decide) (by decide)) (g := (mkF m 31 #[.val (.int p1), .val (.long q2), .second, .val (.long q3), .second, .val (.long q4), .second, .val (.int p5), .val (.int (2 : Int32)), .val (.long y121), .second, .val (.long y122), .second, .val (.long y123), .second, .unset, .unset, .unset, .unset, .unset, .unset, .unset, .unset] [(.ref b125), (.ref b125)])) rfl (by rw [hml]; rfl) (Steps.refl _) (a := b125) (argsL := []) (rest := [(.ref b125)]) (lenOf pd_1 rfl) rfl (by show 2 * 0 + _ ≤ _; exact Nat.le_of_eq rfl) (hb hby at_31) (fun _ _ => ⟨rfl, e125, (by decide : 1 + 0 ≤ _), (by decide : 8 + 0 ≤ _)⟩)
    dsimp only [Pt.U, Pt.locs, Pt.cells, Pt.slots] at X128 l128 y128 z128 st128 hQ128
    subst l128 y128 z128
    obtain ⟨rfl, N128q, K128, E_128, G0_128, G1_128, G2_128, G3_128, G4_128⟩ := hQ128
    have N128 := Fr.app N0 N128q
    have P130 : Rch p e below (s₁.setTop (entryFrame m #[(.int p1), (.long q2), (.long q3), (.long q4), (.int p5)] maxLocals)) (T128.setTop (mkF m 34 #[.val (.int p1), .val (.long q2), .second, .val (.long q3), .second, .val (.long q4), .second, .val (.int p5), .val (.int (2 : Int32)), .val (.long y121), .second, .val (.long y122), .second, .val (.long y123), .second, .unset, .unset, .unset, .unset, .unset, .unset, .unset, .unset] [(.ref b125)])) := fun t k => P127 t (st128.trans k)
    obtain ⟨x131, hx131⟩ : ∃ z : Int32, z = (p5 &&& (1 : Int32)) := ⟨_, rfl⟩
    have P132 : Rch p e below (s₁.setTop (entryFrame m #[(.int p1), (.long q2), (.long q3), (.long q4), (.int p5)] maxLocals)) (T128.setTop (mkF m 40 #[.val (.int p1), .val (.long q2), .second, .val (.long q3), .second, .val (.long q4), .second, .val (.int p5), .val (.int (2 : Int32)), .val (.long y121), .second, .val (.long y122), .second, .val (.long y123), .second, .val (.ref b125), .unset, .unset, .unset, .unset, .unset, .unset, .unset] [(.int x131)])) := fun t k => P130 t (by
      subst hx131
      show Steps p.tables e below (T128.setTop (mkF m 34 #[.val (.int p1), .val (.long q2), .second, .val (.long q3), .second, .val (.long q4), .second, .val (.int p5), .val (.int (2 : Int32)), .val (.long y121), .second, .val (.long y122), .second, .val (.long y123), .second, .unset, .unset, .unset, .unset, .unset, .unset, .unset, .unset] [(.ref b125)])) t
      refine XS.astore X128.here hx rfl (hb hby at_34) rfl rfl (l' := #[.val (.int p1), .val (.long q2), .second, .val (.long q3), .second, .val (.long q4), .second, .val (.int p5), .val (.int (2 : Int32)), .val (.long y121), .second, .val (.long y122), .second, .val (.long y123), .second, .val (.ref b125), .unset, .unset, .unset, .unset, .unset, .unset, .unset]) rfl ?_
      show Steps p.tables e below (T128.setTop (mkF m 36 #[.val (.int p1), .val (.long q2), .second, .val (.long q3), .second, .val (.long q4), .second, .val (.int p5), .val (.int (2 : Int32)), .val (.long y121), .second, .val (.long y122), .second, .val (.long y123), .second, .val (.ref b125), .unset, .unset, .unset, .unset, .unset, .unset, .unset] [])) t
      refine XS.iload X128.here hx rfl (hb hby at_36) rfl ?_
      show Steps p.tables e below (T128.setTop (mkF m 38 #[.val (.int p1), .val (.long q2), .second, .val (.long q3), .second, .val (.long q4), .second, .val (.int p5), .val (.int (2 : Int32)), .val (.long y121), .second, .val (.long y122), .second, .val (.long y123), .second, .val (.ref b125), .unset, .unset, .unset, .unset, .unset, .unset, .unset] [(.int p5)])) t
      refine XS.iconst X128.here hx rfl (hb hby at_38) ?_
      show Steps p.tables e below (T128.setTop (mkF m 39 #[.val (.int p1), .val (.long q2), .second, .val (.long q3), .second, .val (.long q4), .second, .val (.int p5), .val (.int (2 : Int32)), .val (.long y121), .second, .val (.long y122), .second, .val (.long y123), .second, .val (.ref b125), .unset, .unset, .unset, .unset, .unset, .unset, .unset] [(.int (1 : Int32)), (.int p5)])) t
      refine XS.iand X128.here hx rfl (hb hby at_39) rfl ?_
      exact k)
    obtain ⟨T133, L133, h133, u__133, X133, e133, N133, Z133, K133, G0_133, G1_133, G2_133, G3_133, G4_133, P133⟩ : ∃ (T133 : State) (L133 : List Loc) (h133 : Heap) (u__133 : Int64), Stand p l e room_1 s m #[(.int p1), (.long q2), (.long q3), (.long q4), (.int p5)] below meth c T133 L133 1 8 ∧ T133.heap = h133 ∧ Fr n0 L133 ∧ n0 ≤ h133.size ∧ Keep T128.heap h133 [b125] ∧ (Fld Z h133 b125 "com/example/usher/usher/server/Traffic" "sent" "J" (.long u__133)) ∧ (Fld Z h133 b125 "com/example/usher/usher/server/Traffic" "answered" "J" (.long (0 : Int64))) ∧ (Fld Z h133 b125 "com/example/usher/usher/server/Traffic" "latencyMin" "J" (.long (9223372036854775807 : Int64))) ∧ (Fld Z h133 b125 "com/example/usher/usher/server/Traffic" "latencyMax" "J" (.long (0 : Int64))) ∧ (Fld Z h133 b125 "com/example/usher/usher/server/Traffic" "latencyTotal" "J" (.long (0 : Int64))) ∧ Rch p e below (s₁.setTop (entryFrame m #[(.int p1), (.long q2), (.long q3), (.long q4), (.int p5)] maxLocals)) (T133.setTop (mkF m 48 #[.val (.int p1), .val (.long q2), .second, .val (.long q3), .second, .val (.long q4), .second, .val (.int p5), .val (.int (2 : Int32)), .val (.long y121), .second, .val (.long y122), .second, .val (.long y123), .second, .val (.ref b125), .unset, .unset, .unset, .unset, .unset, .unset, .unset] [])) := by
      by_cases c134 : x131 = (0 : Int32)
      · have P135 : Rch p e below (s₁.setTop (entryFrame m #[(.int p1), (.long q2), (.long q3), (.long q4), (.int p5)] maxLocals)) (T128.setTop (mkF m 48 #[.val (.int p1), .val (.long q2), .second, .val (.long q3), .second, .val (.long q4), .second, .val (.int p5), .val (.int (2 : Int32)), .val (.long y121), .second, .val (.long y122), .second, .val (.long y123), .second, .val (.ref b125), .unset, .unset, .unset, .unset, .unset, .unset, .unset] [])) := fun t k => P132 t (by
          show Steps p.tables e below (T128.setTop (mkF m 40 #[.val (.int p1), .val (.long q2), .second, .val (.long q3), .second, .val (.long q4), .second, .val (.int p5), .val (.int (2 : Int32)), .val (.long y121), .second, .val (.long y122), .second, .val (.long y123), .second, .val (.ref b125), .unset, .unset, .unset, .unset, .unset, .unset, .unset] [(.int x131)])) t
          refine XS.ifYes X128.here hx rfl (pc0 := 40) (pc' := 48) rfl (hb hby at_40) rfl ((if0 _ _).trans (teq c134).1) (by decide) (by decide) ?_
          exact k)
        have f136 : n0 ≤ T128.heap.size := (Nat.le_trans f129 K128.1)
        exact ⟨T128, _, T128.heap, (0 : Int64), X128, rfl, N128, f136, (Keep.refl T128.heap [b125]), G0_128, G1_128, G2_128, G3_128, G4_128, P135⟩
      · have P137 : Rch p e below (s₁.setTop (entryFrame m #[(.int p1), (.long q2), (.long q3), (.long q4), (.int p5)] maxLocals)) (T128.setTop (mkF m 45 #[.val (.int p1), .val (.long q2), .second, .val (.long q3), .second, .val (.long q4), .second, .val (.int p5), .val (.int (2 : Int32)), .val (.long y121), .second, .val (.long y122), .second, .val (.long y123), .second, .val (.ref b125), .unset, .unset, .unset, .unset, .unset, .unset, .unset] [(.ref b125)])) := fun t k => P132 t (by
          show Steps p.tables e below (T128.setTop (mkF m 40 #[.val (.int p1), .val (.long q2), .second, .val (.long q3), .second, .val (.long q4), .second, .val (.int p5), .val (.int (2 : Int32)), .val (.long y121), .second, .val (.long y122), .second, .val (.long y123), .second, .val (.ref b125), .unset, .unset, .unset, .unset, .unset, .unset, .unset] [(.int x131)])) t
          refine XS.ifNo X128.here hx rfl (hb hby at_40) rfl ((if0 _ _).trans (feq c134).1) ?_
          show Steps p.tables e below (T128.setTop (mkF m 43 #[.val (.int p1), .val (.long q2), .second, .val (.long q3), .second, .val (.long q4), .second, .val (.int p5), .val (.int (2 : Int32)), .val (.long y121), .second, .val (.long y122), .second, .val (.long y123), .second, .val (.ref b125), .unset, .unset, .unset, .unset, .unset, .unset, .unset] [])) t
          refine XS.aload X128.here hx rfl (hb hby at_43) rfl rfl ?_
          exact k)
        have f139 : n0 ≤ T128.heap.size := (Nat.le_trans f129 K128.1)
        obtain ⟨cq138, kq138, q138a, q138b, q138c⟩ := isOf hZ rfl E_128
        obtain ⟨_, _, ⟨T138, L138, k138, n138⟩, -, X138, ⟨Lc138, hQ138, l138, y138, z138⟩, st138⟩ := X128.virtualBack hx (y := (⟨"com/example/usher/usher/server/Traffic", "notificationSent", "()V"⟩ : MethodName)) (z := (⟨"com/example/usher/usher/server/Traffic", "notificationSent", "()V"⟩ : MethodName)) hown (mvT hZ (hw _ (List.mem_of_getElem? (i := 13) rfl))) (mvT hZ (hw _ (List.mem_of_getElem? (i := 14) rfl))) (notFace_of_selects (args := #[]) (mvT hZ (hw _ (List.mem_of_getElem? (i := 16) rfl)))) (mvT hZ (hw _ (List.mem_of_getElem? (i := 16) rfl))) (mvT hZ (hw _ (List.mem_of_getElem? (i := 15) rfl))) (by decide) (backOf (W := 0) (rmN l Z a0 hw [] b125 (0 : Int64) (0 : Int64) (9223372036854775807 : Int64) (0 : Int64) (0 : Int64) T128.heap n0 f139 E_128 g_b125 G0_128 G1_128 G2_128 G3_128 G4_128) hZ (hw _ (List.mem_of_getElem? (i := 17) rfl)) (hw _ (List.mem_of_getElem? (i := 3) rfl)) (by decide) (by decide)) q138a q138c (g := (mkF m 45 #[.val (.int p1), .val (.long q2), .second, .val (.long q3), .second, .val (.long q4), .second, .val (.int p5), .val (.int (2 : Int32)), .val (.long y121), .second, .val (.long y122), .second, .val (.long y123), .second, .val (.ref b125), .unset, .unset, .unset, .unset, .unset, .unset, .unset] [(.ref b125)])) rfl (by rw [hml]; rfl) (Steps.refl _) (argsL := []) (rest := []) (lenOf pd_1 rfl) rfl (by show 2 * 0 + _ ≤ _; exact Nat.le_of_eq rfl) (hb hby at_45) (fun _ _ => ⟨rfl, rfl, (by decide : 1 + 0 ≤ _), (by decide : 8 + 0 ≤ _)⟩)
        dsimp only [Pt.U, Pt.locs, Pt.cells, Pt.slots] at X138 l138 y138 z138 st138 hQ138
        subst l138 y138 z138
        obtain ⟨rfl, N138q, K138, E_138, G0_138, G1_138, G2_138, G3_138, G4_138⟩ := hQ138
        have N138 := Fr.app N128 N138q
        have P140 : Rch p e below (s₁.setTop (entryFrame m #[(.int p1), (.long q2), (.long q3), (.long q4), (.int p5)] maxLocals)) (T138.setTop (mkF m 48 #[.val (.int p1), .val (.long q2), .second, .val (.long q3), .second, .val (.long q4), .second, .val (.int p5), .val (.int (2 : Int32)), .val (.long y121), .second, .val (.long y122), .second, .val (.long y123), .second, .val (.ref b125), .unset, .unset, .unset, .unset, .unset, .unset, .unset] [])) := fun t k => P137 t (st138.trans k)
        have f141 : n0 ≤ T138.heap.size := (Nat.le_trans f139 K138.1)
        exact ⟨T138, _, T138.heap, ((0 : Int64) + (1 : Int64)), X138, rfl, N138, f141, ((Keep.refl T128.heap [b125]).trans K138 (allS (P := fun x => x ∈ ([b125] : List Addr) ∨ T128.heap.size ≤ x) (Or.inl (List.mem_of_getElem? (i := 0) rfl)) all0)), G0_138, G1_138, G2_138, G3_138, G4_138, P140⟩
    have P142 : Rch p e below (s₁.setTop (entryFrame m #[(.int p1), (.long q2), (.long q3), (.long q4), (.int p5)] maxLocals)) (T133.setTop (mkF m 58 #[.val (.int p1), .val (.long q2), .second, .val (.long q3), .second, .val (.long q4), .second, .val (.int p5), .val (.int (2 : Int32)), .val (.long y121), .second, .val (.long y122), .second, .val (.long y123), .second, .val (.ref b125), .unset, .unset, .unset, .unset, .unset, .unset, .unset] [(.long y121), (.ref b125)])) := fun t k => P133 t (by
      show Steps p.tables e below (T133.setTop (mkF m 48 #[.val (.int p1), .val (.long q2), .second, .val (.long q3), .second, .val (.long q4), .second, .val (.int p5), .val (.int (2 : Int32)), .val (.long y121), .second, .val (.long y122), .second, .val (.long y123), .second, .val (.ref b125), .unset, .unset, .unset, .unset, .unset, .unset, .unset] [])) t
      refine XS.iload X133.here hx rfl (hb hby at_48) rfl ?_
      show Steps p.tables e below (T133.setTop (mkF m 50 #[.val (.int p1), .val (.long q2), .second, .val (.long q3), .second, .val (.long q4), .second, .val (.int p5), .val (.int (2 : Int32)), .val (.long y121), .second, .val (.long y122), .second, .val (.long y123), .second, .val (.ref b125), .unset, .unset, .unset, .unset, .unset, .unset, .unset] [(.int (2 : Int32))])) t
      refine XS.iconst X133.here hx rfl (hb hby at_50) ?_
      show Steps p.tables e below (T133.setTop (mkF m 51 #[.val (.int p1), .val (.long q2), .second, .val (.long q3), .second, .val (.long q4), .second, .val (.int p5), .val (.int (2 : Int32)), .val (.long y121), .second, .val (.long y122), .second, .val (.long y123), .second, .val (.ref b125), .unset, .unset, .unset, .unset, .unset, .unset, .unset] [(.int (1 : Int32)), (.int (2 : Int32))])) t
      refine XS.icmpNo X133.here hx rfl (hb hby at_51) rfl (flt (by decide)).1 ?_
      show Steps p.tables e below (T133.setTop (mkF m 54 #[.val (.int p1), .val (.long q2), .second, .val (.long q3), .second, .val (.long q4), .second, .val (.int p5), .val (.int (2 : Int32)), .val (.long y121), .second, .val (.long y122), .second, .val (.long y123), .second, .val (.ref b125), .unset, .unset, .unset, .unset, .unset, .unset, .unset] [])) t
      refine XS.aload X133.here hx rfl (hb hby at_54) rfl rfl ?_
      show Steps p.tables e below (T133.setTop (mkF m 56 #[.val (.int p1), .val (.long q2), .second, .val (.long q3), .second, .val (.long q4), .second, .val (.int p5), .val (.int (2 : Int32)), .val (.long y121), .second, .val (.long y122), .second, .val (.long y123), .second, .val (.ref b125), .unset, .unset, .unset, .unset, .unset, .unset, .unset] [(.ref b125)])) t
      refine XS.lload X133.here hx rfl (hb hby at_56) rfl ?_
      exact k)
    obtain ⟨cq143, kq143, q143a, q143b, q143c⟩ := isOf hZ e133 (E_128.keep K133)
    obtain ⟨_, _, ⟨T143, L143, k143, n143⟩, -, X143, ⟨Lc143, hQ143, l143, y143, z143⟩, st143⟩ := X133.virtualBack hx (y := (⟨"com/example/usher/usher/server/Traffic", "frameAnswered", "(J)V"⟩ : MethodName)) (z := (⟨"com/example/usher/usher/server/Traffic", "frameAnswered", "(J)V"⟩ : MethodName)) hown (mvT hZ (hw _ (List.mem_of_getElem? (i := 28) rfl))) (mvT hZ (hw _ (List.mem_of_getElem? (i := 29) rfl))) (notFace_of_selects (args := #[]) (mvT hZ (hw _ (List.mem_of_getElem? (i := 31) rfl)))) (mvT hZ (hw _ (List.mem_of_getElem? (i := 31) rfl))) (mvT hZ (hw _ (List.mem_of_getElem? (i := 30) rfl))) (by decide) (backOf (W := 0) (rmA l Z a0 hw [] b125 y121 u__133 (0 : Int64) (9223372036854775807 : Int64) (0 : Int64) (0 : Int64) h133 n0 Z133 (E_128.keep K133) g_b125 G0_133 G1_133 G2_133 G3_133 G4_133) hZ (hw _ (List.mem_of_getElem? (i := 32) rfl)) (hw _ (List.mem_of_getElem? (i := 3) rfl)) (by decide) (by decide)) q143a q143c (g := (mkF m 58 #[.val (.int p1), .val (.long q2), .second, .val (.long q3), .second, .val (.long q4), .second, .val (.int p5), .val (.int (2 : Int32)), .val (.long y121), .second, .val (.long y122), .second, .val (.long y123), .second, .val (.ref b125), .unset, .unset, .unset, .unset, .unset, .unset, .unset] [(.long y121), (.ref b125)])) rfl (by rw [hml]; rfl) (Steps.refl _) (argsL := [(.long y121)]) (rest := []) (lenOf pd_3 rfl) rfl (by show 2 * 0 + _ ≤ _; exact Nat.le_of_eq rfl) (hb hby at_58) (fun _ _ => ⟨rfl, e133, (by decide : 1 + 0 ≤ _), (by decide : 8 + 0 ≤ _)⟩)
    dsimp only [Pt.U, Pt.locs, Pt.cells, Pt.slots] at X143 l143 y143 z143 st143 hQ143
    subst l143 y143 z143
    obtain ⟨rfl, N143q, K143, E_143, G0_143, G1_143, G2_143, G3_143, G4_143⟩ := hQ143
    have N143 := Fr.app N133 N143q
    have P144 : Rch p e below (s₁.setTop (entryFrame m #[(.int p1), (.long q2), (.long q3), (.long q4), (.int p5)] maxLocals)) (T143.setTop (mkF m 61 #[.val (.int p1), .val (.long q2), .second, .val (.long q3), .second, .val (.long q4), .second, .val (.int p5), .val (.int (2 : Int32)), .val (.long y121), .second, .val (.long y122), .second, .val (.long y123), .second, .val (.ref b125), .unset, .unset, .unset, .unset, .unset, .unset, .unset] [])) := fun t k => P142 t (st143.trans k)
    have P145 : Rch p e below (s₁.setTop (entryFrame m #[(.int p1), (.long q2), (.long q3), (.long q4), (.int p5)] maxLocals)) (T143.setTop (mkF m 71 #[.val (.int p1), .val (.long q2), .second, .val (.long q3), .second, .val (.long q4), .second, .val (.int p5), .val (.int (2 : Int32)), .val (.long y121), .second, .val (.long y122), .second, .val (.long y123), .second, .val (.ref b125), .unset, .unset, .unset, .unset, .unset, .unset, .unset] [(.long y122), (.ref b125)])) := fun t k => P144 t (by
      show Steps p.tables e below (T143.setTop (mkF m 61 #[.val (.int p1), .val (.long q2), .second, .val (.long q3), .second, .val (.long q4), .second, .val (.int p5), .val (.int (2 : Int32)), .val (.long y121), .second, .val (.long y122), .second, .val (.long y123), .second, .val (.ref b125), .unset, .unset, .unset, .unset, .unset, .unset, .unset] [])) t
      refine XS.iload X143.here hx rfl (hb hby at_61) rfl ?_
      show Steps p.tables e below (T143.setTop (mkF m 63 #[.val (.int p1), .val (.long q2), .second, .val (.long q3), .second, .val (.long q4), .second, .val (.int p5), .val (.int (2 : Int32)), .val (.long y121), .second, .val (.long y122), .second, .val (.long y123), .second, .val (.ref b125), .unset, .unset, .unset, .unset, .unset, .unset, .unset] [(.int (2 : Int32))])) t
      refine XS.iconst X143.here hx rfl (hb hby at_63) ?_
      show Steps p.tables e below (T143.setTop (mkF m 64 #[.val (.int p1), .val (.long q2), .second, .val (.long q3), .second, .val (.long q4), .second, .val (.int p5), .val (.int (2 : Int32)), .val (.long y121), .second, .val (.long y122), .second, .val (.long y123), .second, .val (.ref b125), .unset, .unset, .unset, .unset, .unset, .unset, .unset] [(.int (2 : Int32)), (.int (2 : Int32))])) t
      refine XS.icmpNo X143.here hx rfl (hb hby at_64) rfl (flt (by decide)).1 ?_
      show Steps p.tables e below (T143.setTop (mkF m 67 #[.val (.int p1), .val (.long q2), .second, .val (.long q3), .second, .val (.long q4), .second, .val (.int p5), .val (.int (2 : Int32)), .val (.long y121), .second, .val (.long y122), .second, .val (.long y123), .second, .val (.ref b125), .unset, .unset, .unset, .unset, .unset, .unset, .unset] [])) t
      refine XS.aload X143.here hx rfl (hb hby at_67) rfl rfl ?_
      show Steps p.tables e below (T143.setTop (mkF m 69 #[.val (.int p1), .val (.long q2), .second, .val (.long q3), .second, .val (.long q4), .second, .val (.int p5), .val (.int (2 : Int32)), .val (.long y121), .second, .val (.long y122), .second, .val (.long y123), .second, .val (.ref b125), .unset, .unset, .unset, .unset, .unset, .unset, .unset] [(.ref b125)])) t
      refine XS.lload X143.here hx rfl (hb hby at_69) rfl ?_
      exact k)
    have f147 : n0 ≤ T143.heap.size := (Nat.le_trans Z133 K143.1)
    obtain ⟨cq146, kq146, q146a, q146b, q146c⟩ := isOf hZ rfl E_143
    obtain ⟨_, _, ⟨T146, L146, k146, n146⟩, -, X146, ⟨Lc146, hQ146, l146, y146, z146⟩, st146⟩ := X143.virtualBack hx (y := (⟨"com/example/usher/usher/server/Traffic", "frameAnswered", "(J)V"⟩ : MethodName)) (z := (⟨"com/example/usher/usher/server/Traffic", "frameAnswered", "(J)V"⟩ : MethodName)) hown (mvT hZ (hw _ (List.mem_of_getElem? (i := 28) rfl))) (mvT hZ (hw _ (List.mem_of_getElem? (i := 29) rfl))) (notFace_of_selects (args := #[]) (mvT hZ (hw _ (List.mem_of_getElem? (i := 31) rfl)))) (mvT hZ (hw _ (List.mem_of_getElem? (i := 31) rfl))) (mvT hZ (hw _ (List.mem_of_getElem? (i := 30) rfl))) (by decide) (backOf (W := 0) (rmA l Z a0 hw [] b125 y122 (u__133 + (1 : Int64)) ((0 : Int64) + (1 : Int64)) (own_min (9223372036854775807 : Int64) y121) (own_max (0 : Int64) y121) ((0 : Int64) + y121) T143.heap n0 f147 E_143 g_b125 G0_143 G1_143 G2_143 G3_143 G4_143) hZ (hw _ (List.mem_of_getElem? (i := 32) rfl)) (hw _ (List.mem_of_getElem? (i := 3) rfl)) (by decide) (by decide)) q146a q146c (g := (mkF m 71 #[.val (.int p1), .val (.long q2), .second, .val (.long q3), .second, .val (.long q4), .second, .val (.int p5), .val (.int (2 : Int32)), .val (.long y121), .second, .val (.long y122), .second, .val (.long y123), .second, .val (.ref b125), .unset, .unset, .unset, .unset, .unset, .unset, .unset] [(.long y122), (.ref b125)])) rfl (by rw [hml]; rfl) (Steps.refl _) (argsL := [(.long y122)]) (rest := []) (lenOf pd_3 rfl) rfl (by show 2 * 0 + _ ≤ _; exact Nat.le_of_eq rfl) (hb hby at_71) (fun _ _ => ⟨rfl, rfl, (by decide : 1 + 0 ≤ _), (by decide : 8 + 0 ≤ _)⟩)
    dsimp only [Pt.U, Pt.locs, Pt.cells, Pt.slots] at X146 l146 y146 z146 st146 hQ146
    subst l146 y146 z146
    obtain ⟨rfl, N146q, K146, E_146, G0_146, G1_146, G2_146, G3_146, G4_146⟩ := hQ146
    have N146 := Fr.app N143 N146q
    have P148 : Rch p e below (s₁.setTop (entryFrame m #[(.int p1), (.long q2), (.long q3), (.long q4), (.int p5)] maxLocals)) (T146.setTop (mkF m 74 #[.val (.int p1), .val (.long q2), .second, .val (.long q3), .second, .val (.long q4), .second, .val (.int p5), .val (.int (2 : Int32)), .val (.long y121), .second, .val (.long y122), .second, .val (.long y123), .second, .val (.ref b125), .unset, .unset, .unset, .unset, .unset, .unset, .unset] [])) := fun t k => P145 t (st146.trans k)
    obtain ⟨x149, hx149⟩ : ∃ z : Int32, z = (p5 &&& (2 : Int32)) := ⟨_, rfl⟩
    have P150 : Rch p e below (s₁.setTop (entryFrame m #[(.int p1), (.long q2), (.long q3), (.long q4), (.int p5)] maxLocals)) (T146.setTop (mkF m 78 #[.val (.int p1), .val (.long q2), .second, .val (.long q3), .second, .val (.long q4), .second, .val (.int p5), .val (.int (2 : Int32)), .val (.long y121), .second, .val (.long y122), .second, .val (.long y123), .second, .val (.ref b125), .unset, .unset, .unset, .unset, .unset, .unset, .unset] [(.int x149)])) := fun t k => P148 t (by
      subst hx149
      show Steps p.tables e below (T146.setTop (mkF m 74 #[.val (.int p1), .val (.long q2), .second, .val (.long q3), .second, .val (.long q4), .second, .val (.int p5), .val (.int (2 : Int32)), .val (.long y121), .second, .val (.long y122), .second, .val (.long y123), .second, .val (.ref b125), .unset, .unset, .unset, .unset, .unset, .unset, .unset] [])) t
      refine XS.iload X146.here hx rfl (hb hby at_74) rfl ?_
      show Steps p.tables e below (T146.setTop (mkF m 76 #[.val (.int p1), .val (.long q2), .second, .val (.long q3), .second, .val (.long q4), .second, .val (.int p5), .val (.int (2 : Int32)), .val (.long y121), .second, .val (.long y122), .second, .val (.long y123), .second, .val (.ref b125), .unset, .unset, .unset, .unset, .unset, .unset, .unset] [(.int p5)])) t
      refine XS.iconst X146.here hx rfl (hb hby at_76) ?_
      show Steps p.tables e below (T146.setTop (mkF m 77 #[.val (.int p1), .val (.long q2), .second, .val (.long q3), .second, .val (.long q4), .second, .val (.int p5), .val (.int (2 : Int32)), .val (.long y121), .second, .val (.long y122), .second, .val (.long y123), .second, .val (.ref b125), .unset, .unset, .unset, .unset, .unset, .unset, .unset] [(.int (2 : Int32)), (.int p5)])) t
      refine XS.iand X146.here hx rfl (hb hby at_77) rfl ?_
      exact k)
    obtain ⟨T151, L151, h151, u__151, X151, e151, N151, Z151, K151, G0_151, G1_151, G2_151, G3_151, G4_151, P151⟩ : ∃ (T151 : State) (L151 : List Loc) (h151 : Heap) (u__151 : Int64), Stand p l e room_1 s m #[(.int p1), (.long q2), (.long q3), (.long q4), (.int p5)] below meth c T151 L151 1 8 ∧ T151.heap = h151 ∧ Fr n0 L151 ∧ n0 ≤ h151.size ∧ Keep T146.heap h151 [b125] ∧ (Fld Z h151 b125 "com/example/usher/usher/server/Traffic" "sent" "J" (.long u__151)) ∧ (Fld Z h151 b125 "com/example/usher/usher/server/Traffic" "answered" "J" (.long (((0 : Int64) + (1 : Int64)) + (1 : Int64)))) ∧ (Fld Z h151 b125 "com/example/usher/usher/server/Traffic" "latencyMin" "J" (.long (own_min (own_min (9223372036854775807 : Int64) y121) y122))) ∧ (Fld Z h151 b125 "com/example/usher/usher/server/Traffic" "latencyMax" "J" (.long (own_max (own_max (0 : Int64) y121) y122))) ∧ (Fld Z h151 b125 "com/example/usher/usher/server/Traffic" "latencyTotal" "J" (.long (((0 : Int64) + y121) + y122))) ∧ Rch p e below (s₁.setTop (entryFrame m #[(.int p1), (.long q2), (.long q3), (.long q4), (.int p5)] maxLocals)) (T151.setTop (mkF m 86 #[.val (.int p1), .val (.long q2), .second, .val (.long q3), .second, .val (.long q4), .second, .val (.int p5), .val (.int (2 : Int32)), .val (.long y121), .second, .val (.long y122), .second, .val (.long y123), .second, .val (.ref b125), .unset, .unset, .unset, .unset, .unset, .unset, .unset] [])) := by
      by_cases c152 : x149 = (0 : Int32)
      · have P153 : Rch p e below (s₁.setTop (entryFrame m #[(.int p1), (.long q2), (.long q3), (.long q4), (.int p5)] maxLocals)) (T146.setTop (mkF m 86 #[.val (.int p1), .val (.long q2), .second, .val (.long q3), .second, .val (.long q4), .second, .val (.int p5), .val (.int (2 : Int32)), .val (.long y121), .second, .val (.long y122), .second, .val (.long y123), .second, .val (.ref b125), .unset, .unset, .unset, .unset, .unset, .unset, .unset] [])) := fun t k => P150 t (by
          show Steps p.tables e below (T146.setTop (mkF m 78 #[.val (.int p1), .val (.long q2), .second, .val (.long q3), .second, .val (.long q4), .second, .val (.int p5), .val (.int (2 : Int32)), .val (.long y121), .second, .val (.long y122), .second, .val (.long y123), .second, .val (.ref b125), .unset, .unset, .unset, .unset, .unset, .unset, .unset] [(.int x149)])) t
          refine XS.ifYes X146.here hx rfl (pc0 := 78) (pc' := 86) rfl (hb hby at_78) rfl ((if0 _ _).trans (teq c152).1) (by decide) (by decide) ?_
          exact k)
        have f154 : n0 ≤ T146.heap.size := (Nat.le_trans f147 K146.1)
        exact ⟨T146, _, T146.heap, ((u__133 + (1 : Int64)) + (1 : Int64)), X146, rfl, N146, f154, (Keep.refl T146.heap [b125]), G0_146, G1_146, G2_146, G3_146, G4_146, P153⟩
      · have P155 : Rch p e below (s₁.setTop (entryFrame m #[(.int p1), (.long q2), (.long q3), (.long q4), (.int p5)] maxLocals)) (T146.setTop (mkF m 83 #[.val (.int p1), .val (.long q2), .second, .val (.long q3), .second, .val (.long q4), .second, .val (.int p5), .val (.int (2 : Int32)), .val (.long y121), .second, .val (.long y122), .second, .val (.long y123), .second, .val (.ref b125), .unset, .unset, .unset, .unset, .unset, .unset, .unset] [(.ref b125)])) := fun t k => P150 t (by
          show Steps p.tables e below (T146.setTop (mkF m 78 #[.val (.int p1), .val (.long q2), .second, .val (.long q3), .second, .val (.long q4), .second, .val (.int p5), .val (.int (2 : Int32)), .val (.long y121), .second, .val (.long y122), .second, .val (.long y123), .second, .val (.ref b125), .unset, .unset, .unset, .unset, .unset, .unset, .unset] [(.int x149)])) t
          refine XS.ifNo X146.here hx rfl (hb hby at_78) rfl ((if0 _ _).trans (feq c152).1) ?_
          show Steps p.tables e below (T146.setTop (mkF m 81 #[.val (.int p1), .val (.long q2), .second, .val (.long q3), .second, .val (.long q4), .second, .val (.int p5), .val (.int (2 : Int32)), .val (.long y121), .second, .val (.long y122), .second, .val (.long y123), .second, .val (.ref b125), .unset, .unset, .unset, .unset, .unset, .unset, .unset] [])) t
          refine XS.aload X146.here hx rfl (hb hby at_81) rfl rfl ?_
          exact k)
        have f157 : n0 ≤ T146.heap.size := (Nat.le_trans f147 K146.1)
        obtain ⟨cq156, kq156, q156a, q156b, q156c⟩ := isOf hZ rfl E_146
        obtain ⟨_, _, ⟨T156, L156, k156, n156⟩, -, X156, ⟨Lc156, hQ156, l156, y156, z156⟩, st156⟩ := X146.virtualBack hx (y := (⟨"com/example/usher/usher/server/Traffic", "notificationSent", "()V"⟩ : MethodName)) (z := (⟨"com/example/usher/usher/server/Traffic", "notificationSent", "()V"⟩ : MethodName)) hown (mvT hZ (hw _ (List.mem_of_getElem? (i := 13) rfl))) (mvT hZ (hw _ (List.mem_of_getElem? (i := 14) rfl))) (notFace_of_selects (args := #[]) (mvT hZ (hw _ (List.mem_of_getElem? (i := 16) rfl)))) (mvT hZ (hw _ (List.mem_of_getElem? (i := 16) rfl))) (mvT hZ (hw _ (List.mem_of_getElem? (i := 15) rfl))) (by decide) (backOf (W := 0) (rmN l Z a0 hw [] b125 ((u__133 + (1 : Int64)) + (1 : Int64)) (((0 : Int64) + (1 : Int64)) + (1 : Int64)) (own_min (own_min (9223372036854775807 : Int64) y121) y122) (own_max (own_max (0 : Int64) y121) y122) (((0 : Int64) + y121) + y122) T146.heap n0 f157 E_146 g_b125 G0_146 G1_146 G2_146 G3_146 G4_146) hZ (hw _ (List.mem_of_getElem? (i := 17) rfl)) (hw _ (List.mem_of_getElem? (i := 3) rfl)) (by decide) (by decide)) q156a q156c (g := (mkF m 83 #[.val (.int p1), .val (.long q2), .second, .val (.long q3), .second, .val (.long q4), .second, .val (.int p5), .val (.int (2 : Int32)), .val (.long y121), .second, .val (.long y122), .second, .val (.long y123), .second, .val (.ref b125), .unset, .unset, .unset, .unset, .unset, .unset, .unset] [(.ref b125)])) rfl (by rw [hml]; rfl) (Steps.refl _) (argsL := []) (rest := []) (lenOf pd_1 rfl) rfl (by show 2 * 0 + _ ≤ _; exact Nat.le_of_eq rfl) (hb hby at_83) (fun _ _ => ⟨rfl, rfl, (by decide : 1 + 0 ≤ _), (by decide : 8 + 0 ≤ _)⟩)
        dsimp only [Pt.U, Pt.locs, Pt.cells, Pt.slots] at X156 l156 y156 z156 st156 hQ156
        subst l156 y156 z156
        obtain ⟨rfl, N156q, K156, E_156, G0_156, G1_156, G2_156, G3_156, G4_156⟩ := hQ156
        have N156 := Fr.app N146 N156q
        have P158 : Rch p e below (s₁.setTop (entryFrame m #[(.int p1), (.long q2), (.long q3), (.long q4), (.int p5)] maxLocals)) (T156.setTop (mkF m 86 #[.val (.int p1), .val (.long q2), .second, .val (.long q3), .second, .val (.long q4), .second, .val (.int p5), .val (.int (2 : Int32)), .val (.long y121), .second, .val (.long y122), .second, .val (.long y123), .second, .val (.ref b125), .unset, .unset, .unset, .unset, .unset, .unset, .unset] [])) := fun t k => P155 t (st156.trans k)
        have f159 : n0 ≤ T156.heap.size := (Nat.le_trans f157 K156.1)
        exact ⟨T156, _, T156.heap, (((u__133 + (1 : Int64)) + (1 : Int64)) + (1 : Int64)), X156, rfl, N156, f159, ((Keep.refl T146.heap [b125]).trans K156 (allS (P := fun x => x ∈ ([b125] : List Addr) ∨ T146.heap.size ≤ x) (Or.inl (List.mem_of_getElem? (i := 0) rfl)) all0)), G0_156, G1_156, G2_156, G3_156, G4_156, P158⟩
    have P160 : Rch p e below (s₁.setTop (entryFrame m #[(.int p1), (.long q2), (.long q3), (.long q4), (.int p5)] maxLocals)) (T151.setTop (mkF m 101 #[.val (.int p1), .val (.long q2), .second, .val (.long q3), .second, .val (.long q4), .second, .val (.int p5), .val (.int (2 : Int32)), .val (.long y121), .second, .val (.long y122), .second, .val (.long y123), .second, .val (.ref b125), .unset, .unset, .unset, .unset, .unset, .unset, .unset] [(.ref b125)])) := fun t k => P151 t (by
      show Steps p.tables e below (T151.setTop (mkF m 86 #[.val (.int p1), .val (.long q2), .second, .val (.long q3), .second, .val (.long q4), .second, .val (.int p5), .val (.int (2 : Int32)), .val (.long y121), .second, .val (.long y122), .second, .val (.long y123), .second, .val (.ref b125), .unset, .unset, .unset, .unset, .unset, .unset, .unset] [])) t
      refine XS.iload X151.here hx rfl (hb hby at_86) rfl ?_
      show Steps p.tables e below (T151.setTop (mkF m 88 #[.val (.int p1), .val (.long q2), .second, .val (.long q3), .second, .val (.long q4), .second, .val (.int p5), .val (.int (2 : Int32)), .val (.long y121), .second, .val (.long y122), .second, .val (.long y123), .second, .val (.ref b125), .unset, .unset, .unset, .unset, .unset, .unset, .unset] [(.int (2 : Int32))])) t
      refine XS.iconst X151.here hx rfl (hb hby at_88) ?_
      show Steps p.tables e below (T151.setTop (mkF m 89 #[.val (.int p1), .val (.long q2), .second, .val (.long q3), .second, .val (.long q4), .second, .val (.int p5), .val (.int (2 : Int32)), .val (.long y121), .second, .val (.long y122), .second, .val (.long y123), .second, .val (.ref b125), .unset, .unset, .unset, .unset, .unset, .unset, .unset] [(.int (3 : Int32)), (.int (2 : Int32))])) t
      refine XS.icmpYes X151.here hx rfl (pc0 := 89) (pc' := 99) rfl (hb hby at_89) rfl (tlt (by decide)).1 (by decide) (by decide) ?_
      show Steps p.tables e below (T151.setTop (mkF m 99 #[.val (.int p1), .val (.long q2), .second, .val (.long q3), .second, .val (.long q4), .second, .val (.int p5), .val (.int (2 : Int32)), .val (.long y121), .second, .val (.long y122), .second, .val (.long y123), .second, .val (.ref b125), .unset, .unset, .unset, .unset, .unset, .unset, .unset] [])) t
      refine XS.aload X151.here hx rfl (hb hby at_99) rfl rfl ?_
      exact k)
    obtain ⟨cq161, kq161, q161a, q161b, q161c⟩ := isOf hZ e151 (E_146.keep K151)
    obtain ⟨_, _, ⟨T161, L161, k161, n161⟩, -, X161, ⟨Lc161, hQ161, l161, y161, z161⟩, st161⟩ := X151.virtualBack hx (y := (⟨"com/example/usher/usher/server/Traffic", "latencyMillis", "()[J"⟩ : MethodName)) (z := (⟨"com/example/usher/usher/server/Traffic", "latencyMillis", "()[J"⟩ : MethodName)) hown (mvT hZ (hw _ (List.mem_of_getElem? (i := 20) rfl))) (mvT hZ (hw _ (List.mem_of_getElem? (i := 21) rfl))) (notFace_of_selects (args := #[]) (mvT hZ (hw _ (List.mem_of_getElem? (i := 23) rfl)))) (mvT hZ (hw _ (List.mem_of_getElem? (i := 23) rfl))) (mvT hZ (hw _ (List.mem_of_getElem? (i := 22) rfl))) (by decide) (backOf (W := 0) (rmL1 l Z a0 hw [] b125 (((0 : Int64) + (1 : Int64)) + (1 : Int64)) (own_min (own_min (9223372036854775807 : Int64) y121) y122) (own_max (own_max (0 : Int64) y121) y122) (((0 : Int64) + y121) + y122) h151 n0 Z151 G1_151 G2_151 G3_151 G4_151 (by decide)) hZ (hw _ (List.mem_of_getElem? (i := 24) rfl)) (hw _ (List.mem_of_getElem? (i := 3) rfl)) (by decide) (by decide)) q161a q161c (g := (mkF m 101 #[.val (.int p1), .val (.long q2), .second, .val (.long q3), .second, .val (.long q4), .second, .val (.int p5), .val (.int (2 : Int32)), .val (.long y121), .second, .val (.long y122), .second, .val (.long y123), .second, .val (.ref b125), .unset, .unset, .unset, .unset, .unset, .unset, .unset] [(.ref b125)])) rfl (by rw [hml]; rfl) (Steps.refl _) (argsL := []) (rest := []) (lenOf pd_2 rfl) rfl (by show 2 * 0 + _ ≤ _; exact Nat.le_of_eq rfl) (hb hby at_101) (fun _ _ => ⟨rfl, e151, (by decide : 1 + 1 ≤ _), (by decide : 8 + 3 ≤ _)⟩)
    dsimp only [Pt.U, Pt.locs, Pt.cells, Pt.slots] at X161 l161 y161 z161 st161 hQ161
    subst l161 y161 z161
    have f162 : Exa Z h151 b125 "com/example/usher/usher/server/Traffic" := (((((A125.keep K128).keep K133).keep K143).keep K146).keep K151)
    have f163 : Keep h0 h151 [] := (((((((Keep.refl h0 []).ext E125).trans K128 (allS (P := fun x => x ∈ [] ∨ h0.size ≤ x) (Or.inr sz_b125) all0)).trans K133 (allS (P := fun x => x ∈ [] ∨ h0.size ≤ x) (Or.inr sz_b125) all0)).trans K143 (allS (P := fun x => x ∈ [] ∨ h0.size ≤ x) (Or.inr sz_b125) all0)).trans K146 (allS (P := fun x => x ∈ [] ∨ h0.size ≤ x) (Or.inr sz_b125) all0)).trans K151 (allS (P := fun x => x ∈ [] ∨ h0.size ≤ x) (Or.inr sz_b125) all0))
    obtain ⟨b__161, kb__161, rfl, N161q, K161, Fz_161, V_161⟩ := hQ161
    have N161 := Fr.app N151 N161q
    have g_b__161 : n0 ≤ b__161 := Nat.le_trans Z151 Fz_161
    have sz_b__161 : h0.size ≤ b__161 := Nat.le_trans f163.1 Fz_161
    have ne_b125_b__161 : b125 ≠ b__161 := Nat.ne_of_lt (Nat.lt_of_lt_of_le f162.lt Fz_161)
    have P164 : Rch p e below (s₁.setTop (entryFrame m #[(.int p1), (.long q2), (.long q3), (.long q4), (.int p5)] maxLocals)) (T161.setTop (mkF m 104 #[.val (.int p1), .val (.long q2), .second, .val (.long q3), .second, .val (.long q4), .second, .val (.int p5), .val (.int (2 : Int32)), .val (.long y121), .second, .val (.long y122), .second, .val (.long y123), .second, .val (.ref b125), .unset, .unset, .unset, .unset, .unset, .unset, .unset] [(.ref b__161)])) := fun t k => P160 t (st161.trans k)
    have P165 : Rch p e below (s₁.setTop (entryFrame m #[(.int p1), (.long q2), (.long q3), (.long q4), (.int p5)] maxLocals)) (T161.setTop (mkF m 113 #[.val (.int p1), .val (.long q2), .second, .val (.long q3), .second, .val (.long q4), .second, .val (.int p5), .val (.int (2 : Int32)), .val (.long y121), .second, .val (.long y122), .second, .val (.long y123), .second, .val (.ref b125), .val (.ref b__161), .unset, .unset, .unset, .unset, .unset, .unset] [(.ref b__161)])) := fun t k => P164 t (by
      show Steps p.tables e below (T161.setTop (mkF m 104 #[.val (.int p1), .val (.long q2), .second, .val (.long q3), .second, .val (.long q4), .second, .val (.int p5), .val (.int (2 : Int32)), .val (.long y121), .second, .val (.long y122), .second, .val (.long y123), .second, .val (.ref b125), .unset, .unset, .unset, .unset, .unset, .unset, .unset] [(.ref b__161)])) t
      refine XS.astore X161.here hx rfl (hb hby at_104) rfl rfl (l' := #[.val (.int p1), .val (.long q2), .second, .val (.long q3), .second, .val (.long q4), .second, .val (.int p5), .val (.int (2 : Int32)), .val (.long y121), .second, .val (.long y122), .second, .val (.long y123), .second, .val (.ref b125), .val (.ref b__161), .unset, .unset, .unset, .unset, .unset, .unset]) rfl ?_
      show Steps p.tables e below (T161.setTop (mkF m 106 #[.val (.int p1), .val (.long q2), .second, .val (.long q3), .second, .val (.long q4), .second, .val (.int p5), .val (.int (2 : Int32)), .val (.long y121), .second, .val (.long y122), .second, .val (.long y123), .second, .val (.ref b125), .val (.ref b__161), .unset, .unset, .unset, .unset, .unset, .unset] [])) t
      refine XS.aload X161.here hx rfl (hb hby at_106) rfl rfl ?_
      show Steps p.tables e below (T161.setTop (mkF m 108 #[.val (.int p1), .val (.long q2), .second, .val (.long q3), .second, .val (.long q4), .second, .val (.int p5), .val (.int (2 : Int32)), .val (.long y121), .second, .val (.long y122), .second, .val (.long y123), .second, .val (.ref b125), .val (.ref b__161), .unset, .unset, .unset, .unset, .unset, .unset] [(.ref b__161)])) t
      refine XS.ifnullNo X161.here hx rfl (hb hby at_108) rfl ?_
      show Steps p.tables e below (T161.setTop (mkF m 111 #[.val (.int p1), .val (.long q2), .second, .val (.long q3), .second, .val (.long q4), .second, .val (.int p5), .val (.int (2 : Int32)), .val (.long y121), .second, .val (.long y122), .second, .val (.long y123), .second, .val (.ref b125), .val (.ref b__161), .unset, .unset, .unset, .unset, .unset, .unset] [])) t
      refine XS.aload X161.here hx rfl (hb hby at_111) rfl rfl ?_
      exact k)
    have V_o166 := V_161
    obtain ⟨co166, Aro166, qo166, So166, Mo166, Ho166, Go166⟩ := V_o166
    have P167 : Rch p e below (s₁.setTop (entryFrame m #[(.int p1), (.long q2), (.long q3), (.long q4), (.int p5)] maxLocals)) (T161.setTop (mkF m 114 #[.val (.int p1), .val (.long q2), .second, .val (.long q3), .second, .val (.long q4), .second, .val (.int p5), .val (.int (2 : Int32)), .val (.long y121), .second, .val (.long y122), .second, .val (.long y123), .second, .val (.ref b125), .val (.ref b__161), .unset, .unset, .unset, .unset, .unset, .unset] [(.int (3 : Int32))])) := fun t k => P165 t (by
      refine X161.arraylength hx Aro166.1 (State.isArrayOf_alike hZ.alike Aro166.2.1) (g := (mkF m 113 #[.val (.int p1), .val (.long q2), .second, .val (.long q3), .second, .val (.long q4), .second, .val (.int p5), .val (.int (2 : Int32)), .val (.long y121), .second, .val (.long y122), .second, .val (.long y123), .second, .val (.ref b125), .val (.ref b__161), .unset, .unset, .unset, .unset, .unset, .unset] [(.ref b__161)])) rfl rfl (hb hby at_113) _ ?_
      rw [len_of So166 Mo166]; exact k)
    have P168 : Rch p e below (s₁.setTop (entryFrame m #[(.int p1), (.long q2), (.long q3), (.long q4), (.int p5)] maxLocals)) (T161.setTop (mkF m 188 #[.val (.int p1), .val (.long q2), .second, .val (.long q3), .second, .val (.long q4), .second, .val (.int p5), .val (.int (2 : Int32)), .val (.long y121), .second, .val (.long y122), .second, .val (.long y123), .second, .val (.ref b125), .val (.ref b__161), .unset, .unset, .unset, .unset, .unset, .unset] [(.long y122), (.long y121)])) := fun t k => P167 t (by
      show Steps p.tables e below (T161.setTop (mkF m 114 #[.val (.int p1), .val (.long q2), .second, .val (.long q3), .second, .val (.long q4), .second, .val (.int p5), .val (.int (2 : Int32)), .val (.long y121), .second, .val (.long y122), .second, .val (.long y123), .second, .val (.ref b125), .val (.ref b__161), .unset, .unset, .unset, .unset, .unset, .unset] [(.int (3 : Int32))])) t
      refine XS.iconst X161.here hx rfl (hb hby at_114) ?_
      show Steps p.tables e below (T161.setTop (mkF m 115 #[.val (.int p1), .val (.long q2), .second, .val (.long q3), .second, .val (.long q4), .second, .val (.int p5), .val (.int (2 : Int32)), .val (.long y121), .second, .val (.long y122), .second, .val (.long y123), .second, .val (.ref b125), .val (.ref b__161), .unset, .unset, .unset, .unset, .unset, .unset] [(.int (3 : Int32)), (.int (3 : Int32))])) t
      refine XS.icmpYes X161.here hx rfl (pc0 := 115) (pc' := 120) rfl (hb hby at_115) rfl (teq (by decide)).1 (by decide) (by decide) ?_
      show Steps p.tables e below (T161.setTop (mkF m 120 #[.val (.int p1), .val (.long q2), .second, .val (.long q3), .second, .val (.long q4), .second, .val (.int p5), .val (.int (2 : Int32)), .val (.long y121), .second, .val (.long y122), .second, .val (.long y123), .second, .val (.ref b125), .val (.ref b__161), .unset, .unset, .unset, .unset, .unset, .unset] [])) t
      refine XS.iload X161.here hx rfl (hb hby at_120) rfl ?_
      show Steps p.tables e below (T161.setTop (mkF m 122 #[.val (.int p1), .val (.long q2), .second, .val (.long q3), .second, .val (.long q4), .second, .val (.int p5), .val (.int (2 : Int32)), .val (.long y121), .second, .val (.long y122), .second, .val (.long y123), .second, .val (.ref b125), .val (.ref b__161), .unset, .unset, .unset, .unset, .unset, .unset] [(.int (2 : Int32))])) t
      refine XS.ifYes X161.here hx rfl (pc0 := 122) (pc' := 137) rfl (hb hby at_122) rfl ((if0 _ _).trans (feq (by decide)).2) (by decide) (by decide) ?_
      show Steps p.tables e below (T161.setTop (mkF m 137 #[.val (.int p1), .val (.long q2), .second, .val (.long q3), .second, .val (.long q4), .second, .val (.int p5), .val (.int (2 : Int32)), .val (.long y121), .second, .val (.long y122), .second, .val (.long y123), .second, .val (.ref b125), .val (.ref b__161), .unset, .unset, .unset, .unset, .unset, .unset] [])) t
      refine XS.iload X161.here hx rfl (hb hby at_137) rfl ?_
      show Steps p.tables e below (T161.setTop (mkF m 139 #[.val (.int p1), .val (.long q2), .second, .val (.long q3), .second, .val (.long q4), .second, .val (.int p5), .val (.int (2 : Int32)), .val (.long y121), .second, .val (.long y122), .second, .val (.long y123), .second, .val (.ref b125), .val (.ref b__161), .unset, .unset, .unset, .unset, .unset, .unset] [(.int (2 : Int32))])) t
      refine XS.iconst X161.here hx rfl (hb hby at_139) ?_
      show Steps p.tables e below (T161.setTop (mkF m 140 #[.val (.int p1), .val (.long q2), .second, .val (.long q3), .second, .val (.long q4), .second, .val (.int p5), .val (.int (2 : Int32)), .val (.long y121), .second, .val (.long y122), .second, .val (.long y123), .second, .val (.ref b125), .val (.ref b__161), .unset, .unset, .unset, .unset, .unset, .unset] [(.int (1 : Int32)), (.int (2 : Int32))])) t
      refine XS.icmpYes X161.here hx rfl (pc0 := 140) (pc' := 178) rfl (hb hby at_140) rfl (feq (by decide)).2 (by decide) (by decide) ?_
      show Steps p.tables e below (T161.setTop (mkF m 178 #[.val (.int p1), .val (.long q2), .second, .val (.long q3), .second, .val (.long q4), .second, .val (.int p5), .val (.int (2 : Int32)), .val (.long y121), .second, .val (.long y122), .second, .val (.long y123), .second, .val (.ref b125), .val (.ref b__161), .unset, .unset, .unset, .unset, .unset, .unset] [])) t
      refine XS.iload X161.here hx rfl (hb hby at_178) rfl ?_
      show Steps p.tables e below (T161.setTop (mkF m 180 #[.val (.int p1), .val (.long q2), .second, .val (.long q3), .second, .val (.long q4), .second, .val (.int p5), .val (.int (2 : Int32)), .val (.long y121), .second, .val (.long y122), .second, .val (.long y123), .second, .val (.ref b125), .val (.ref b__161), .unset, .unset, .unset, .unset, .unset, .unset] [(.int (2 : Int32))])) t
      refine XS.iconst X161.here hx rfl (hb hby at_180) ?_
      show Steps p.tables e below (T161.setTop (mkF m 181 #[.val (.int p1), .val (.long q2), .second, .val (.long q3), .second, .val (.long q4), .second, .val (.int p5), .val (.int (2 : Int32)), .val (.long y121), .second, .val (.long y122), .second, .val (.long y123), .second, .val (.ref b125), .val (.ref b__161), .unset, .unset, .unset, .unset, .unset, .unset] [(.int (2 : Int32)), (.int (2 : Int32))])) t
      refine XS.icmpNo X161.here hx rfl (hb hby at_181) rfl (teq (by decide)).2 ?_
      show Steps p.tables e below (T161.setTop (mkF m 184 #[.val (.int p1), .val (.long q2), .second, .val (.long q3), .second, .val (.long q4), .second, .val (.int p5), .val (.int (2 : Int32)), .val (.long y121), .second, .val (.long y122), .second, .val (.long y123), .second, .val (.ref b125), .val (.ref b__161), .unset, .unset, .unset, .unset, .unset, .unset] [])) t
      refine XS.lload X161.here hx rfl (hb hby at_184) rfl ?_
      show Steps p.tables e below (T161.setTop (mkF m 186 #[.val (.int p1), .val (.long q2), .second, .val (.long q3), .second, .val (.long q4), .second, .val (.int p5), .val (.int (2 : Int32)), .val (.long y121), .second, .val (.long y122), .second, .val (.long y123), .second, .val (.ref b125), .val (.ref b__161), .unset, .unset, .unset, .unset, .unset, .unset] [(.long y121)])) t
      refine XS.lload X161.here hx rfl (hb hby at_186) rfl ?_
      exact k)
    have f170 : n0 ≤ T161.heap.size := (Nat.le_trans Z151 K161.1)
    obtain ⟨_, _, ⟨T169, L169, k169, n169⟩, -, X169, ⟨Lc169, hQ169, l169, y169, z169⟩, st169⟩ := Jvm.LawKit.callS X161 hx (y := (⟨"java/lang/Math", "min", "(JJ)J"⟩ : MethodName)) hown (mvT hZ (hw _ (List.mem_of_getElem? (i := 45) rfl))) (mvT hZ (hw _ (List.mem_of_getElem? (i := 34) rfl))) (mvT hZ (hw _ (List.mem_of_getElem? (i := 35) rfl))) (mvT hZ (hw _ (List.mem_of_getElem? (i := 36) rfl))) (by decide) (backOf (W := 0) (rmMin l Z a0 hw [] y121 y122 T161.heap n0 f170 ) hZ (hw _ (List.mem_of_getElem? (i := 36) rfl)) (hw _ (List.mem_of_getElem? (i := 35) rfl)) (by decide) (by decide)) (g := (mkF m 188 #[.val (.int p1), .val (.long q2), .second, .val (.long q3), .second, .val (.long q4), .second, .val (.int p5), .val (.int (2 : Int32)), .val (.long y121), .second, .val (.long y122), .second, .val (.long y123), .second, .val (.ref b125), .val (.ref b__161), .unset, .unset, .unset, .unset, .unset, .unset] [(.long y122), (.long y121)])) rfl (by rw [hml]; rfl) (argsL := [(.long y121), (.long y122)]) (rest := []) (lenOf pd_0 rfl) rfl (by show 2 * 0 + _ ≤ _; exact Nat.le_of_eq rfl) (hb hby at_188) (fun _ _ => ⟨rfl, rfl, (by decide : 2 + 0 ≤ _), (by decide : 11 + 0 ≤ _)⟩)
    dsimp only [Pt.U, Pt.locs, Pt.cells, Pt.slots] at X169 l169 y169 z169 st169 hQ169
    subst l169 y169 z169
    obtain ⟨rfl, N169q, e169⟩ := hQ169
    have N169 := Fr.app N161 N169q
    have P171 : Rch p e below (s₁.setTop (entryFrame m #[(.int p1), (.long q2), (.long q3), (.long q4), (.int p5)] maxLocals)) (T169.setTop (mkF m 191 #[.val (.int p1), .val (.long q2), .second, .val (.long q3), .second, .val (.long q4), .second, .val (.int p5), .val (.int (2 : Int32)), .val (.long y121), .second, .val (.long y122), .second, .val (.long y123), .second, .val (.ref b125), .val (.ref b__161), .unset, .unset, .unset, .unset, .unset, .unset] [(.long (own_min y121 y122))])) := fun t k => P168 t (st169 t k)
    obtain ⟨y172, hy172⟩ : ∃ z : Int64, z = (own_min y121 y122) := ⟨_, rfl⟩
    rw [← hy172] at P171
    obtain ⟨y173, hy173⟩ : ∃ z : Int64, z = (y172 / (1000000 : Int64)) := ⟨_, rfl⟩
    have P174 : Rch p e below (s₁.setTop (entryFrame m #[(.int p1), (.long q2), (.long q3), (.long q4), (.int p5)] maxLocals)) (T169.setTop (mkF m 201 #[.val (.int p1), .val (.long q2), .second, .val (.long q3), .second, .val (.long q4), .second, .val (.int p5), .val (.int (2 : Int32)), .val (.long y121), .second, .val (.long y122), .second, .val (.long y123), .second, .val (.ref b125), .val (.ref b__161), .val (.long y173), .second, .unset, .unset, .unset, .unset] [(.long y122), (.long y121)])) := fun t k => P171 t (by
      subst hy173
      show Steps p.tables e below (T169.setTop (mkF m 191 #[.val (.int p1), .val (.long q2), .second, .val (.long q3), .second, .val (.long q4), .second, .val (.int p5), .val (.int (2 : Int32)), .val (.long y121), .second, .val (.long y122), .second, .val (.long y123), .second, .val (.ref b125), .val (.ref b__161), .unset, .unset, .unset, .unset, .unset, .unset] [(.long y172)])) t
      refine X169.ldc2Long hx hown (mvT hZ (hw _ (List.mem_of_getElem? (i := 46) rfl))) (g := (mkF m 191 #[.val (.int p1), .val (.long q2), .second, .val (.long q3), .second, .val (.long q4), .second, .val (.int p5), .val (.int (2 : Int32)), .val (.long y121), .second, .val (.long y122), .second, .val (.long y123), .second, .val (.ref b125), .val (.ref b__161), .unset, .unset, .unset, .unset, .unset, .unset] [(.long y172)])) rfl (hb hby at_191) _ ?_
      show Steps p.tables e below (T169.setTop (mkF m 194 #[.val (.int p1), .val (.long q2), .second, .val (.long q3), .second, .val (.long q4), .second, .val (.int p5), .val (.int (2 : Int32)), .val (.long y121), .second, .val (.long y122), .second, .val (.long y123), .second, .val (.ref b125), .val (.ref b__161), .unset, .unset, .unset, .unset, .unset, .unset] [(.long (1000000 : Int64)), (.long y172)])) t
      refine XS.ldiv X169.here hx rfl (hb hby at_194) rfl (by decide) ?_
      show Steps p.tables e below (T169.setTop (mkF m 195 #[.val (.int p1), .val (.long q2), .second, .val (.long q3), .second, .val (.long q4), .second, .val (.int p5), .val (.int (2 : Int32)), .val (.long y121), .second, .val (.long y122), .second, .val (.long y123), .second, .val (.ref b125), .val (.ref b__161), .unset, .unset, .unset, .unset, .unset, .unset] [(.long (y172 / (1000000 : Int64)))])) t
      refine XS.lstore X169.here hx rfl (hb hby at_195) rfl (l' := #[.val (.int p1), .val (.long q2), .second, .val (.long q3), .second, .val (.long q4), .second, .val (.int p5), .val (.int (2 : Int32)), .val (.long y121), .second, .val (.long y122), .second, .val (.long y123), .second, .val (.ref b125), .val (.ref b__161), .val (.long (y172 / (1000000 : Int64))), .second, .unset, .unset, .unset, .unset]) rfl ?_
      show Steps p.tables e below (T169.setTop (mkF m 197 #[.val (.int p1), .val (.long q2), .second, .val (.long q3), .second, .val (.long q4), .second, .val (.int p5), .val (.int (2 : Int32)), .val (.long y121), .second, .val (.long y122), .second, .val (.long y123), .second, .val (.ref b125), .val (.ref b__161), .val (.long (y172 / (1000000 : Int64))), .second, .unset, .unset, .unset, .unset] [])) t
      refine XS.lload X169.here hx rfl (hb hby at_197) rfl ?_
      show Steps p.tables e below (T169.setTop (mkF m 199 #[.val (.int p1), .val (.long q2), .second, .val (.long q3), .second, .val (.long q4), .second, .val (.int p5), .val (.int (2 : Int32)), .val (.long y121), .second, .val (.long y122), .second, .val (.long y123), .second, .val (.ref b125), .val (.ref b__161), .val (.long (y172 / (1000000 : Int64))), .second, .unset, .unset, .unset, .unset] [(.long y121)])) t
      refine XS.lload X169.here hx rfl (hb hby at_199) rfl ?_
      exact k)
    obtain ⟨_, _, ⟨T175, L175, k175, n175⟩, -, X175, ⟨Lc175, hQ175, l175, y175, z175⟩, st175⟩ := Jvm.LawKit.callS X169 hx (y := (⟨"java/lang/Math", "max", "(JJ)J"⟩ : MethodName)) hown (mvT hZ (hw _ (List.mem_of_getElem? (i := 47) rfl))) (mvT hZ (hw _ (List.mem_of_getElem? (i := 40) rfl))) (mvT hZ (hw _ (List.mem_of_getElem? (i := 35) rfl))) (mvT hZ (hw _ (List.mem_of_getElem? (i := 41) rfl))) (by decide) (backOf (W := 0) (rmMax l Z a0 hw [] y121 y122 T161.heap n0 f170 ) hZ (hw _ (List.mem_of_getElem? (i := 41) rfl)) (hw _ (List.mem_of_getElem? (i := 35) rfl)) (by decide) (by decide)) (g := (mkF m 201 #[.val (.int p1), .val (.long q2), .second, .val (.long q3), .second, .val (.long q4), .second, .val (.int p5), .val (.int (2 : Int32)), .val (.long y121), .second, .val (.long y122), .second, .val (.long y123), .second, .val (.ref b125), .val (.ref b__161), .val (.long y173), .second, .unset, .unset, .unset, .unset] [(.long y122), (.long y121)])) rfl (by rw [hml]; rfl) (argsL := [(.long y121), (.long y122)]) (rest := []) (lenOf pd_0 rfl) rfl (by show 2 * 0 + _ ≤ _; exact Nat.le_of_eq rfl) (hb hby at_201) (fun _ _ => ⟨rfl, e169, (by decide : 2 + 0 ≤ _), (by decide : 11 + 0 ≤ _)⟩)
    dsimp only [Pt.U, Pt.locs, Pt.cells, Pt.slots] at X175 l175 y175 z175 st175 hQ175
    subst l175 y175 z175
    obtain ⟨rfl, N175q, e175⟩ := hQ175
    have N175 := Fr.app N169 N175q
    have P176 : Rch p e below (s₁.setTop (entryFrame m #[(.int p1), (.long q2), (.long q3), (.long q4), (.int p5)] maxLocals)) (T175.setTop (mkF m 204 #[.val (.int p1), .val (.long q2), .second, .val (.long q3), .second, .val (.long q4), .second, .val (.int p5), .val (.int (2 : Int32)), .val (.long y121), .second, .val (.long y122), .second, .val (.long y123), .second, .val (.ref b125), .val (.ref b__161), .val (.long y173), .second, .unset, .unset, .unset, .unset] [(.long (own_max y121 y122))])) := fun t k => P174 t (st175 t k)
    obtain ⟨y177, hy177⟩ : ∃ z : Int64, z = (own_max y121 y122) := ⟨_, rfl⟩
    rw [← hy177] at P176
    obtain ⟨y178, hy178⟩ : ∃ z : Int64, z = ((y121 + y122) / (2000000 : Int64)) := ⟨_, rfl⟩
    obtain ⟨y179, hy179⟩ : ∃ z : Int64, z = (y177 / (1000000 : Int64)) := ⟨_, rfl⟩
    have P180 : Rch p e below (s₁.setTop (entryFrame m #[(.int p1), (.long q2), (.long q3), (.long q4), (.int p5)] maxLocals)) (T175.setTop (mkF m 277 #[.val (.int p1), .val (.long q2), .second, .val (.long q3), .second, .val (.long q4), .second, .val (.int p5), .val (.int (2 : Int32)), .val (.long y121), .second, .val (.long y122), .second, .val (.long y123), .second, .val (.ref b125), .val (.ref b__161), .val (.long y173), .second, .val (.long y178), .second, .val (.long y179), .second] [(.int (0 : Int32)), (.ref b__161)])) := fun t k => P176 t (by
      subst hy178 hy179
      show Steps p.tables e below (T175.setTop (mkF m 204 #[.val (.int p1), .val (.long q2), .second, .val (.long q3), .second, .val (.long q4), .second, .val (.int p5), .val (.int (2 : Int32)), .val (.long y121), .second, .val (.long y122), .second, .val (.long y123), .second, .val (.ref b125), .val (.ref b__161), .val (.long y173), .second, .unset, .unset, .unset, .unset] [(.long y177)])) t
      refine X175.ldc2Long hx hown (mvT hZ (hw _ (List.mem_of_getElem? (i := 46) rfl))) (g := (mkF m 204 #[.val (.int p1), .val (.long q2), .second, .val (.long q3), .second, .val (.long q4), .second, .val (.int p5), .val (.int (2 : Int32)), .val (.long y121), .second, .val (.long y122), .second, .val (.long y123), .second, .val (.ref b125), .val (.ref b__161), .val (.long y173), .second, .unset, .unset, .unset, .unset] [(.long y177)])) rfl (hb hby at_204) _ ?_
      show Steps p.tables e below (T175.setTop (mkF m 207 #[.val (.int p1), .val (.long q2), .second, .val (.long q3), .second, .val (.long q4), .second, .val (.int p5), .val (.int (2 : Int32)), .val (.long y121), .second, .val (.long y122), .second, .val (.long y123), .second, .val (.ref b125), .val (.ref b__161), .val (.long y173), .second, .unset, .unset, .unset, .unset] [(.long (1000000 : Int64)), (.long y177)])) t
      refine XS.ldiv X175.here hx rfl (hb hby at_207) rfl (by decide) ?_
      show Steps p.tables e below (T175.setTop (mkF m 208 #[.val (.int p1), .val (.long q2), .second, .val (.long q3), .second, .val (.long q4), .second, .val (.int p5), .val (.int (2 : Int32)), .val (.long y121), .second, .val (.long y122), .second, .val (.long y123), .second, .val (.ref b125), .val (.ref b__161), .val (.long y173), .second, .unset, .unset, .unset, .unset] [(.long (y177 / (1000000 : Int64)))])) t
      refine XS.lstore X175.here hx rfl (hb hby at_208) rfl (l' := #[.val (.int p1), .val (.long q2), .second, .val (.long q3), .second, .val (.long q4), .second, .val (.int p5), .val (.int (2 : Int32)), .val (.long y121), .second, .val (.long y122), .second, .val (.long y123), .second, .val (.ref b125), .val (.ref b__161), .val (.long y173), .second, .unset, .unset, .val (.long (y177 / (1000000 : Int64))), .second]) rfl ?_
      show Steps p.tables e below (T175.setTop (mkF m 210 #[.val (.int p1), .val (.long q2), .second, .val (.long q3), .second, .val (.long q4), .second, .val (.int p5), .val (.int (2 : Int32)), .val (.long y121), .second, .val (.long y122), .second, .val (.long y123), .second, .val (.ref b125), .val (.ref b__161), .val (.long y173), .second, .unset, .unset, .val (.long (y177 / (1000000 : Int64))), .second] [])) t
      refine XS.lload X175.here hx rfl (hb hby at_210) rfl ?_
      show Steps p.tables e below (T175.setTop (mkF m 212 #[.val (.int p1), .val (.long q2), .second, .val (.long q3), .second, .val (.long q4), .second, .val (.int p5), .val (.int (2 : Int32)), .val (.long y121), .second, .val (.long y122), .second, .val (.long y123), .second, .val (.ref b125), .val (.ref b__161), .val (.long y173), .second, .unset, .unset, .val (.long (y177 / (1000000 : Int64))), .second] [(.long y121)])) t
      refine XS.lload X175.here hx rfl (hb hby at_212) rfl ?_
      show Steps p.tables e below (T175.setTop (mkF m 214 #[.val (.int p1), .val (.long q2), .second, .val (.long q3), .second, .val (.long q4), .second, .val (.int p5), .val (.int (2 : Int32)), .val (.long y121), .second, .val (.long y122), .second, .val (.long y123), .second, .val (.ref b125), .val (.ref b__161), .val (.long y173), .second, .unset, .unset, .val (.long (y177 / (1000000 : Int64))), .second] [(.long y122), (.long y121)])) t
      refine XS.ladd X175.here hx rfl (hb hby at_214) rfl ?_
      show Steps p.tables e below (T175.setTop (mkF m 215 #[.val (.int p1), .val (.long q2), .second, .val (.long q3), .second, .val (.long q4), .second, .val (.int p5), .val (.int (2 : Int32)), .val (.long y121), .second, .val (.long y122), .second, .val (.long y123), .second, .val (.ref b125), .val (.ref b__161), .val (.long y173), .second, .unset, .unset, .val (.long (y177 / (1000000 : Int64))), .second] [(.long (y121 + y122))])) t
      refine X175.ldc2Long hx hown (mvT hZ (hw _ (List.mem_of_getElem? (i := 49) rfl))) (g := (mkF m 215 #[.val (.int p1), .val (.long q2), .second, .val (.long q3), .second, .val (.long q4), .second, .val (.int p5), .val (.int (2 : Int32)), .val (.long y121), .second, .val (.long y122), .second, .val (.long y123), .second, .val (.ref b125), .val (.ref b__161), .val (.long y173), .second, .unset, .unset, .val (.long (y177 / (1000000 : Int64))), .second] [(.long (y121 + y122))])) rfl (hb hby at_215) _ ?_
      show Steps p.tables e below (T175.setTop (mkF m 218 #[.val (.int p1), .val (.long q2), .second, .val (.long q3), .second, .val (.long q4), .second, .val (.int p5), .val (.int (2 : Int32)), .val (.long y121), .second, .val (.long y122), .second, .val (.long y123), .second, .val (.ref b125), .val (.ref b__161), .val (.long y173), .second, .unset, .unset, .val (.long (y177 / (1000000 : Int64))), .second] [(.long (2000000 : Int64)), (.long (y121 + y122))])) t
      refine XS.ldiv X175.here hx rfl (hb hby at_218) rfl (by decide) ?_
      show Steps p.tables e below (T175.setTop (mkF m 219 #[.val (.int p1), .val (.long q2), .second, .val (.long q3), .second, .val (.long q4), .second, .val (.int p5), .val (.int (2 : Int32)), .val (.long y121), .second, .val (.long y122), .second, .val (.long y123), .second, .val (.ref b125), .val (.ref b__161), .val (.long y173), .second, .unset, .unset, .val (.long (y177 / (1000000 : Int64))), .second] [(.long ((y121 + y122) / (2000000 : Int64)))])) t
      refine XS.lstore X175.here hx rfl (hb hby at_219) rfl (l' := #[.val (.int p1), .val (.long q2), .second, .val (.long q3), .second, .val (.long q4), .second, .val (.int p5), .val (.int (2 : Int32)), .val (.long y121), .second, .val (.long y122), .second, .val (.long y123), .second, .val (.ref b125), .val (.ref b__161), .val (.long y173), .second, .val (.long ((y121 + y122) / (2000000 : Int64))), .second, .val (.long (y177 / (1000000 : Int64))), .second]) rfl ?_
      show Steps p.tables e below (T175.setTop (mkF m 221 #[.val (.int p1), .val (.long q2), .second, .val (.long q3), .second, .val (.long q4), .second, .val (.int p5), .val (.int (2 : Int32)), .val (.long y121), .second, .val (.long y122), .second, .val (.long y123), .second, .val (.ref b125), .val (.ref b__161), .val (.long y173), .second, .val (.long ((y121 + y122) / (2000000 : Int64))), .second, .val (.long (y177 / (1000000 : Int64))), .second] [])) t
      refine XS.goto X175.here hx rfl (pc0 := 221) (pc' := 274) rfl (hb hby at_221) (by decide) (by decide) ?_
      show Steps p.tables e below (T175.setTop (mkF m 274 #[.val (.int p1), .val (.long q2), .second, .val (.long q3), .second, .val (.long q4), .second, .val (.int p5), .val (.int (2 : Int32)), .val (.long y121), .second, .val (.long y122), .second, .val (.long y123), .second, .val (.ref b125), .val (.ref b__161), .val (.long y173), .second, .val (.long ((y121 + y122) / (2000000 : Int64))), .second, .val (.long (y177 / (1000000 : Int64))), .second] [])) t
      refine XS.aload X175.here hx rfl (hb hby at_274) rfl rfl ?_
      show Steps p.tables e below (T175.setTop (mkF m 276 #[.val (.int p1), .val (.long q2), .second, .val (.long q3), .second, .val (.long q4), .second, .val (.int p5), .val (.int (2 : Int32)), .val (.long y121), .second, .val (.long y122), .second, .val (.long y123), .second, .val (.ref b125), .val (.ref b__161), .val (.long y173), .second, .val (.long ((y121 + y122) / (2000000 : Int64))), .second, .val (.long (y177 / (1000000 : Int64))), .second] [(.ref b__161)])) t
      refine XS.iconst X175.here hx rfl (hb hby at_276) ?_
      exact k)
    have V_o181 := V_161
    obtain ⟨co181, Aro181, qo181, So181, Mo181, Ho181, Go181⟩ := V_o181
    have hin182 : ¬ ((0 : Int32) < 0 ∨ co181.slots.size ≤ ((0 : Int32)).toNatClampNeg) := inb_of So181 ⟨by decide, by decide⟩
    have hat182 : co181.slots[((0 : Int32)).toNatClampNeg]? = some (.long ((own_min (own_min (9223372036854775807 : Int64) y121) y122) / (1000000 : Int64))) := Has.at Ho181 hin182 rfl
    have P183 : Rch p e below (s₁.setTop (entryFrame m #[(.int p1), (.long q2), (.long q3), (.long q4), (.int p5)] maxLocals)) (T175.setTop (mkF m 278 #[.val (.int p1), .val (.long q2), .second, .val (.long q3), .second, .val (.long q4), .second, .val (.int p5), .val (.int (2 : Int32)), .val (.long y121), .second, .val (.long y122), .second, .val (.long y123), .second, .val (.ref b125), .val (.ref b__161), .val (.long y173), .second, .val (.long y178), .second, .val (.long y179), .second] [(.long ((own_min (own_min (9223372036854775807 : Int64) y121) y122) / (1000000 : Int64)))])) := fun t k => P180 t (X175.laload hx (j := (0 : Int32)) (v := (.long ((own_min (own_min (9223372036854775807 : Int64) y121) y122) / (1000000 : Int64)))) (by rw [e175]; exact Aro181.1) (State.isArrayOf_alike hZ.alike Aro181.2.1) Aro181.2.2 hin182 hat182 (g := (mkF m 277 #[.val (.int p1), .val (.long q2), .second, .val (.long q3), .second, .val (.long q4), .second, .val (.int p5), .val (.int (2 : Int32)), .val (.long y121), .second, .val (.long y122), .second, .val (.long y123), .second, .val (.ref b125), .val (.ref b__161), .val (.long y173), .second, .val (.long y178), .second, .val (.long y179), .second] [(.int (0 : Int32)), (.ref b__161)])) rfl rfl (hb hby at_277) t k)
    obtain ⟨y184, hy184⟩ : ∃ z : Int64, z = ((own_min (own_min (9223372036854775807 : Int64) y121) y122) / (1000000 : Int64)) := ⟨_, rfl⟩
    have P185 : Rch p e below (s₁.setTop (entryFrame m #[(.int p1), (.long q2), (.long q3), (.long q4), (.int p5)] maxLocals)) (T175.setTop (mkF m 281 #[.val (.int p1), .val (.long q2), .second, .val (.long q3), .second, .val (.long q4), .second, .val (.int p5), .val (.int (2 : Int32)), .val (.long y121), .second, .val (.long y122), .second, .val (.long y123), .second, .val (.ref b125), .val (.ref b__161), .val (.long y173), .second, .val (.long y178), .second, .val (.long y179), .second] [(.int (lcmpW y184 y173))])) := fun t k => P183 t (by
      subst hy184
      show Steps p.tables e below (T175.setTop (mkF m 278 #[.val (.int p1), .val (.long q2), .second, .val (.long q3), .second, .val (.long q4), .second, .val (.int p5), .val (.int (2 : Int32)), .val (.long y121), .second, .val (.long y122), .second, .val (.long y123), .second, .val (.ref b125), .val (.ref b__161), .val (.long y173), .second, .val (.long y178), .second, .val (.long y179), .second] [(.long ((own_min (own_min (9223372036854775807 : Int64) y121) y122) / (1000000 : Int64)))])) t
      refine XS.lload X175.here hx rfl (hb hby at_278) rfl ?_
      show Steps p.tables e below (T175.setTop (mkF m 280 #[.val (.int p1), .val (.long q2), .second, .val (.long q3), .second, .val (.long q4), .second, .val (.int p5), .val (.int (2 : Int32)), .val (.long y121), .second, .val (.long y122), .second, .val (.long y123), .second, .val (.ref b125), .val (.ref b__161), .val (.long y173), .second, .val (.long y178), .second, .val (.long y179), .second] [(.long y173), (.long ((own_min (own_min (9223372036854775807 : Int64) y121) y122) / (1000000 : Int64)))])) t
      refine XS.lcmp X175.here hx rfl (hb hby at_280) rfl ?_
      exact k)
    have hq0_ : y184 = y173 := by
      subst hy184 hy173 hy172
      exact own_e20 _ (own_y (hy121)) _ (own_y (hy122))
    have P186 : Rch p e below (s₁.setTop (entryFrame m #[(.int p1), (.long q2), (.long q3), (.long q4), (.int p5)] maxLocals)) (T175.setTop (mkF m 287 #[.val (.int p1), .val (.long q2), .second, .val (.long q3), .second, .val (.long q4), .second, .val (.int p5), .val (.int (2 : Int32)), .val (.long y121), .second, .val (.long y122), .second, .val (.long y123), .second, .val (.ref b125), .val (.ref b__161), .val (.long y173), .second, .val (.long y178), .second, .val (.long y179), .second] [(.int (1 : Int32)), (.ref b__161)])) := fun t k => P185 t (by
      show Steps p.tables e below (T175.setTop (mkF m 281 #[.val (.int p1), .val (.long q2), .second, .val (.long q3), .second, .val (.long q4), .second, .val (.int p5), .val (.int (2 : Int32)), .val (.long y121), .second, .val (.long y122), .second, .val (.long y123), .second, .val (.ref b125), .val (.ref b__161), .val (.long y173), .second, .val (.long y178), .second, .val (.long y179), .second] [(.int (lcmpW y184 y173))])) t
      refine XS.ifNo X175.here hx rfl (hb hby at_281) rfl ((if0 _ _).trans (teq ((lw_eq y184 y173).mpr hq0_)).2) ?_
      show Steps p.tables e below (T175.setTop (mkF m 284 #[.val (.int p1), .val (.long q2), .second, .val (.long q3), .second, .val (.long q4), .second, .val (.int p5), .val (.int (2 : Int32)), .val (.long y121), .second, .val (.long y122), .second, .val (.long y123), .second, .val (.ref b125), .val (.ref b__161), .val (.long y173), .second, .val (.long y178), .second, .val (.long y179), .second] [])) t
      refine XS.aload X175.here hx rfl (hb hby at_284) rfl rfl ?_
      show Steps p.tables e below (T175.setTop (mkF m 286 #[.val (.int p1), .val (.long q2), .second, .val (.long q3), .second, .val (.long q4), .second, .val (.int p5), .val (.int (2 : Int32)), .val (.long y121), .second, .val (.long y122), .second, .val (.long y123), .second, .val (.ref b125), .val (.ref b__161), .val (.long y173), .second, .val (.long y178), .second, .val (.long y179), .second] [(.ref b__161)])) t
      refine XS.iconst X175.here hx rfl (hb hby at_286) ?_
      exact k)
    have V_o187 := V_161
    obtain ⟨co187, Aro187, qo187, So187, Mo187, Ho187, Go187⟩ := V_o187
    have hin188 : ¬ ((1 : Int32) < 0 ∨ co187.slots.size ≤ ((1 : Int32)).toNatClampNeg) := inb_of So187 ⟨by decide, by decide⟩
    have hat188 : co187.slots[((1 : Int32)).toNatClampNeg]? = some (.long (((((0 : Int64) + y121) + y122) / (((0 : Int64) + (1 : Int64)) + (1 : Int64))) / (1000000 : Int64))) := Has.at Ho187 hin188 rfl
    have P189 : Rch p e below (s₁.setTop (entryFrame m #[(.int p1), (.long q2), (.long q3), (.long q4), (.int p5)] maxLocals)) (T175.setTop (mkF m 288 #[.val (.int p1), .val (.long q2), .second, .val (.long q3), .second, .val (.long q4), .second, .val (.int p5), .val (.int (2 : Int32)), .val (.long y121), .second, .val (.long y122), .second, .val (.long y123), .second, .val (.ref b125), .val (.ref b__161), .val (.long y173), .second, .val (.long y178), .second, .val (.long y179), .second] [(.long (((((0 : Int64) + y121) + y122) / (((0 : Int64) + (1 : Int64)) + (1 : Int64))) / (1000000 : Int64)))])) := fun t k => P186 t (X175.laload hx (j := (1 : Int32)) (v := (.long (((((0 : Int64) + y121) + y122) / (((0 : Int64) + (1 : Int64)) + (1 : Int64))) / (1000000 : Int64)))) (by rw [e175]; exact Aro187.1) (State.isArrayOf_alike hZ.alike Aro187.2.1) Aro187.2.2 hin188 hat188 (g := (mkF m 287 #[.val (.int p1), .val (.long q2), .second, .val (.long q3), .second, .val (.long q4), .second, .val (.int p5), .val (.int (2 : Int32)), .val (.long y121), .second, .val (.long y122), .second, .val (.long y123), .second, .val (.ref b125), .val (.ref b__161), .val (.long y173), .second, .val (.long y178), .second, .val (.long y179), .second] [(.int (1 : Int32)), (.ref b__161)])) rfl rfl (hb hby at_287) t k)
    obtain ⟨y190, hy190⟩ : ∃ z : Int64, z = (((((0 : Int64) + y121) + y122) / (((0 : Int64) + (1 : Int64)) + (1 : Int64))) / (1000000 : Int64)) := ⟨_, rfl⟩
    have P191 : Rch p e below (s₁.setTop (entryFrame m #[(.int p1), (.long q2), (.long q3), (.long q4), (.int p5)] maxLocals)) (T175.setTop (mkF m 291 #[.val (.int p1), .val (.long q2), .second, .val (.long q3), .second, .val (.long q4), .second, .val (.int p5), .val (.int (2 : Int32)), .val (.long y121), .second, .val (.long y122), .second, .val (.long y123), .second, .val (.ref b125), .val (.ref b__161), .val (.long y173), .second, .val (.long y178), .second, .val (.long y179), .second] [(.int (lcmpW y190 y178))])) := fun t k => P189 t (by
      subst hy190
      show Steps p.tables e below (T175.setTop (mkF m 288 #[.val (.int p1), .val (.long q2), .second, .val (.long q3), .second, .val (.long q4), .second, .val (.int p5), .val (.int (2 : Int32)), .val (.long y121), .second, .val (.long y122), .second, .val (.long y123), .second, .val (.ref b125), .val (.ref b__161), .val (.long y173), .second, .val (.long y178), .second, .val (.long y179), .second] [(.long (((((0 : Int64) + y121) + y122) / (((0 : Int64) + (1 : Int64)) + (1 : Int64))) / (1000000 : Int64)))])) t
      refine XS.lload X175.here hx rfl (hb hby at_288) rfl ?_
      show Steps p.tables e below (T175.setTop (mkF m 290 #[.val (.int p1), .val (.long q2), .second, .val (.long q3), .second, .val (.long q4), .second, .val (.int p5), .val (.int (2 : Int32)), .val (.long y121), .second, .val (.long y122), .second, .val (.long y123), .second, .val (.ref b125), .val (.ref b__161), .val (.long y173), .second, .val (.long y178), .second, .val (.long y179), .second] [(.long y178), (.long (((((0 : Int64) + y121) + y122) / (((0 : Int64) + (1 : Int64)) + (1 : Int64))) / (1000000 : Int64)))])) t
      refine XS.lcmp X175.here hx rfl (hb hby at_290) rfl ?_
      exact k)
    have hq1_ : y190 = y178 := by
      subst hy190 hy178
      exact own_e21 _ (own_y (hy121)) _ (own_y (hy122))
    have P192 : Rch p e below (s₁.setTop (entryFrame m #[(.int p1), (.long q2), (.long q3), (.long q4), (.int p5)] maxLocals)) (T175.setTop (mkF m 297 #[.val (.int p1), .val (.long q2), .second, .val (.long q3), .second, .val (.long q4), .second, .val (.int p5), .val (.int (2 : Int32)), .val (.long y121), .second, .val (.long y122), .second, .val (.long y123), .second, .val (.ref b125), .val (.ref b__161), .val (.long y173), .second, .val (.long y178), .second, .val (.long y179), .second] [(.int (2 : Int32)), (.ref b__161)])) := fun t k => P191 t (by
      show Steps p.tables e below (T175.setTop (mkF m 291 #[.val (.int p1), .val (.long q2), .second, .val (.long q3), .second, .val (.long q4), .second, .val (.int p5), .val (.int (2 : Int32)), .val (.long y121), .second, .val (.long y122), .second, .val (.long y123), .second, .val (.ref b125), .val (.ref b__161), .val (.long y173), .second, .val (.long y178), .second, .val (.long y179), .second] [(.int (lcmpW y190 y178))])) t
      refine XS.ifNo X175.here hx rfl (hb hby at_291) rfl ((if0 _ _).trans (teq ((lw_eq y190 y178).mpr hq1_)).2) ?_
      show Steps p.tables e below (T175.setTop (mkF m 294 #[.val (.int p1), .val (.long q2), .second, .val (.long q3), .second, .val (.long q4), .second, .val (.int p5), .val (.int (2 : Int32)), .val (.long y121), .second, .val (.long y122), .second, .val (.long y123), .second, .val (.ref b125), .val (.ref b__161), .val (.long y173), .second, .val (.long y178), .second, .val (.long y179), .second] [])) t
      refine XS.aload X175.here hx rfl (hb hby at_294) rfl rfl ?_
      show Steps p.tables e below (T175.setTop (mkF m 296 #[.val (.int p1), .val (.long q2), .second, .val (.long q3), .second, .val (.long q4), .second, .val (.int p5), .val (.int (2 : Int32)), .val (.long y121), .second, .val (.long y122), .second, .val (.long y123), .second, .val (.ref b125), .val (.ref b__161), .val (.long y173), .second, .val (.long y178), .second, .val (.long y179), .second] [(.ref b__161)])) t
      refine XS.iconst X175.here hx rfl (hb hby at_296) ?_
      exact k)
    have V_o193 := V_161
    obtain ⟨co193, Aro193, qo193, So193, Mo193, Ho193, Go193⟩ := V_o193
    have hin194 : ¬ ((2 : Int32) < 0 ∨ co193.slots.size ≤ ((2 : Int32)).toNatClampNeg) := inb_of So193 ⟨by decide, by decide⟩
    have hat194 : co193.slots[((2 : Int32)).toNatClampNeg]? = some (.long ((own_max (own_max (0 : Int64) y121) y122) / (1000000 : Int64))) := Has.at Ho193 hin194 rfl
    have P195 : Rch p e below (s₁.setTop (entryFrame m #[(.int p1), (.long q2), (.long q3), (.long q4), (.int p5)] maxLocals)) (T175.setTop (mkF m 298 #[.val (.int p1), .val (.long q2), .second, .val (.long q3), .second, .val (.long q4), .second, .val (.int p5), .val (.int (2 : Int32)), .val (.long y121), .second, .val (.long y122), .second, .val (.long y123), .second, .val (.ref b125), .val (.ref b__161), .val (.long y173), .second, .val (.long y178), .second, .val (.long y179), .second] [(.long ((own_max (own_max (0 : Int64) y121) y122) / (1000000 : Int64)))])) := fun t k => P192 t (X175.laload hx (j := (2 : Int32)) (v := (.long ((own_max (own_max (0 : Int64) y121) y122) / (1000000 : Int64)))) (by rw [e175]; exact Aro193.1) (State.isArrayOf_alike hZ.alike Aro193.2.1) Aro193.2.2 hin194 hat194 (g := (mkF m 297 #[.val (.int p1), .val (.long q2), .second, .val (.long q3), .second, .val (.long q4), .second, .val (.int p5), .val (.int (2 : Int32)), .val (.long y121), .second, .val (.long y122), .second, .val (.long y123), .second, .val (.ref b125), .val (.ref b__161), .val (.long y173), .second, .val (.long y178), .second, .val (.long y179), .second] [(.int (2 : Int32)), (.ref b__161)])) rfl rfl (hb hby at_297) t k)
    obtain ⟨y196, hy196⟩ : ∃ z : Int64, z = ((own_max (own_max (0 : Int64) y121) y122) / (1000000 : Int64)) := ⟨_, rfl⟩
    have P197 : Rch p e below (s₁.setTop (entryFrame m #[(.int p1), (.long q2), (.long q3), (.long q4), (.int p5)] maxLocals)) (T175.setTop (mkF m 301 #[.val (.int p1), .val (.long q2), .second, .val (.long q3), .second, .val (.long q4), .second, .val (.int p5), .val (.int (2 : Int32)), .val (.long y121), .second, .val (.long y122), .second, .val (.long y123), .second, .val (.ref b125), .val (.ref b__161), .val (.long y173), .second, .val (.long y178), .second, .val (.long y179), .second] [(.int (lcmpW y196 y179))])) := fun t k => P195 t (by
      subst hy196
      show Steps p.tables e below (T175.setTop (mkF m 298 #[.val (.int p1), .val (.long q2), .second, .val (.long q3), .second, .val (.long q4), .second, .val (.int p5), .val (.int (2 : Int32)), .val (.long y121), .second, .val (.long y122), .second, .val (.long y123), .second, .val (.ref b125), .val (.ref b__161), .val (.long y173), .second, .val (.long y178), .second, .val (.long y179), .second] [(.long ((own_max (own_max (0 : Int64) y121) y122) / (1000000 : Int64)))])) t
      refine XS.lload X175.here hx rfl (hb hby at_298) rfl ?_
      show Steps p.tables e below (T175.setTop (mkF m 300 #[.val (.int p1), .val (.long q2), .second, .val (.long q3), .second, .val (.long q4), .second, .val (.int p5), .val (.int (2 : Int32)), .val (.long y121), .second, .val (.long y122), .second, .val (.long y123), .second, .val (.ref b125), .val (.ref b__161), .val (.long y173), .second, .val (.long y178), .second, .val (.long y179), .second] [(.long y179), (.long ((own_max (own_max (0 : Int64) y121) y122) / (1000000 : Int64)))])) t
      refine XS.lcmp X175.here hx rfl (hb hby at_300) rfl ?_
      exact k)
    have hq2_ : y196 = y179 := by
      subst hy196 hy179 hy177
      exact own_e22 _ (own_y (hy121)) _ (own_y (hy122))
    have P198 : Rch p e below (s₁.setTop (entryFrame m #[(.int p1), (.long q2), (.long q3), (.long q4), (.int p5)] maxLocals)) (T175.setTop (mkF m 309 #[.val (.int p1), .val (.long q2), .second, .val (.long q3), .second, .val (.long q4), .second, .val (.int p5), .val (.int (2 : Int32)), .val (.long y121), .second, .val (.long y122), .second, .val (.long y123), .second, .val (.ref b125), .val (.ref b__161), .val (.long y173), .second, .val (.long y178), .second, .val (.long y179), .second] [(.int (1 : Int32))])) := fun t k => P197 t (by
      show Steps p.tables e below (T175.setTop (mkF m 301 #[.val (.int p1), .val (.long q2), .second, .val (.long q3), .second, .val (.long q4), .second, .val (.int p5), .val (.int (2 : Int32)), .val (.long y121), .second, .val (.long y122), .second, .val (.long y123), .second, .val (.ref b125), .val (.ref b__161), .val (.long y173), .second, .val (.long y178), .second, .val (.long y179), .second] [(.int (lcmpW y196 y179))])) t
      refine XS.ifNo X175.here hx rfl (hb hby at_301) rfl ((if0 _ _).trans (teq ((lw_eq y196 y179).mpr hq2_)).2) ?_
      show Steps p.tables e below (T175.setTop (mkF m 304 #[.val (.int p1), .val (.long q2), .second, .val (.long q3), .second, .val (.long q4), .second, .val (.int p5), .val (.int (2 : Int32)), .val (.long y121), .second, .val (.long y122), .second, .val (.long y123), .second, .val (.ref b125), .val (.ref b__161), .val (.long y173), .second, .val (.long y178), .second, .val (.long y179), .second] [])) t
      refine XS.iconst X175.here hx rfl (hb hby at_304) ?_
      show Steps p.tables e below (T175.setTop (mkF m 305 #[.val (.int p1), .val (.long q2), .second, .val (.long q3), .second, .val (.long q4), .second, .val (.int p5), .val (.int (2 : Int32)), .val (.long y121), .second, .val (.long y122), .second, .val (.long y123), .second, .val (.ref b125), .val (.ref b__161), .val (.long y173), .second, .val (.long y178), .second, .val (.long y179), .second] [(.int (1 : Int32))])) t
      refine XS.goto X175.here hx rfl (pc0 := 305) (pc' := 309) rfl (hb hby at_305) (by decide) (by decide) ?_
      exact k)
    obtain ⟨fs, hr, hrun, hended, hW, hsame⟩ := X175.leave (v := some (.int (1 : Int32))) (fun h => by rw [Bd.returns] at h; cases h)
    refine ⟨_, _, P198 _ ?_, hrun, hended, _, _, rfl, ?_, ⟨_, rfl⟩, hW, hsame.mono (by decide) (by decide)⟩
    · exact retN X175 hx (t := .boolean) Bd.returns (by simp) (hb hby at_309) hr
    · show Q_rm0 Z p1 q2 q3 q4 p5 h0 n0 _ T175.heap _
      rw [e175]
      exact ⟨rfl, N175⟩
  · have hi_ : x1 = (3 : Int32) := by rw [hx1]; exact hs
    have P199 : Rch p e below (s₁.setTop (entryFrame m #[(.int p1), (.long q2), (.long q3), (.long q4), (.int p5)] maxLocals)) (s₁.setTop (mkF m 5 #[.val (.int p1), .val (.long q2), .second, .val (.long q3), .second, .val (.long q4), .second, .val (.int p5), .val (.int (3 : Int32)), .unset, .unset, .unset, .unset, .unset, .unset, .unset, .unset, .unset, .unset, .unset, .unset, .unset, .unset] [])) := by have q_ := P2; rw [hi_] at q_; exact q_
    obtain ⟨y200, hy200⟩ : ∃ z : Int64, z = (q2 &&& (2305843009213693951 : Int64)) := ⟨_, rfl⟩
    obtain ⟨y201, hy201⟩ : ∃ z : Int64, z = (q3 &&& (2305843009213693951 : Int64)) := ⟨_, rfl⟩
    obtain ⟨y202, hy202⟩ : ∃ z : Int64, z = (q4 &&& (2305843009213693951 : Int64)) := ⟨_, rfl⟩
    have P203 : Rch p e below (s₁.setTop (entryFrame m #[(.int p1), (.long q2), (.long q3), (.long q4), (.int p5)] maxLocals)) (s₁.setTop (mkF m 27 #[.val (.int p1), .val (.long q2), .second, .val (.long q3), .second, .val (.long q4), .second, .val (.int p5), .val (.int (3 : Int32)), .val (.long y200), .second, .val (.long y201), .second, .val (.long y202), .second, .unset, .unset, .unset, .unset, .unset, .unset, .unset, .unset] [])) := fun t k => P199 t (by
      subst hy200 hy201 hy202
      show Steps p.tables e below (s₁.setTop (mkF m 5 #[.val (.int p1), .val (.long q2), .second, .val (.long q3), .second, .val (.long q4), .second, .val (.int p5), .val (.int (3 : Int32)), .unset, .unset, .unset, .unset, .unset, .unset, .unset, .unset, .unset, .unset, .unset, .unset, .unset, .unset] [])) t
      refine XS.lloadN X0.here hx rfl (hb hby at_5) rfl ?_
      show Steps p.tables e below (s₁.setTop (mkF m 6 #[.val (.int p1), .val (.long q2), .second, .val (.long q3), .second, .val (.long q4), .second, .val (.int p5), .val (.int (3 : Int32)), .unset, .unset, .unset, .unset, .unset, .unset, .unset, .unset, .unset, .unset, .unset, .unset, .unset, .unset] [(.long q2)])) t
      refine X0.ldc2Long hx hown (mvT hZ (hw _ (List.mem_of_getElem? (i := 0) rfl))) (g := (mkF m 6 #[.val (.int p1), .val (.long q2), .second, .val (.long q3), .second, .val (.long q4), .second, .val (.int p5), .val (.int (3 : Int32)), .unset, .unset, .unset, .unset, .unset, .unset, .unset, .unset, .unset, .unset, .unset, .unset, .unset, .unset] [(.long q2)])) rfl (hb hby at_6) _ ?_
      show Steps p.tables e below (s₁.setTop (mkF m 9 #[.val (.int p1), .val (.long q2), .second, .val (.long q3), .second, .val (.long q4), .second, .val (.int p5), .val (.int (3 : Int32)), .unset, .unset, .unset, .unset, .unset, .unset, .unset, .unset, .unset, .unset, .unset, .unset, .unset, .unset] [(.long (2305843009213693951 : Int64)), (.long q2)])) t
      refine XS.land X0.here hx rfl (hb hby at_9) rfl ?_
      show Steps p.tables e below (s₁.setTop (mkF m 10 #[.val (.int p1), .val (.long q2), .second, .val (.long q3), .second, .val (.long q4), .second, .val (.int p5), .val (.int (3 : Int32)), .unset, .unset, .unset, .unset, .unset, .unset, .unset, .unset, .unset, .unset, .unset, .unset, .unset, .unset] [(.long (q2 &&& (2305843009213693951 : Int64)))])) t
      refine XS.lstore X0.here hx rfl (hb hby at_10) rfl (l' := #[.val (.int p1), .val (.long q2), .second, .val (.long q3), .second, .val (.long q4), .second, .val (.int p5), .val (.int (3 : Int32)), .val (.long (q2 &&& (2305843009213693951 : Int64))), .second, .unset, .unset, .unset, .unset, .unset, .unset, .unset, .unset, .unset, .unset, .unset, .unset]) rfl ?_
      show Steps p.tables e below (s₁.setTop (mkF m 12 #[.val (.int p1), .val (.long q2), .second, .val (.long q3), .second, .val (.long q4), .second, .val (.int p5), .val (.int (3 : Int32)), .val (.long (q2 &&& (2305843009213693951 : Int64))), .second, .unset, .unset, .unset, .unset, .unset, .unset, .unset, .unset, .unset, .unset, .unset, .unset] [])) t
      refine XS.lloadN X0.here hx rfl (hb hby at_12) rfl ?_
      show Steps p.tables e below (s₁.setTop (mkF m 13 #[.val (.int p1), .val (.long q2), .second, .val (.long q3), .second, .val (.long q4), .second, .val (.int p5), .val (.int (3 : Int32)), .val (.long (q2 &&& (2305843009213693951 : Int64))), .second, .unset, .unset, .unset, .unset, .unset, .unset, .unset, .unset, .unset, .unset, .unset, .unset] [(.long q3)])) t
      refine X0.ldc2Long hx hown (mvT hZ (hw _ (List.mem_of_getElem? (i := 0) rfl))) (g := (mkF m 13 #[.val (.int p1), .val (.long q2), .second, .val (.long q3), .second, .val (.long q4), .second, .val (.int p5), .val (.int (3 : Int32)), .val (.long (q2 &&& (2305843009213693951 : Int64))), .second, .unset, .unset, .unset, .unset, .unset, .unset, .unset, .unset, .unset, .unset, .unset, .unset] [(.long q3)])) rfl (hb hby at_13) _ ?_
      show Steps p.tables e below (s₁.setTop (mkF m 16 #[.val (.int p1), .val (.long q2), .second, .val (.long q3), .second, .val (.long q4), .second, .val (.int p5), .val (.int (3 : Int32)), .val (.long (q2 &&& (2305843009213693951 : Int64))), .second, .unset, .unset, .unset, .unset, .unset, .unset, .unset, .unset, .unset, .unset, .unset, .unset] [(.long (2305843009213693951 : Int64)), (.long q3)])) t
      refine XS.land X0.here hx rfl (hb hby at_16) rfl ?_
      show Steps p.tables e below (s₁.setTop (mkF m 17 #[.val (.int p1), .val (.long q2), .second, .val (.long q3), .second, .val (.long q4), .second, .val (.int p5), .val (.int (3 : Int32)), .val (.long (q2 &&& (2305843009213693951 : Int64))), .second, .unset, .unset, .unset, .unset, .unset, .unset, .unset, .unset, .unset, .unset, .unset, .unset] [(.long (q3 &&& (2305843009213693951 : Int64)))])) t
      refine XS.lstore X0.here hx rfl (hb hby at_17) rfl (l' := #[.val (.int p1), .val (.long q2), .second, .val (.long q3), .second, .val (.long q4), .second, .val (.int p5), .val (.int (3 : Int32)), .val (.long (q2 &&& (2305843009213693951 : Int64))), .second, .val (.long (q3 &&& (2305843009213693951 : Int64))), .second, .unset, .unset, .unset, .unset, .unset, .unset, .unset, .unset, .unset, .unset]) rfl ?_
      show Steps p.tables e below (s₁.setTop (mkF m 19 #[.val (.int p1), .val (.long q2), .second, .val (.long q3), .second, .val (.long q4), .second, .val (.int p5), .val (.int (3 : Int32)), .val (.long (q2 &&& (2305843009213693951 : Int64))), .second, .val (.long (q3 &&& (2305843009213693951 : Int64))), .second, .unset, .unset, .unset, .unset, .unset, .unset, .unset, .unset, .unset, .unset] [])) t
      refine XS.lload X0.here hx rfl (hb hby at_19) rfl ?_
      show Steps p.tables e below (s₁.setTop (mkF m 21 #[.val (.int p1), .val (.long q2), .second, .val (.long q3), .second, .val (.long q4), .second, .val (.int p5), .val (.int (3 : Int32)), .val (.long (q2 &&& (2305843009213693951 : Int64))), .second, .val (.long (q3 &&& (2305843009213693951 : Int64))), .second, .unset, .unset, .unset, .unset, .unset, .unset, .unset, .unset, .unset, .unset] [(.long q4)])) t
      refine X0.ldc2Long hx hown (mvT hZ (hw _ (List.mem_of_getElem? (i := 0) rfl))) (g := (mkF m 21 #[.val (.int p1), .val (.long q2), .second, .val (.long q3), .second, .val (.long q4), .second, .val (.int p5), .val (.int (3 : Int32)), .val (.long (q2 &&& (2305843009213693951 : Int64))), .second, .val (.long (q3 &&& (2305843009213693951 : Int64))), .second, .unset, .unset, .unset, .unset, .unset, .unset, .unset, .unset, .unset, .unset] [(.long q4)])) rfl (hb hby at_21) _ ?_
      show Steps p.tables e below (s₁.setTop (mkF m 24 #[.val (.int p1), .val (.long q2), .second, .val (.long q3), .second, .val (.long q4), .second, .val (.int p5), .val (.int (3 : Int32)), .val (.long (q2 &&& (2305843009213693951 : Int64))), .second, .val (.long (q3 &&& (2305843009213693951 : Int64))), .second, .unset, .unset, .unset, .unset, .unset, .unset, .unset, .unset, .unset, .unset] [(.long (2305843009213693951 : Int64)), (.long q4)])) t
      refine XS.land X0.here hx rfl (hb hby at_24) rfl ?_
      show Steps p.tables e below (s₁.setTop (mkF m 25 #[.val (.int p1), .val (.long q2), .second, .val (.long q3), .second, .val (.long q4), .second, .val (.int p5), .val (.int (3 : Int32)), .val (.long (q2 &&& (2305843009213693951 : Int64))), .second, .val (.long (q3 &&& (2305843009213693951 : Int64))), .second, .unset, .unset, .unset, .unset, .unset, .unset, .unset, .unset, .unset, .unset] [(.long (q4 &&& (2305843009213693951 : Int64)))])) t
      refine XS.lstore X0.here hx rfl (hb hby at_25) rfl (l' := #[.val (.int p1), .val (.long q2), .second, .val (.long q3), .second, .val (.long q4), .second, .val (.int p5), .val (.int (3 : Int32)), .val (.long (q2 &&& (2305843009213693951 : Int64))), .second, .val (.long (q3 &&& (2305843009213693951 : Int64))), .second, .val (.long (q4 &&& (2305843009213693951 : Int64))), .second, .unset, .unset, .unset, .unset, .unset, .unset, .unset, .unset]) rfl ?_
      exact k)
    obtain ⟨T204, h204, X204, e204, E204, A204, D204, -, st204⟩ := newO X0 hx hZ hown (hw _ (List.mem_of_getElem? (i := 1) rfl)) (hw _ (List.mem_of_getElem? (i := 2) rfl)) (hw _ (List.mem_of_getElem? (i := 3) rfl)) e0 (g := (mkF m 27 #[.val (.int p1), .val (.long q2), .second, .val (.long q3), .second, .val (.long q4), .second, .val (.int p5), .val (.int (3 : Int32)), .val (.long y200), .second, .val (.long y201), .second, .val (.long y202), .second, .unset, .unset, .unset, .unset, .unset, .unset, .unset, .unset] [])) rfl (hb hby at_27) (by decide) (by decide)
    obtain ⟨b204, g204⟩ : ∃ z, z = h0.size := ⟨_, rfl⟩
    rw [← g204] at A204 D204 st204
    have g_b204 : n0 ≤ b204 := Nat.le_trans Z0 (Nat.le_of_eq g204.symm)
    have sz_b204 : h0.size ≤ b204 := Nat.le_trans (Keep.refl h0 []).1 (Nat.le_of_eq g204.symm)
    have F204_12 : Fld Z h204 b204 "com/example/usher/usher/server/Traffic" "latencyMin" "J" (.long (0 : Int64)) := D204 (Or.inl (hw _ (List.mem_of_getElem? (i := 12) rfl))) (ty := .long) (by decide)
    have F204_19 : Fld Z h204 b204 "com/example/usher/usher/server/Traffic" "sent" "J" (.long (0 : Int64)) := D204 (Or.inl (hw _ (List.mem_of_getElem? (i := 19) rfl))) (ty := .long) (by decide)
    have F204_27 : Fld Z h204 b204 "com/example/usher/usher/server/Traffic" "answered" "J" (.long (0 : Int64)) := D204 (Or.inl (hw _ (List.mem_of_getElem? (i := 27) rfl))) (ty := .long) (by decide)
    have F204_38 : Fld Z h204 b204 "com/example/usher/usher/server/Traffic" "latencyMax" "J" (.long (0 : Int64)) := D204 (Or.inl (hw _ (List.mem_of_getElem? (i := 38) rfl))) (ty := .long) (by decide)
    have F204_43 : Fld Z h204 b204 "com/example/usher/usher/server/Traffic" "latencyTotal" "J" (.long (0 : Int64)) := D204 (Or.inl (hw _ (List.mem_of_getElem? (i := 43) rfl))) (ty := .long) (by decide)
    have P205 : Rch p e below (s₁.setTop (entryFrame m #[(.int p1), (.long q2), (.long q3), (.long q4), (.int p5)] maxLocals)) (T204.setTop (mkF m 30 #[.val (.int p1), .val (.long q2), .second, .val (.long q3), .second, .val (.long q4), .second, .val (.int p5), .val (.int (3 : Int32)), .val (.long y200), .second, .val (.long y201), .second, .val (.long y202), .second, .unset, .unset, .unset, .unset, .unset, .unset, .unset, .unset] [(.ref b204)])) := fun t k => P203 t (st204 t k)
    have P206 : Rch p e below (s₁.setTop (entryFrame m #[(.int p1), (.long q2), (.long q3), (.long q4), (.int p5)] maxLocals)) (T204.setTop (mkF m 31 #[.val (.int p1), .val (.long q2), .second, .val (.long q3), .second, .val (.long q4), .second, .val (.int p5), .val (.int (3 : Int32)), .val (.long y200), .second, .val (.long y201), .second, .val (.long y202), .second, .unset, .unset, .unset, .unset, .unset, .unset, .unset, .unset] [(.ref b204), (.ref b204)])) := fun t k => P205 t (by
      show Steps p.tables e below (T204.setTop (mkF m 30 #[.val (.int p1), .val (.long q2), .second, .val (.long q3), .second, .val (.long q4), .second, .val (.int p5), .val (.int (3 : Int32)), .val (.long y200), .second, .val (.long y201), .second, .val (.long y202), .second, .unset, .unset, .unset, .unset, .unset, .unset, .unset, .unset] [(.ref b204)])) t
      refine XS.dup X204.here hx rfl (hb hby at_30) rfl rfl ?_
      exact k)
    have f208 : n0 ≤ h204.size := (Nat.le_trans Z0 E204.1)
    obtain ⟨_, _, ⟨T207, L207, k207, n207⟩, -, X207, ⟨Lc207, hQ207, l207, y207, z207⟩, st207⟩ := X204.specialBack hx (y := (⟨"com/example/usher/usher/server/Traffic", "<init>", "()V"⟩ : MethodName)) rfl hown (mvT hZ (hw _ (List.mem_of_getElem? (i := 4) rfl))) (mvT hZ (hw _ (List.mem_of_getElem? (i := 5) rfl))) (mvT hZ (hw _ (List.mem_of_getElem? (i := 6) rfl))) (by decide) (backOf (W := 1) (rmI l Z a0 hw [] b204 h204 n0 f208 A204 g_b204 F204_19 F204_27 F204_12 F204_38 F204_43) hZ (hw _ (List.mem_of_getElem? (i := 6) rfl)) (hw _ (List.mem_of_getElem? (i := 3) rfl)) (by decide) (by decide)) (g := (mkF m 31 #[.val (.int p1), .val (.long q2), .second, .val (.long q3), .second, .val (.long q4), .second, .val (.int p5), .val (.int (3 : Int32)), .val (.long y200), .second, .val (.long y201), .second, .val (.long y202), .second, .unset, .unset, .unset, .unset, .unset, .unset, .unset, .unset] [(.ref b204), (.ref b204)])) rfl (by rw [hml]; rfl) (Steps.refl _) (a := b204) (argsL := []) (rest := [(.ref b204)]) (lenOf pd_1 rfl) rfl (by show 2 * 0 + _ ≤ _; exact Nat.le_of_eq rfl) (hb hby at_31) (fun _ _ => ⟨rfl, e204, (by decide : 1 + 0 ≤ _), (by decide : 8 + 0 ≤ _)⟩)
    dsimp only [Pt.U, Pt.locs, Pt.cells, Pt.slots] at X207 l207 y207 z207 st207 hQ207
    subst l207 y207 z207
    obtain ⟨rfl, N207q, K207, E_207, G0_207, G1_207, G2_207, G3_207, G4_207⟩ := hQ207
    have N207 := Fr.app N0 N207q
    have P209 : Rch p e below (s₁.setTop (entryFrame m #[(.int p1), (.long q2), (.long q3), (.long q4), (.int p5)] maxLocals)) (T207.setTop (mkF m 34 #[.val (.int p1), .val (.long q2), .second, .val (.long q3), .second, .val (.long q4), .second, .val (.int p5), .val (.int (3 : Int32)), .val (.long y200), .second, .val (.long y201), .second, .val (.long y202), .second, .unset, .unset, .unset, .unset, .unset, .unset, .unset, .unset] [(.ref b204)])) := fun t k => P206 t (st207.trans k)
    obtain ⟨x210, hx210⟩ : ∃ z : Int32, z = (p5 &&& (1 : Int32)) := ⟨_, rfl⟩
    have P211 : Rch p e below (s₁.setTop (entryFrame m #[(.int p1), (.long q2), (.long q3), (.long q4), (.int p5)] maxLocals)) (T207.setTop (mkF m 40 #[.val (.int p1), .val (.long q2), .second, .val (.long q3), .second, .val (.long q4), .second, .val (.int p5), .val (.int (3 : Int32)), .val (.long y200), .second, .val (.long y201), .second, .val (.long y202), .second, .val (.ref b204), .unset, .unset, .unset, .unset, .unset, .unset, .unset] [(.int x210)])) := fun t k => P209 t (by
      subst hx210
      show Steps p.tables e below (T207.setTop (mkF m 34 #[.val (.int p1), .val (.long q2), .second, .val (.long q3), .second, .val (.long q4), .second, .val (.int p5), .val (.int (3 : Int32)), .val (.long y200), .second, .val (.long y201), .second, .val (.long y202), .second, .unset, .unset, .unset, .unset, .unset, .unset, .unset, .unset] [(.ref b204)])) t
      refine XS.astore X207.here hx rfl (hb hby at_34) rfl rfl (l' := #[.val (.int p1), .val (.long q2), .second, .val (.long q3), .second, .val (.long q4), .second, .val (.int p5), .val (.int (3 : Int32)), .val (.long y200), .second, .val (.long y201), .second, .val (.long y202), .second, .val (.ref b204), .unset, .unset, .unset, .unset, .unset, .unset, .unset]) rfl ?_
      show Steps p.tables e below (T207.setTop (mkF m 36 #[.val (.int p1), .val (.long q2), .second, .val (.long q3), .second, .val (.long q4), .second, .val (.int p5), .val (.int (3 : Int32)), .val (.long y200), .second, .val (.long y201), .second, .val (.long y202), .second, .val (.ref b204), .unset, .unset, .unset, .unset, .unset, .unset, .unset] [])) t
      refine XS.iload X207.here hx rfl (hb hby at_36) rfl ?_
      show Steps p.tables e below (T207.setTop (mkF m 38 #[.val (.int p1), .val (.long q2), .second, .val (.long q3), .second, .val (.long q4), .second, .val (.int p5), .val (.int (3 : Int32)), .val (.long y200), .second, .val (.long y201), .second, .val (.long y202), .second, .val (.ref b204), .unset, .unset, .unset, .unset, .unset, .unset, .unset] [(.int p5)])) t
      refine XS.iconst X207.here hx rfl (hb hby at_38) ?_
      show Steps p.tables e below (T207.setTop (mkF m 39 #[.val (.int p1), .val (.long q2), .second, .val (.long q3), .second, .val (.long q4), .second, .val (.int p5), .val (.int (3 : Int32)), .val (.long y200), .second, .val (.long y201), .second, .val (.long y202), .second, .val (.ref b204), .unset, .unset, .unset, .unset, .unset, .unset, .unset] [(.int (1 : Int32)), (.int p5)])) t
      refine XS.iand X207.here hx rfl (hb hby at_39) rfl ?_
      exact k)
    obtain ⟨T212, L212, h212, u__212, X212, e212, N212, Z212, K212, G0_212, G1_212, G2_212, G3_212, G4_212, P212⟩ : ∃ (T212 : State) (L212 : List Loc) (h212 : Heap) (u__212 : Int64), Stand p l e room_1 s m #[(.int p1), (.long q2), (.long q3), (.long q4), (.int p5)] below meth c T212 L212 1 8 ∧ T212.heap = h212 ∧ Fr n0 L212 ∧ n0 ≤ h212.size ∧ Keep T207.heap h212 [b204] ∧ (Fld Z h212 b204 "com/example/usher/usher/server/Traffic" "sent" "J" (.long u__212)) ∧ (Fld Z h212 b204 "com/example/usher/usher/server/Traffic" "answered" "J" (.long (0 : Int64))) ∧ (Fld Z h212 b204 "com/example/usher/usher/server/Traffic" "latencyMin" "J" (.long (9223372036854775807 : Int64))) ∧ (Fld Z h212 b204 "com/example/usher/usher/server/Traffic" "latencyMax" "J" (.long (0 : Int64))) ∧ (Fld Z h212 b204 "com/example/usher/usher/server/Traffic" "latencyTotal" "J" (.long (0 : Int64))) ∧ Rch p e below (s₁.setTop (entryFrame m #[(.int p1), (.long q2), (.long q3), (.long q4), (.int p5)] maxLocals)) (T212.setTop (mkF m 48 #[.val (.int p1), .val (.long q2), .second, .val (.long q3), .second, .val (.long q4), .second, .val (.int p5), .val (.int (3 : Int32)), .val (.long y200), .second, .val (.long y201), .second, .val (.long y202), .second, .val (.ref b204), .unset, .unset, .unset, .unset, .unset, .unset, .unset] [])) := by
      by_cases c213 : x210 = (0 : Int32)
      · have P214 : Rch p e below (s₁.setTop (entryFrame m #[(.int p1), (.long q2), (.long q3), (.long q4), (.int p5)] maxLocals)) (T207.setTop (mkF m 48 #[.val (.int p1), .val (.long q2), .second, .val (.long q3), .second, .val (.long q4), .second, .val (.int p5), .val (.int (3 : Int32)), .val (.long y200), .second, .val (.long y201), .second, .val (.long y202), .second, .val (.ref b204), .unset, .unset, .unset, .unset, .unset, .unset, .unset] [])) := fun t k => P211 t (by
          show Steps p.tables e below (T207.setTop (mkF m 40 #[.val (.int p1), .val (.long q2), .second, .val (.long q3), .second, .val (.long q4), .second, .val (.int p5), .val (.int (3 : Int32)), .val (.long y200), .second, .val (.long y201), .second, .val (.long y202), .second, .val (.ref b204), .unset, .unset, .unset, .unset, .unset, .unset, .unset] [(.int x210)])) t
          refine XS.ifYes X207.here hx rfl (pc0 := 40) (pc' := 48) rfl (hb hby at_40) rfl ((if0 _ _).trans (teq c213).1) (by decide) (by decide) ?_
          exact k)
        have f215 : n0 ≤ T207.heap.size := (Nat.le_trans f208 K207.1)
        exact ⟨T207, _, T207.heap, (0 : Int64), X207, rfl, N207, f215, (Keep.refl T207.heap [b204]), G0_207, G1_207, G2_207, G3_207, G4_207, P214⟩
      · have P216 : Rch p e below (s₁.setTop (entryFrame m #[(.int p1), (.long q2), (.long q3), (.long q4), (.int p5)] maxLocals)) (T207.setTop (mkF m 45 #[.val (.int p1), .val (.long q2), .second, .val (.long q3), .second, .val (.long q4), .second, .val (.int p5), .val (.int (3 : Int32)), .val (.long y200), .second, .val (.long y201), .second, .val (.long y202), .second, .val (.ref b204), .unset, .unset, .unset, .unset, .unset, .unset, .unset] [(.ref b204)])) := fun t k => P211 t (by
          show Steps p.tables e below (T207.setTop (mkF m 40 #[.val (.int p1), .val (.long q2), .second, .val (.long q3), .second, .val (.long q4), .second, .val (.int p5), .val (.int (3 : Int32)), .val (.long y200), .second, .val (.long y201), .second, .val (.long y202), .second, .val (.ref b204), .unset, .unset, .unset, .unset, .unset, .unset, .unset] [(.int x210)])) t
          refine XS.ifNo X207.here hx rfl (hb hby at_40) rfl ((if0 _ _).trans (feq c213).1) ?_
          show Steps p.tables e below (T207.setTop (mkF m 43 #[.val (.int p1), .val (.long q2), .second, .val (.long q3), .second, .val (.long q4), .second, .val (.int p5), .val (.int (3 : Int32)), .val (.long y200), .second, .val (.long y201), .second, .val (.long y202), .second, .val (.ref b204), .unset, .unset, .unset, .unset, .unset, .unset, .unset] [])) t
          refine XS.aload X207.here hx rfl (hb hby at_43) rfl rfl ?_
          exact k)
        have f218 : n0 ≤ T207.heap.size := (Nat.le_trans f208 K207.1)
        obtain ⟨cq217, kq217, q217a, q217b, q217c⟩ := isOf hZ rfl E_207
        obtain ⟨_, _, ⟨T217, L217, k217, n217⟩, -, X217, ⟨Lc217, hQ217, l217, y217, z217⟩, st217⟩ := X207.virtualBack hx (y := (⟨"com/example/usher/usher/server/Traffic", "notificationSent", "()V"⟩ : MethodName)) (z := (⟨"com/example/usher/usher/server/Traffic", "notificationSent", "()V"⟩ : MethodName)) hown (mvT hZ (hw _ (List.mem_of_getElem? (i := 13) rfl))) (mvT hZ (hw _ (List.mem_of_getElem? (i := 14) rfl))) (notFace_of_selects (args := #[]) (mvT hZ (hw _ (List.mem_of_getElem? (i := 16) rfl)))) (mvT hZ (hw _ (List.mem_of_getElem? (i := 16) rfl))) (mvT hZ (hw _ (List.mem_of_getElem? (i := 15) rfl))) (by decide) (backOf (W := 0) (rmN l Z a0 hw [] b204 (0 : Int64) (0 : Int64) (9223372036854775807 : Int64) (0 : Int64) (0 : Int64) T207.heap n0 f218 E_207 g_b204 G0_207 G1_207 G2_207 G3_207 G4_207) hZ (hw _ (List.mem_of_getElem? (i := 17) rfl)) (hw _ (List.mem_of_getElem? (i := 3) rfl)) (by decide) (by decide)) q217a q217c (g := (mkF m 45 #[.val (.int p1), .val (.long q2), .second, .val (.long q3), .second, .val (.long q4), .second, .val (.int p5), .val (.int (3 : Int32)), .val (.long y200), .second, .val (.long y201), .second, .val (.long y202), .second, .val (.ref b204), .unset, .unset, .unset, .unset, .unset, .unset, .unset] [(.ref b204)])) rfl (by rw [hml]; rfl) (Steps.refl _) (argsL := []) (rest := []) (lenOf pd_1 rfl) rfl (by show 2 * 0 + _ ≤ _; exact Nat.le_of_eq rfl) (hb hby at_45) (fun _ _ => ⟨rfl, rfl, (by decide : 1 + 0 ≤ _), (by decide : 8 + 0 ≤ _)⟩)
        dsimp only [Pt.U, Pt.locs, Pt.cells, Pt.slots] at X217 l217 y217 z217 st217 hQ217
        subst l217 y217 z217
        obtain ⟨rfl, N217q, K217, E_217, G0_217, G1_217, G2_217, G3_217, G4_217⟩ := hQ217
        have N217 := Fr.app N207 N217q
        have P219 : Rch p e below (s₁.setTop (entryFrame m #[(.int p1), (.long q2), (.long q3), (.long q4), (.int p5)] maxLocals)) (T217.setTop (mkF m 48 #[.val (.int p1), .val (.long q2), .second, .val (.long q3), .second, .val (.long q4), .second, .val (.int p5), .val (.int (3 : Int32)), .val (.long y200), .second, .val (.long y201), .second, .val (.long y202), .second, .val (.ref b204), .unset, .unset, .unset, .unset, .unset, .unset, .unset] [])) := fun t k => P216 t (st217.trans k)
        have f220 : n0 ≤ T217.heap.size := (Nat.le_trans f218 K217.1)
        exact ⟨T217, _, T217.heap, ((0 : Int64) + (1 : Int64)), X217, rfl, N217, f220, ((Keep.refl T207.heap [b204]).trans K217 (allS (P := fun x => x ∈ ([b204] : List Addr) ∨ T207.heap.size ≤ x) (Or.inl (List.mem_of_getElem? (i := 0) rfl)) all0)), G0_217, G1_217, G2_217, G3_217, G4_217, P219⟩
    have P221 : Rch p e below (s₁.setTop (entryFrame m #[(.int p1), (.long q2), (.long q3), (.long q4), (.int p5)] maxLocals)) (T212.setTop (mkF m 58 #[.val (.int p1), .val (.long q2), .second, .val (.long q3), .second, .val (.long q4), .second, .val (.int p5), .val (.int (3 : Int32)), .val (.long y200), .second, .val (.long y201), .second, .val (.long y202), .second, .val (.ref b204), .unset, .unset, .unset, .unset, .unset, .unset, .unset] [(.long y200), (.ref b204)])) := fun t k => P212 t (by
      show Steps p.tables e below (T212.setTop (mkF m 48 #[.val (.int p1), .val (.long q2), .second, .val (.long q3), .second, .val (.long q4), .second, .val (.int p5), .val (.int (3 : Int32)), .val (.long y200), .second, .val (.long y201), .second, .val (.long y202), .second, .val (.ref b204), .unset, .unset, .unset, .unset, .unset, .unset, .unset] [])) t
      refine XS.iload X212.here hx rfl (hb hby at_48) rfl ?_
      show Steps p.tables e below (T212.setTop (mkF m 50 #[.val (.int p1), .val (.long q2), .second, .val (.long q3), .second, .val (.long q4), .second, .val (.int p5), .val (.int (3 : Int32)), .val (.long y200), .second, .val (.long y201), .second, .val (.long y202), .second, .val (.ref b204), .unset, .unset, .unset, .unset, .unset, .unset, .unset] [(.int (3 : Int32))])) t
      refine XS.iconst X212.here hx rfl (hb hby at_50) ?_
      show Steps p.tables e below (T212.setTop (mkF m 51 #[.val (.int p1), .val (.long q2), .second, .val (.long q3), .second, .val (.long q4), .second, .val (.int p5), .val (.int (3 : Int32)), .val (.long y200), .second, .val (.long y201), .second, .val (.long y202), .second, .val (.ref b204), .unset, .unset, .unset, .unset, .unset, .unset, .unset] [(.int (1 : Int32)), (.int (3 : Int32))])) t
      refine XS.icmpNo X212.here hx rfl (hb hby at_51) rfl (flt (by decide)).1 ?_
      show Steps p.tables e below (T212.setTop (mkF m 54 #[.val (.int p1), .val (.long q2), .second, .val (.long q3), .second, .val (.long q4), .second, .val (.int p5), .val (.int (3 : Int32)), .val (.long y200), .second, .val (.long y201), .second, .val (.long y202), .second, .val (.ref b204), .unset, .unset, .unset, .unset, .unset, .unset, .unset] [])) t
      refine XS.aload X212.here hx rfl (hb hby at_54) rfl rfl ?_
      show Steps p.tables e below (T212.setTop (mkF m 56 #[.val (.int p1), .val (.long q2), .second, .val (.long q3), .second, .val (.long q4), .second, .val (.int p5), .val (.int (3 : Int32)), .val (.long y200), .second, .val (.long y201), .second, .val (.long y202), .second, .val (.ref b204), .unset, .unset, .unset, .unset, .unset, .unset, .unset] [(.ref b204)])) t
      refine XS.lload X212.here hx rfl (hb hby at_56) rfl ?_
      exact k)
    obtain ⟨cq222, kq222, q222a, q222b, q222c⟩ := isOf hZ e212 (E_207.keep K212)
    obtain ⟨_, _, ⟨T222, L222, k222, n222⟩, -, X222, ⟨Lc222, hQ222, l222, y222, z222⟩, st222⟩ := X212.virtualBack hx (y := (⟨"com/example/usher/usher/server/Traffic", "frameAnswered", "(J)V"⟩ : MethodName)) (z := (⟨"com/example/usher/usher/server/Traffic", "frameAnswered", "(J)V"⟩ : MethodName)) hown (mvT hZ (hw _ (List.mem_of_getElem? (i := 28) rfl))) (mvT hZ (hw _ (List.mem_of_getElem? (i := 29) rfl))) (notFace_of_selects (args := #[]) (mvT hZ (hw _ (List.mem_of_getElem? (i := 31) rfl)))) (mvT hZ (hw _ (List.mem_of_getElem? (i := 31) rfl))) (mvT hZ (hw _ (List.mem_of_getElem? (i := 30) rfl))) (by decide) (backOf (W := 0) (rmA l Z a0 hw [] b204 y200 u__212 (0 : Int64) (9223372036854775807 : Int64) (0 : Int64) (0 : Int64) h212 n0 Z212 (E_207.keep K212) g_b204 G0_212 G1_212 G2_212 G3_212 G4_212) hZ (hw _ (List.mem_of_getElem? (i := 32) rfl)) (hw _ (List.mem_of_getElem? (i := 3) rfl)) (by decide) (by decide)) q222a q222c (g := (mkF m 58 #[.val (.int p1), .val (.long q2), .second, .val (.long q3), .second, .val (.long q4), .second, .val (.int p5), .val (.int (3 : Int32)), .val (.long y200), .second, .val (.long y201), .second, .val (.long y202), .second, .val (.ref b204), .unset, .unset, .unset, .unset, .unset, .unset, .unset] [(.long y200), (.ref b204)])) rfl (by rw [hml]; rfl) (Steps.refl _) (argsL := [(.long y200)]) (rest := []) (lenOf pd_3 rfl) rfl (by show 2 * 0 + _ ≤ _; exact Nat.le_of_eq rfl) (hb hby at_58) (fun _ _ => ⟨rfl, e212, (by decide : 1 + 0 ≤ _), (by decide : 8 + 0 ≤ _)⟩)
    dsimp only [Pt.U, Pt.locs, Pt.cells, Pt.slots] at X222 l222 y222 z222 st222 hQ222
    subst l222 y222 z222
    obtain ⟨rfl, N222q, K222, E_222, G0_222, G1_222, G2_222, G3_222, G4_222⟩ := hQ222
    have N222 := Fr.app N212 N222q
    have P223 : Rch p e below (s₁.setTop (entryFrame m #[(.int p1), (.long q2), (.long q3), (.long q4), (.int p5)] maxLocals)) (T222.setTop (mkF m 61 #[.val (.int p1), .val (.long q2), .second, .val (.long q3), .second, .val (.long q4), .second, .val (.int p5), .val (.int (3 : Int32)), .val (.long y200), .second, .val (.long y201), .second, .val (.long y202), .second, .val (.ref b204), .unset, .unset, .unset, .unset, .unset, .unset, .unset] [])) := fun t k => P221 t (st222.trans k)
    have P224 : Rch p e below (s₁.setTop (entryFrame m #[(.int p1), (.long q2), (.long q3), (.long q4), (.int p5)] maxLocals)) (T222.setTop (mkF m 71 #[.val (.int p1), .val (.long q2), .second, .val (.long q3), .second, .val (.long q4), .second, .val (.int p5), .val (.int (3 : Int32)), .val (.long y200), .second, .val (.long y201), .second, .val (.long y202), .second, .val (.ref b204), .unset, .unset, .unset, .unset, .unset, .unset, .unset] [(.long y201), (.ref b204)])) := fun t k => P223 t (by
      show Steps p.tables e below (T222.setTop (mkF m 61 #[.val (.int p1), .val (.long q2), .second, .val (.long q3), .second, .val (.long q4), .second, .val (.int p5), .val (.int (3 : Int32)), .val (.long y200), .second, .val (.long y201), .second, .val (.long y202), .second, .val (.ref b204), .unset, .unset, .unset, .unset, .unset, .unset, .unset] [])) t
      refine XS.iload X222.here hx rfl (hb hby at_61) rfl ?_
      show Steps p.tables e below (T222.setTop (mkF m 63 #[.val (.int p1), .val (.long q2), .second, .val (.long q3), .second, .val (.long q4), .second, .val (.int p5), .val (.int (3 : Int32)), .val (.long y200), .second, .val (.long y201), .second, .val (.long y202), .second, .val (.ref b204), .unset, .unset, .unset, .unset, .unset, .unset, .unset] [(.int (3 : Int32))])) t
      refine XS.iconst X222.here hx rfl (hb hby at_63) ?_
      show Steps p.tables e below (T222.setTop (mkF m 64 #[.val (.int p1), .val (.long q2), .second, .val (.long q3), .second, .val (.long q4), .second, .val (.int p5), .val (.int (3 : Int32)), .val (.long y200), .second, .val (.long y201), .second, .val (.long y202), .second, .val (.ref b204), .unset, .unset, .unset, .unset, .unset, .unset, .unset] [(.int (2 : Int32)), (.int (3 : Int32))])) t
      refine XS.icmpNo X222.here hx rfl (hb hby at_64) rfl (flt (by decide)).1 ?_
      show Steps p.tables e below (T222.setTop (mkF m 67 #[.val (.int p1), .val (.long q2), .second, .val (.long q3), .second, .val (.long q4), .second, .val (.int p5), .val (.int (3 : Int32)), .val (.long y200), .second, .val (.long y201), .second, .val (.long y202), .second, .val (.ref b204), .unset, .unset, .unset, .unset, .unset, .unset, .unset] [])) t
      refine XS.aload X222.here hx rfl (hb hby at_67) rfl rfl ?_
      show Steps p.tables e below (T222.setTop (mkF m 69 #[.val (.int p1), .val (.long q2), .second, .val (.long q3), .second, .val (.long q4), .second, .val (.int p5), .val (.int (3 : Int32)), .val (.long y200), .second, .val (.long y201), .second, .val (.long y202), .second, .val (.ref b204), .unset, .unset, .unset, .unset, .unset, .unset, .unset] [(.ref b204)])) t
      refine XS.lload X222.here hx rfl (hb hby at_69) rfl ?_
      exact k)
    have f226 : n0 ≤ T222.heap.size := (Nat.le_trans Z212 K222.1)
    obtain ⟨cq225, kq225, q225a, q225b, q225c⟩ := isOf hZ rfl E_222
    obtain ⟨_, _, ⟨T225, L225, k225, n225⟩, -, X225, ⟨Lc225, hQ225, l225, y225, z225⟩, st225⟩ := X222.virtualBack hx (y := (⟨"com/example/usher/usher/server/Traffic", "frameAnswered", "(J)V"⟩ : MethodName)) (z := (⟨"com/example/usher/usher/server/Traffic", "frameAnswered", "(J)V"⟩ : MethodName)) hown (mvT hZ (hw _ (List.mem_of_getElem? (i := 28) rfl))) (mvT hZ (hw _ (List.mem_of_getElem? (i := 29) rfl))) (notFace_of_selects (args := #[]) (mvT hZ (hw _ (List.mem_of_getElem? (i := 31) rfl)))) (mvT hZ (hw _ (List.mem_of_getElem? (i := 31) rfl))) (mvT hZ (hw _ (List.mem_of_getElem? (i := 30) rfl))) (by decide) (backOf (W := 0) (rmA l Z a0 hw [] b204 y201 (u__212 + (1 : Int64)) ((0 : Int64) + (1 : Int64)) (own_min (9223372036854775807 : Int64) y200) (own_max (0 : Int64) y200) ((0 : Int64) + y200) T222.heap n0 f226 E_222 g_b204 G0_222 G1_222 G2_222 G3_222 G4_222) hZ (hw _ (List.mem_of_getElem? (i := 32) rfl)) (hw _ (List.mem_of_getElem? (i := 3) rfl)) (by decide) (by decide)) q225a q225c (g := (mkF m 71 #[.val (.int p1), .val (.long q2), .second, .val (.long q3), .second, .val (.long q4), .second, .val (.int p5), .val (.int (3 : Int32)), .val (.long y200), .second, .val (.long y201), .second, .val (.long y202), .second, .val (.ref b204), .unset, .unset, .unset, .unset, .unset, .unset, .unset] [(.long y201), (.ref b204)])) rfl (by rw [hml]; rfl) (Steps.refl _) (argsL := [(.long y201)]) (rest := []) (lenOf pd_3 rfl) rfl (by show 2 * 0 + _ ≤ _; exact Nat.le_of_eq rfl) (hb hby at_71) (fun _ _ => ⟨rfl, rfl, (by decide : 1 + 0 ≤ _), (by decide : 8 + 0 ≤ _)⟩)
    dsimp only [Pt.U, Pt.locs, Pt.cells, Pt.slots] at X225 l225 y225 z225 st225 hQ225
    subst l225 y225 z225
    obtain ⟨rfl, N225q, K225, E_225, G0_225, G1_225, G2_225, G3_225, G4_225⟩ := hQ225
    have N225 := Fr.app N222 N225q
    have P227 : Rch p e below (s₁.setTop (entryFrame m #[(.int p1), (.long q2), (.long q3), (.long q4), (.int p5)] maxLocals)) (T225.setTop (mkF m 74 #[.val (.int p1), .val (.long q2), .second, .val (.long q3), .second, .val (.long q4), .second, .val (.int p5), .val (.int (3 : Int32)), .val (.long y200), .second, .val (.long y201), .second, .val (.long y202), .second, .val (.ref b204), .unset, .unset, .unset, .unset, .unset, .unset, .unset] [])) := fun t k => P224 t (st225.trans k)
    obtain ⟨x228, hx228⟩ : ∃ z : Int32, z = (p5 &&& (2 : Int32)) := ⟨_, rfl⟩
    have P229 : Rch p e below (s₁.setTop (entryFrame m #[(.int p1), (.long q2), (.long q3), (.long q4), (.int p5)] maxLocals)) (T225.setTop (mkF m 78 #[.val (.int p1), .val (.long q2), .second, .val (.long q3), .second, .val (.long q4), .second, .val (.int p5), .val (.int (3 : Int32)), .val (.long y200), .second, .val (.long y201), .second, .val (.long y202), .second, .val (.ref b204), .unset, .unset, .unset, .unset, .unset, .unset, .unset] [(.int x228)])) := fun t k => P227 t (by
      subst hx228
      show Steps p.tables e below (T225.setTop (mkF m 74 #[.val (.int p1), .val (.long q2), .second, .val (.long q3), .second, .val (.long q4), .second, .val (.int p5), .val (.int (3 : Int32)), .val (.long y200), .second, .val (.long y201), .second, .val (.long y202), .second, .val (.ref b204), .unset, .unset, .unset, .unset, .unset, .unset, .unset] [])) t
      refine XS.iload X225.here hx rfl (hb hby at_74) rfl ?_
      show Steps p.tables e below (T225.setTop (mkF m 76 #[.val (.int p1), .val (.long q2), .second, .val (.long q3), .second, .val (.long q4), .second, .val (.int p5), .val (.int (3 : Int32)), .val (.long y200), .second, .val (.long y201), .second, .val (.long y202), .second, .val (.ref b204), .unset, .unset, .unset, .unset, .unset, .unset, .unset] [(.int p5)])) t
      refine XS.iconst X225.here hx rfl (hb hby at_76) ?_
      show Steps p.tables e below (T225.setTop (mkF m 77 #[.val (.int p1), .val (.long q2), .second, .val (.long q3), .second, .val (.long q4), .second, .val (.int p5), .val (.int (3 : Int32)), .val (.long y200), .second, .val (.long y201), .second, .val (.long y202), .second, .val (.ref b204), .unset, .unset, .unset, .unset, .unset, .unset, .unset] [(.int (2 : Int32)), (.int p5)])) t
      refine XS.iand X225.here hx rfl (hb hby at_77) rfl ?_
      exact k)
    obtain ⟨T230, L230, h230, u__230, X230, e230, N230, Z230, K230, G0_230, G1_230, G2_230, G3_230, G4_230, P230⟩ : ∃ (T230 : State) (L230 : List Loc) (h230 : Heap) (u__230 : Int64), Stand p l e room_1 s m #[(.int p1), (.long q2), (.long q3), (.long q4), (.int p5)] below meth c T230 L230 1 8 ∧ T230.heap = h230 ∧ Fr n0 L230 ∧ n0 ≤ h230.size ∧ Keep T225.heap h230 [b204] ∧ (Fld Z h230 b204 "com/example/usher/usher/server/Traffic" "sent" "J" (.long u__230)) ∧ (Fld Z h230 b204 "com/example/usher/usher/server/Traffic" "answered" "J" (.long (((0 : Int64) + (1 : Int64)) + (1 : Int64)))) ∧ (Fld Z h230 b204 "com/example/usher/usher/server/Traffic" "latencyMin" "J" (.long (own_min (own_min (9223372036854775807 : Int64) y200) y201))) ∧ (Fld Z h230 b204 "com/example/usher/usher/server/Traffic" "latencyMax" "J" (.long (own_max (own_max (0 : Int64) y200) y201))) ∧ (Fld Z h230 b204 "com/example/usher/usher/server/Traffic" "latencyTotal" "J" (.long (((0 : Int64) + y200) + y201))) ∧ Rch p e below (s₁.setTop (entryFrame m #[(.int p1), (.long q2), (.long q3), (.long q4), (.int p5)] maxLocals)) (T230.setTop (mkF m 86 #[.val (.int p1), .val (.long q2), .second, .val (.long q3), .second, .val (.long q4), .second, .val (.int p5), .val (.int (3 : Int32)), .val (.long y200), .second, .val (.long y201), .second, .val (.long y202), .second, .val (.ref b204), .unset, .unset, .unset, .unset, .unset, .unset, .unset] [])) := by
      by_cases c231 : x228 = (0 : Int32)
      · have P232 : Rch p e below (s₁.setTop (entryFrame m #[(.int p1), (.long q2), (.long q3), (.long q4), (.int p5)] maxLocals)) (T225.setTop (mkF m 86 #[.val (.int p1), .val (.long q2), .second, .val (.long q3), .second, .val (.long q4), .second, .val (.int p5), .val (.int (3 : Int32)), .val (.long y200), .second, .val (.long y201), .second, .val (.long y202), .second, .val (.ref b204), .unset, .unset, .unset, .unset, .unset, .unset, .unset] [])) := fun t k => P229 t (by
          show Steps p.tables e below (T225.setTop (mkF m 78 #[.val (.int p1), .val (.long q2), .second, .val (.long q3), .second, .val (.long q4), .second, .val (.int p5), .val (.int (3 : Int32)), .val (.long y200), .second, .val (.long y201), .second, .val (.long y202), .second, .val (.ref b204), .unset, .unset, .unset, .unset, .unset, .unset, .unset] [(.int x228)])) t
          refine XS.ifYes X225.here hx rfl (pc0 := 78) (pc' := 86) rfl (hb hby at_78) rfl ((if0 _ _).trans (teq c231).1) (by decide) (by decide) ?_
          exact k)
        have f233 : n0 ≤ T225.heap.size := (Nat.le_trans f226 K225.1)
        exact ⟨T225, _, T225.heap, ((u__212 + (1 : Int64)) + (1 : Int64)), X225, rfl, N225, f233, (Keep.refl T225.heap [b204]), G0_225, G1_225, G2_225, G3_225, G4_225, P232⟩
      · have P234 : Rch p e below (s₁.setTop (entryFrame m #[(.int p1), (.long q2), (.long q3), (.long q4), (.int p5)] maxLocals)) (T225.setTop (mkF m 83 #[.val (.int p1), .val (.long q2), .second, .val (.long q3), .second, .val (.long q4), .second, .val (.int p5), .val (.int (3 : Int32)), .val (.long y200), .second, .val (.long y201), .second, .val (.long y202), .second, .val (.ref b204), .unset, .unset, .unset, .unset, .unset, .unset, .unset] [(.ref b204)])) := fun t k => P229 t (by
          show Steps p.tables e below (T225.setTop (mkF m 78 #[.val (.int p1), .val (.long q2), .second, .val (.long q3), .second, .val (.long q4), .second, .val (.int p5), .val (.int (3 : Int32)), .val (.long y200), .second, .val (.long y201), .second, .val (.long y202), .second, .val (.ref b204), .unset, .unset, .unset, .unset, .unset, .unset, .unset] [(.int x228)])) t
          refine XS.ifNo X225.here hx rfl (hb hby at_78) rfl ((if0 _ _).trans (feq c231).1) ?_
          show Steps p.tables e below (T225.setTop (mkF m 81 #[.val (.int p1), .val (.long q2), .second, .val (.long q3), .second, .val (.long q4), .second, .val (.int p5), .val (.int (3 : Int32)), .val (.long y200), .second, .val (.long y201), .second, .val (.long y202), .second, .val (.ref b204), .unset, .unset, .unset, .unset, .unset, .unset, .unset] [])) t
          refine XS.aload X225.here hx rfl (hb hby at_81) rfl rfl ?_
          exact k)
        have f236 : n0 ≤ T225.heap.size := (Nat.le_trans f226 K225.1)
        obtain ⟨cq235, kq235, q235a, q235b, q235c⟩ := isOf hZ rfl E_225
        obtain ⟨_, _, ⟨T235, L235, k235, n235⟩, -, X235, ⟨Lc235, hQ235, l235, y235, z235⟩, st235⟩ := X225.virtualBack hx (y := (⟨"com/example/usher/usher/server/Traffic", "notificationSent", "()V"⟩ : MethodName)) (z := (⟨"com/example/usher/usher/server/Traffic", "notificationSent", "()V"⟩ : MethodName)) hown (mvT hZ (hw _ (List.mem_of_getElem? (i := 13) rfl))) (mvT hZ (hw _ (List.mem_of_getElem? (i := 14) rfl))) (notFace_of_selects (args := #[]) (mvT hZ (hw _ (List.mem_of_getElem? (i := 16) rfl)))) (mvT hZ (hw _ (List.mem_of_getElem? (i := 16) rfl))) (mvT hZ (hw _ (List.mem_of_getElem? (i := 15) rfl))) (by decide) (backOf (W := 0) (rmN l Z a0 hw [] b204 ((u__212 + (1 : Int64)) + (1 : Int64)) (((0 : Int64) + (1 : Int64)) + (1 : Int64)) (own_min (own_min (9223372036854775807 : Int64) y200) y201) (own_max (own_max (0 : Int64) y200) y201) (((0 : Int64) + y200) + y201) T225.heap n0 f236 E_225 g_b204 G0_225 G1_225 G2_225 G3_225 G4_225) hZ (hw _ (List.mem_of_getElem? (i := 17) rfl)) (hw _ (List.mem_of_getElem? (i := 3) rfl)) (by decide) (by decide)) q235a q235c (g := (mkF m 83 #[.val (.int p1), .val (.long q2), .second, .val (.long q3), .second, .val (.long q4), .second, .val (.int p5), .val (.int (3 : Int32)), .val (.long y200), .second, .val (.long y201), .second, .val (.long y202), .second, .val (.ref b204), .unset, .unset, .unset, .unset, .unset, .unset, .unset] [(.ref b204)])) rfl (by rw [hml]; rfl) (Steps.refl _) (argsL := []) (rest := []) (lenOf pd_1 rfl) rfl (by show 2 * 0 + _ ≤ _; exact Nat.le_of_eq rfl) (hb hby at_83) (fun _ _ => ⟨rfl, rfl, (by decide : 1 + 0 ≤ _), (by decide : 8 + 0 ≤ _)⟩)
        dsimp only [Pt.U, Pt.locs, Pt.cells, Pt.slots] at X235 l235 y235 z235 st235 hQ235
        subst l235 y235 z235
        obtain ⟨rfl, N235q, K235, E_235, G0_235, G1_235, G2_235, G3_235, G4_235⟩ := hQ235
        have N235 := Fr.app N225 N235q
        have P237 : Rch p e below (s₁.setTop (entryFrame m #[(.int p1), (.long q2), (.long q3), (.long q4), (.int p5)] maxLocals)) (T235.setTop (mkF m 86 #[.val (.int p1), .val (.long q2), .second, .val (.long q3), .second, .val (.long q4), .second, .val (.int p5), .val (.int (3 : Int32)), .val (.long y200), .second, .val (.long y201), .second, .val (.long y202), .second, .val (.ref b204), .unset, .unset, .unset, .unset, .unset, .unset, .unset] [])) := fun t k => P234 t (st235.trans k)
        have f238 : n0 ≤ T235.heap.size := (Nat.le_trans f236 K235.1)
        exact ⟨T235, _, T235.heap, (((u__212 + (1 : Int64)) + (1 : Int64)) + (1 : Int64)), X235, rfl, N235, f238, ((Keep.refl T225.heap [b204]).trans K235 (allS (P := fun x => x ∈ ([b204] : List Addr) ∨ T225.heap.size ≤ x) (Or.inl (List.mem_of_getElem? (i := 0) rfl)) all0)), G0_235, G1_235, G2_235, G3_235, G4_235, P237⟩
    have P239 : Rch p e below (s₁.setTop (entryFrame m #[(.int p1), (.long q2), (.long q3), (.long q4), (.int p5)] maxLocals)) (T230.setTop (mkF m 96 #[.val (.int p1), .val (.long q2), .second, .val (.long q3), .second, .val (.long q4), .second, .val (.int p5), .val (.int (3 : Int32)), .val (.long y200), .second, .val (.long y201), .second, .val (.long y202), .second, .val (.ref b204), .unset, .unset, .unset, .unset, .unset, .unset, .unset] [(.long y202), (.ref b204)])) := fun t k => P230 t (by
      show Steps p.tables e below (T230.setTop (mkF m 86 #[.val (.int p1), .val (.long q2), .second, .val (.long q3), .second, .val (.long q4), .second, .val (.int p5), .val (.int (3 : Int32)), .val (.long y200), .second, .val (.long y201), .second, .val (.long y202), .second, .val (.ref b204), .unset, .unset, .unset, .unset, .unset, .unset, .unset] [])) t
      refine XS.iload X230.here hx rfl (hb hby at_86) rfl ?_
      show Steps p.tables e below (T230.setTop (mkF m 88 #[.val (.int p1), .val (.long q2), .second, .val (.long q3), .second, .val (.long q4), .second, .val (.int p5), .val (.int (3 : Int32)), .val (.long y200), .second, .val (.long y201), .second, .val (.long y202), .second, .val (.ref b204), .unset, .unset, .unset, .unset, .unset, .unset, .unset] [(.int (3 : Int32))])) t
      refine XS.iconst X230.here hx rfl (hb hby at_88) ?_
      show Steps p.tables e below (T230.setTop (mkF m 89 #[.val (.int p1), .val (.long q2), .second, .val (.long q3), .second, .val (.long q4), .second, .val (.int p5), .val (.int (3 : Int32)), .val (.long y200), .second, .val (.long y201), .second, .val (.long y202), .second, .val (.ref b204), .unset, .unset, .unset, .unset, .unset, .unset, .unset] [(.int (3 : Int32)), (.int (3 : Int32))])) t
      refine XS.icmpNo X230.here hx rfl (hb hby at_89) rfl (flt (by decide)).1 ?_
      show Steps p.tables e below (T230.setTop (mkF m 92 #[.val (.int p1), .val (.long q2), .second, .val (.long q3), .second, .val (.long q4), .second, .val (.int p5), .val (.int (3 : Int32)), .val (.long y200), .second, .val (.long y201), .second, .val (.long y202), .second, .val (.ref b204), .unset, .unset, .unset, .unset, .unset, .unset, .unset] [])) t
      refine XS.aload X230.here hx rfl (hb hby at_92) rfl rfl ?_
      show Steps p.tables e below (T230.setTop (mkF m 94 #[.val (.int p1), .val (.long q2), .second, .val (.long q3), .second, .val (.long q4), .second, .val (.int p5), .val (.int (3 : Int32)), .val (.long y200), .second, .val (.long y201), .second, .val (.long y202), .second, .val (.ref b204), .unset, .unset, .unset, .unset, .unset, .unset, .unset] [(.ref b204)])) t
      refine XS.lload X230.here hx rfl (hb hby at_94) rfl ?_
      exact k)
    obtain ⟨cq240, kq240, q240a, q240b, q240c⟩ := isOf hZ e230 (E_225.keep K230)
    obtain ⟨_, _, ⟨T240, L240, k240, n240⟩, -, X240, ⟨Lc240, hQ240, l240, y240, z240⟩, st240⟩ := X230.virtualBack hx (y := (⟨"com/example/usher/usher/server/Traffic", "frameAnswered", "(J)V"⟩ : MethodName)) (z := (⟨"com/example/usher/usher/server/Traffic", "frameAnswered", "(J)V"⟩ : MethodName)) hown (mvT hZ (hw _ (List.mem_of_getElem? (i := 28) rfl))) (mvT hZ (hw _ (List.mem_of_getElem? (i := 29) rfl))) (notFace_of_selects (args := #[]) (mvT hZ (hw _ (List.mem_of_getElem? (i := 31) rfl)))) (mvT hZ (hw _ (List.mem_of_getElem? (i := 31) rfl))) (mvT hZ (hw _ (List.mem_of_getElem? (i := 30) rfl))) (by decide) (backOf (W := 0) (rmA l Z a0 hw [] b204 y202 u__230 (((0 : Int64) + (1 : Int64)) + (1 : Int64)) (own_min (own_min (9223372036854775807 : Int64) y200) y201) (own_max (own_max (0 : Int64) y200) y201) (((0 : Int64) + y200) + y201) h230 n0 Z230 (E_225.keep K230) g_b204 G0_230 G1_230 G2_230 G3_230 G4_230) hZ (hw _ (List.mem_of_getElem? (i := 32) rfl)) (hw _ (List.mem_of_getElem? (i := 3) rfl)) (by decide) (by decide)) q240a q240c (g := (mkF m 96 #[.val (.int p1), .val (.long q2), .second, .val (.long q3), .second, .val (.long q4), .second, .val (.int p5), .val (.int (3 : Int32)), .val (.long y200), .second, .val (.long y201), .second, .val (.long y202), .second, .val (.ref b204), .unset, .unset, .unset, .unset, .unset, .unset, .unset] [(.long y202), (.ref b204)])) rfl (by rw [hml]; rfl) (Steps.refl _) (argsL := [(.long y202)]) (rest := []) (lenOf pd_3 rfl) rfl (by show 2 * 0 + _ ≤ _; exact Nat.le_of_eq rfl) (hb hby at_96) (fun _ _ => ⟨rfl, e230, (by decide : 1 + 0 ≤ _), (by decide : 8 + 0 ≤ _)⟩)
    dsimp only [Pt.U, Pt.locs, Pt.cells, Pt.slots] at X240 l240 y240 z240 st240 hQ240
    subst l240 y240 z240
    obtain ⟨rfl, N240q, K240, E_240, G0_240, G1_240, G2_240, G3_240, G4_240⟩ := hQ240
    have N240 := Fr.app N230 N240q
    have P241 : Rch p e below (s₁.setTop (entryFrame m #[(.int p1), (.long q2), (.long q3), (.long q4), (.int p5)] maxLocals)) (T240.setTop (mkF m 99 #[.val (.int p1), .val (.long q2), .second, .val (.long q3), .second, .val (.long q4), .second, .val (.int p5), .val (.int (3 : Int32)), .val (.long y200), .second, .val (.long y201), .second, .val (.long y202), .second, .val (.ref b204), .unset, .unset, .unset, .unset, .unset, .unset, .unset] [])) := fun t k => P239 t (st240.trans k)
    have P242 : Rch p e below (s₁.setTop (entryFrame m #[(.int p1), (.long q2), (.long q3), (.long q4), (.int p5)] maxLocals)) (T240.setTop (mkF m 101 #[.val (.int p1), .val (.long q2), .second, .val (.long q3), .second, .val (.long q4), .second, .val (.int p5), .val (.int (3 : Int32)), .val (.long y200), .second, .val (.long y201), .second, .val (.long y202), .second, .val (.ref b204), .unset, .unset, .unset, .unset, .unset, .unset, .unset] [(.ref b204)])) := fun t k => P241 t (by
      show Steps p.tables e below (T240.setTop (mkF m 99 #[.val (.int p1), .val (.long q2), .second, .val (.long q3), .second, .val (.long q4), .second, .val (.int p5), .val (.int (3 : Int32)), .val (.long y200), .second, .val (.long y201), .second, .val (.long y202), .second, .val (.ref b204), .unset, .unset, .unset, .unset, .unset, .unset, .unset] [])) t
      refine XS.aload X240.here hx rfl (hb hby at_99) rfl rfl ?_
      exact k)
    have f244 : n0 ≤ T240.heap.size := (Nat.le_trans Z230 K240.1)
    obtain ⟨cq243, kq243, q243a, q243b, q243c⟩ := isOf hZ rfl E_240
    obtain ⟨_, _, ⟨T243, L243, k243, n243⟩, -, X243, ⟨Lc243, hQ243, l243, y243, z243⟩, st243⟩ := X240.virtualBack hx (y := (⟨"com/example/usher/usher/server/Traffic", "latencyMillis", "()[J"⟩ : MethodName)) (z := (⟨"com/example/usher/usher/server/Traffic", "latencyMillis", "()[J"⟩ : MethodName)) hown (mvT hZ (hw _ (List.mem_of_getElem? (i := 20) rfl))) (mvT hZ (hw _ (List.mem_of_getElem? (i := 21) rfl))) (notFace_of_selects (args := #[]) (mvT hZ (hw _ (List.mem_of_getElem? (i := 23) rfl)))) (mvT hZ (hw _ (List.mem_of_getElem? (i := 23) rfl))) (mvT hZ (hw _ (List.mem_of_getElem? (i := 22) rfl))) (by decide) (backOf (W := 0) (rmL1 l Z a0 hw [] b204 ((((0 : Int64) + (1 : Int64)) + (1 : Int64)) + (1 : Int64)) (own_min (own_min (own_min (9223372036854775807 : Int64) y200) y201) y202) (own_max (own_max (own_max (0 : Int64) y200) y201) y202) ((((0 : Int64) + y200) + y201) + y202) T240.heap n0 f244 G1_240 G2_240 G3_240 G4_240 (by decide)) hZ (hw _ (List.mem_of_getElem? (i := 24) rfl)) (hw _ (List.mem_of_getElem? (i := 3) rfl)) (by decide) (by decide)) q243a q243c (g := (mkF m 101 #[.val (.int p1), .val (.long q2), .second, .val (.long q3), .second, .val (.long q4), .second, .val (.int p5), .val (.int (3 : Int32)), .val (.long y200), .second, .val (.long y201), .second, .val (.long y202), .second, .val (.ref b204), .unset, .unset, .unset, .unset, .unset, .unset, .unset] [(.ref b204)])) rfl (by rw [hml]; rfl) (Steps.refl _) (argsL := []) (rest := []) (lenOf pd_2 rfl) rfl (by show 2 * 0 + _ ≤ _; exact Nat.le_of_eq rfl) (hb hby at_101) (fun _ _ => ⟨rfl, rfl, (by decide : 1 + 1 ≤ _), (by decide : 8 + 3 ≤ _)⟩)
    dsimp only [Pt.U, Pt.locs, Pt.cells, Pt.slots] at X243 l243 y243 z243 st243 hQ243
    subst l243 y243 z243
    have f245 : Exa Z T240.heap b204 "com/example/usher/usher/server/Traffic" := ((((((A204.keep K207).keep K212).keep K222).keep K225).keep K230).keep K240)
    have f246 : Keep h0 T240.heap [] := ((((((((Keep.refl h0 []).ext E204).trans K207 (allS (P := fun x => x ∈ [] ∨ h0.size ≤ x) (Or.inr sz_b204) all0)).trans K212 (allS (P := fun x => x ∈ [] ∨ h0.size ≤ x) (Or.inr sz_b204) all0)).trans K222 (allS (P := fun x => x ∈ [] ∨ h0.size ≤ x) (Or.inr sz_b204) all0)).trans K225 (allS (P := fun x => x ∈ [] ∨ h0.size ≤ x) (Or.inr sz_b204) all0)).trans K230 (allS (P := fun x => x ∈ [] ∨ h0.size ≤ x) (Or.inr sz_b204) all0)).trans K240 (allS (P := fun x => x ∈ [] ∨ h0.size ≤ x) (Or.inr sz_b204) all0))
    obtain ⟨b__243, kb__243, rfl, N243q, K243, Fz_243, V_243⟩ := hQ243
    have N243 := Fr.app N240 N243q
    have g_b__243 : n0 ≤ b__243 := Nat.le_trans f244 Fz_243
    have sz_b__243 : h0.size ≤ b__243 := Nat.le_trans f246.1 Fz_243
    have ne_b204_b__243 : b204 ≠ b__243 := Nat.ne_of_lt (Nat.lt_of_lt_of_le f245.lt Fz_243)
    have P247 : Rch p e below (s₁.setTop (entryFrame m #[(.int p1), (.long q2), (.long q3), (.long q4), (.int p5)] maxLocals)) (T243.setTop (mkF m 104 #[.val (.int p1), .val (.long q2), .second, .val (.long q3), .second, .val (.long q4), .second, .val (.int p5), .val (.int (3 : Int32)), .val (.long y200), .second, .val (.long y201), .second, .val (.long y202), .second, .val (.ref b204), .unset, .unset, .unset, .unset, .unset, .unset, .unset] [(.ref b__243)])) := fun t k => P242 t (st243.trans k)
    have P248 : Rch p e below (s₁.setTop (entryFrame m #[(.int p1), (.long q2), (.long q3), (.long q4), (.int p5)] maxLocals)) (T243.setTop (mkF m 113 #[.val (.int p1), .val (.long q2), .second, .val (.long q3), .second, .val (.long q4), .second, .val (.int p5), .val (.int (3 : Int32)), .val (.long y200), .second, .val (.long y201), .second, .val (.long y202), .second, .val (.ref b204), .val (.ref b__243), .unset, .unset, .unset, .unset, .unset, .unset] [(.ref b__243)])) := fun t k => P247 t (by
      show Steps p.tables e below (T243.setTop (mkF m 104 #[.val (.int p1), .val (.long q2), .second, .val (.long q3), .second, .val (.long q4), .second, .val (.int p5), .val (.int (3 : Int32)), .val (.long y200), .second, .val (.long y201), .second, .val (.long y202), .second, .val (.ref b204), .unset, .unset, .unset, .unset, .unset, .unset, .unset] [(.ref b__243)])) t
      refine XS.astore X243.here hx rfl (hb hby at_104) rfl rfl (l' := #[.val (.int p1), .val (.long q2), .second, .val (.long q3), .second, .val (.long q4), .second, .val (.int p5), .val (.int (3 : Int32)), .val (.long y200), .second, .val (.long y201), .second, .val (.long y202), .second, .val (.ref b204), .val (.ref b__243), .unset, .unset, .unset, .unset, .unset, .unset]) rfl ?_
      show Steps p.tables e below (T243.setTop (mkF m 106 #[.val (.int p1), .val (.long q2), .second, .val (.long q3), .second, .val (.long q4), .second, .val (.int p5), .val (.int (3 : Int32)), .val (.long y200), .second, .val (.long y201), .second, .val (.long y202), .second, .val (.ref b204), .val (.ref b__243), .unset, .unset, .unset, .unset, .unset, .unset] [])) t
      refine XS.aload X243.here hx rfl (hb hby at_106) rfl rfl ?_
      show Steps p.tables e below (T243.setTop (mkF m 108 #[.val (.int p1), .val (.long q2), .second, .val (.long q3), .second, .val (.long q4), .second, .val (.int p5), .val (.int (3 : Int32)), .val (.long y200), .second, .val (.long y201), .second, .val (.long y202), .second, .val (.ref b204), .val (.ref b__243), .unset, .unset, .unset, .unset, .unset, .unset] [(.ref b__243)])) t
      refine XS.ifnullNo X243.here hx rfl (hb hby at_108) rfl ?_
      show Steps p.tables e below (T243.setTop (mkF m 111 #[.val (.int p1), .val (.long q2), .second, .val (.long q3), .second, .val (.long q4), .second, .val (.int p5), .val (.int (3 : Int32)), .val (.long y200), .second, .val (.long y201), .second, .val (.long y202), .second, .val (.ref b204), .val (.ref b__243), .unset, .unset, .unset, .unset, .unset, .unset] [])) t
      refine XS.aload X243.here hx rfl (hb hby at_111) rfl rfl ?_
      exact k)
    have V_o249 := V_243
    obtain ⟨co249, Aro249, qo249, So249, Mo249, Ho249, Go249⟩ := V_o249
    have P250 : Rch p e below (s₁.setTop (entryFrame m #[(.int p1), (.long q2), (.long q3), (.long q4), (.int p5)] maxLocals)) (T243.setTop (mkF m 114 #[.val (.int p1), .val (.long q2), .second, .val (.long q3), .second, .val (.long q4), .second, .val (.int p5), .val (.int (3 : Int32)), .val (.long y200), .second, .val (.long y201), .second, .val (.long y202), .second, .val (.ref b204), .val (.ref b__243), .unset, .unset, .unset, .unset, .unset, .unset] [(.int (3 : Int32))])) := fun t k => P248 t (by
      refine X243.arraylength hx Aro249.1 (State.isArrayOf_alike hZ.alike Aro249.2.1) (g := (mkF m 113 #[.val (.int p1), .val (.long q2), .second, .val (.long q3), .second, .val (.long q4), .second, .val (.int p5), .val (.int (3 : Int32)), .val (.long y200), .second, .val (.long y201), .second, .val (.long y202), .second, .val (.ref b204), .val (.ref b__243), .unset, .unset, .unset, .unset, .unset, .unset] [(.ref b__243)])) rfl rfl (hb hby at_113) _ ?_
      rw [len_of So249 Mo249]; exact k)
    have P251 : Rch p e below (s₁.setTop (entryFrame m #[(.int p1), (.long q2), (.long q3), (.long q4), (.int p5)] maxLocals)) (T243.setTop (mkF m 230 #[.val (.int p1), .val (.long q2), .second, .val (.long q3), .second, .val (.long q4), .second, .val (.int p5), .val (.int (3 : Int32)), .val (.long y200), .second, .val (.long y201), .second, .val (.long y202), .second, .val (.ref b204), .val (.ref b__243), .unset, .unset, .unset, .unset, .unset, .unset] [(.long y202), (.long y201), (.long y200)])) := fun t k => P250 t (by
      show Steps p.tables e below (T243.setTop (mkF m 114 #[.val (.int p1), .val (.long q2), .second, .val (.long q3), .second, .val (.long q4), .second, .val (.int p5), .val (.int (3 : Int32)), .val (.long y200), .second, .val (.long y201), .second, .val (.long y202), .second, .val (.ref b204), .val (.ref b__243), .unset, .unset, .unset, .unset, .unset, .unset] [(.int (3 : Int32))])) t
      refine XS.iconst X243.here hx rfl (hb hby at_114) ?_
      show Steps p.tables e below (T243.setTop (mkF m 115 #[.val (.int p1), .val (.long q2), .second, .val (.long q3), .second, .val (.long q4), .second, .val (.int p5), .val (.int (3 : Int32)), .val (.long y200), .second, .val (.long y201), .second, .val (.long y202), .second, .val (.ref b204), .val (.ref b__243), .unset, .unset, .unset, .unset, .unset, .unset] [(.int (3 : Int32)), (.int (3 : Int32))])) t
      refine XS.icmpYes X243.here hx rfl (pc0 := 115) (pc' := 120) rfl (hb hby at_115) rfl (teq (by decide)).1 (by decide) (by decide) ?_
      show Steps p.tables e below (T243.setTop (mkF m 120 #[.val (.int p1), .val (.long q2), .second, .val (.long q3), .second, .val (.long q4), .second, .val (.int p5), .val (.int (3 : Int32)), .val (.long y200), .second, .val (.long y201), .second, .val (.long y202), .second, .val (.ref b204), .val (.ref b__243), .unset, .unset, .unset, .unset, .unset, .unset] [])) t
      refine XS.iload X243.here hx rfl (hb hby at_120) rfl ?_
      show Steps p.tables e below (T243.setTop (mkF m 122 #[.val (.int p1), .val (.long q2), .second, .val (.long q3), .second, .val (.long q4), .second, .val (.int p5), .val (.int (3 : Int32)), .val (.long y200), .second, .val (.long y201), .second, .val (.long y202), .second, .val (.ref b204), .val (.ref b__243), .unset, .unset, .unset, .unset, .unset, .unset] [(.int (3 : Int32))])) t
      refine XS.ifYes X243.here hx rfl (pc0 := 122) (pc' := 137) rfl (hb hby at_122) rfl ((if0 _ _).trans (feq (by decide)).2) (by decide) (by decide) ?_
      show Steps p.tables e below (T243.setTop (mkF m 137 #[.val (.int p1), .val (.long q2), .second, .val (.long q3), .second, .val (.long q4), .second, .val (.int p5), .val (.int (3 : Int32)), .val (.long y200), .second, .val (.long y201), .second, .val (.long y202), .second, .val (.ref b204), .val (.ref b__243), .unset, .unset, .unset, .unset, .unset, .unset] [])) t
      refine XS.iload X243.here hx rfl (hb hby at_137) rfl ?_
      show Steps p.tables e below (T243.setTop (mkF m 139 #[.val (.int p1), .val (.long q2), .second, .val (.long q3), .second, .val (.long q4), .second, .val (.int p5), .val (.int (3 : Int32)), .val (.long y200), .second, .val (.long y201), .second, .val (.long y202), .second, .val (.ref b204), .val (.ref b__243), .unset, .unset, .unset, .unset, .unset, .unset] [(.int (3 : Int32))])) t
      refine XS.iconst X243.here hx rfl (hb hby at_139) ?_
      show Steps p.tables e below (T243.setTop (mkF m 140 #[.val (.int p1), .val (.long q2), .second, .val (.long q3), .second, .val (.long q4), .second, .val (.int p5), .val (.int (3 : Int32)), .val (.long y200), .second, .val (.long y201), .second, .val (.long y202), .second, .val (.ref b204), .val (.ref b__243), .unset, .unset, .unset, .unset, .unset, .unset] [(.int (1 : Int32)), (.int (3 : Int32))])) t
      refine XS.icmpYes X243.here hx rfl (pc0 := 140) (pc' := 178) rfl (hb hby at_140) rfl (feq (by decide)).2 (by decide) (by decide) ?_
      show Steps p.tables e below (T243.setTop (mkF m 178 #[.val (.int p1), .val (.long q2), .second, .val (.long q3), .second, .val (.long q4), .second, .val (.int p5), .val (.int (3 : Int32)), .val (.long y200), .second, .val (.long y201), .second, .val (.long y202), .second, .val (.ref b204), .val (.ref b__243), .unset, .unset, .unset, .unset, .unset, .unset] [])) t
      refine XS.iload X243.here hx rfl (hb hby at_178) rfl ?_
      show Steps p.tables e below (T243.setTop (mkF m 180 #[.val (.int p1), .val (.long q2), .second, .val (.long q3), .second, .val (.long q4), .second, .val (.int p5), .val (.int (3 : Int32)), .val (.long y200), .second, .val (.long y201), .second, .val (.long y202), .second, .val (.ref b204), .val (.ref b__243), .unset, .unset, .unset, .unset, .unset, .unset] [(.int (3 : Int32))])) t
      refine XS.iconst X243.here hx rfl (hb hby at_180) ?_
      show Steps p.tables e below (T243.setTop (mkF m 181 #[.val (.int p1), .val (.long q2), .second, .val (.long q3), .second, .val (.long q4), .second, .val (.int p5), .val (.int (3 : Int32)), .val (.long y200), .second, .val (.long y201), .second, .val (.long y202), .second, .val (.ref b204), .val (.ref b__243), .unset, .unset, .unset, .unset, .unset, .unset] [(.int (2 : Int32)), (.int (3 : Int32))])) t
      refine XS.icmpYes X243.here hx rfl (pc0 := 181) (pc' := 224) rfl (hb hby at_181) rfl (feq (by decide)).2 (by decide) (by decide) ?_
      show Steps p.tables e below (T243.setTop (mkF m 224 #[.val (.int p1), .val (.long q2), .second, .val (.long q3), .second, .val (.long q4), .second, .val (.int p5), .val (.int (3 : Int32)), .val (.long y200), .second, .val (.long y201), .second, .val (.long y202), .second, .val (.ref b204), .val (.ref b__243), .unset, .unset, .unset, .unset, .unset, .unset] [])) t
      refine XS.lload X243.here hx rfl (hb hby at_224) rfl ?_
      show Steps p.tables e below (T243.setTop (mkF m 226 #[.val (.int p1), .val (.long q2), .second, .val (.long q3), .second, .val (.long q4), .second, .val (.int p5), .val (.int (3 : Int32)), .val (.long y200), .second, .val (.long y201), .second, .val (.long y202), .second, .val (.ref b204), .val (.ref b__243), .unset, .unset, .unset, .unset, .unset, .unset] [(.long y200)])) t
      refine XS.lload X243.here hx rfl (hb hby at_226) rfl ?_
      show Steps p.tables e below (T243.setTop (mkF m 228 #[.val (.int p1), .val (.long q2), .second, .val (.long q3), .second, .val (.long q4), .second, .val (.int p5), .val (.int (3 : Int32)), .val (.long y200), .second, .val (.long y201), .second, .val (.long y202), .second, .val (.ref b204), .val (.ref b__243), .unset, .unset, .unset, .unset, .unset, .unset] [(.long y201), (.long y200)])) t
      refine XS.lload X243.here hx rfl (hb hby at_228) rfl ?_
      exact k)
    have f253 : n0 ≤ T243.heap.size := (Nat.le_trans f244 K243.1)
    obtain ⟨_, _, ⟨T252, L252, k252, n252⟩, -, X252, ⟨Lc252, hQ252, l252, y252, z252⟩, st252⟩ := Jvm.LawKit.callS X243 hx (y := (⟨"java/lang/Math", "min", "(JJ)J"⟩ : MethodName)) hown (mvT hZ (hw _ (List.mem_of_getElem? (i := 45) rfl))) (mvT hZ (hw _ (List.mem_of_getElem? (i := 34) rfl))) (mvT hZ (hw _ (List.mem_of_getElem? (i := 35) rfl))) (mvT hZ (hw _ (List.mem_of_getElem? (i := 36) rfl))) (by decide) (backOf (W := 2) (rmMin l Z a0 hw [] y201 y202 T243.heap n0 f253 ) hZ (hw _ (List.mem_of_getElem? (i := 36) rfl)) (hw _ (List.mem_of_getElem? (i := 35) rfl)) (by decide) (by decide)) (g := (mkF m 230 #[.val (.int p1), .val (.long q2), .second, .val (.long q3), .second, .val (.long q4), .second, .val (.int p5), .val (.int (3 : Int32)), .val (.long y200), .second, .val (.long y201), .second, .val (.long y202), .second, .val (.ref b204), .val (.ref b__243), .unset, .unset, .unset, .unset, .unset, .unset] [(.long y202), (.long y201), (.long y200)])) rfl (by rw [hml]; rfl) (argsL := [(.long y201), (.long y202)]) (rest := [(.long y200)]) (lenOf pd_0 rfl) rfl (by show 2 * 0 + _ ≤ _; exact Nat.le_of_eq rfl) (hb hby at_230) (fun _ _ => ⟨rfl, rfl, (by decide : 2 + 0 ≤ _), (by decide : 11 + 0 ≤ _)⟩)
    dsimp only [Pt.U, Pt.locs, Pt.cells, Pt.slots] at X252 l252 y252 z252 st252 hQ252
    subst l252 y252 z252
    obtain ⟨rfl, N252q, e252⟩ := hQ252
    have N252 := Fr.app N243 N252q
    have P254 : Rch p e below (s₁.setTop (entryFrame m #[(.int p1), (.long q2), (.long q3), (.long q4), (.int p5)] maxLocals)) (T252.setTop (mkF m 233 #[.val (.int p1), .val (.long q2), .second, .val (.long q3), .second, .val (.long q4), .second, .val (.int p5), .val (.int (3 : Int32)), .val (.long y200), .second, .val (.long y201), .second, .val (.long y202), .second, .val (.ref b204), .val (.ref b__243), .unset, .unset, .unset, .unset, .unset, .unset] [(.long (own_min y201 y202)), (.long y200)])) := fun t k => P251 t (st252 t k)
    obtain ⟨y255, hy255⟩ : ∃ z : Int64, z = (own_min y201 y202) := ⟨_, rfl⟩
    rw [← hy255] at P254
    obtain ⟨_, _, ⟨T256, L256, k256, n256⟩, -, X256, ⟨Lc256, hQ256, l256, y256, z256⟩, st256⟩ := Jvm.LawKit.callS X252 hx (y := (⟨"java/lang/Math", "min", "(JJ)J"⟩ : MethodName)) hown (mvT hZ (hw _ (List.mem_of_getElem? (i := 45) rfl))) (mvT hZ (hw _ (List.mem_of_getElem? (i := 34) rfl))) (mvT hZ (hw _ (List.mem_of_getElem? (i := 35) rfl))) (mvT hZ (hw _ (List.mem_of_getElem? (i := 36) rfl))) (by decide) (backOf (W := 0) (rmMin l Z a0 hw [] y200 y255 T243.heap n0 f253 ) hZ (hw _ (List.mem_of_getElem? (i := 36) rfl)) (hw _ (List.mem_of_getElem? (i := 35) rfl)) (by decide) (by decide)) (g := (mkF m 233 #[.val (.int p1), .val (.long q2), .second, .val (.long q3), .second, .val (.long q4), .second, .val (.int p5), .val (.int (3 : Int32)), .val (.long y200), .second, .val (.long y201), .second, .val (.long y202), .second, .val (.ref b204), .val (.ref b__243), .unset, .unset, .unset, .unset, .unset, .unset] [(.long y255), (.long y200)])) rfl (by rw [hml]; rfl) (argsL := [(.long y200), (.long y255)]) (rest := []) (lenOf pd_0 rfl) rfl (by show 2 * 0 + _ ≤ _; exact Nat.le_of_eq rfl) (hb hby at_233) (fun _ _ => ⟨rfl, e252, (by decide : 2 + 0 ≤ _), (by decide : 11 + 0 ≤ _)⟩)
    dsimp only [Pt.U, Pt.locs, Pt.cells, Pt.slots] at X256 l256 y256 z256 st256 hQ256
    subst l256 y256 z256
    obtain ⟨rfl, N256q, e256⟩ := hQ256
    have N256 := Fr.app N252 N256q
    have P257 : Rch p e below (s₁.setTop (entryFrame m #[(.int p1), (.long q2), (.long q3), (.long q4), (.int p5)] maxLocals)) (T256.setTop (mkF m 236 #[.val (.int p1), .val (.long q2), .second, .val (.long q3), .second, .val (.long q4), .second, .val (.int p5), .val (.int (3 : Int32)), .val (.long y200), .second, .val (.long y201), .second, .val (.long y202), .second, .val (.ref b204), .val (.ref b__243), .unset, .unset, .unset, .unset, .unset, .unset] [(.long (own_min y200 y255))])) := fun t k => P254 t (st256 t k)
    obtain ⟨y258, hy258⟩ : ∃ z : Int64, z = (own_min y200 y255) := ⟨_, rfl⟩
    rw [← hy258] at P257
    obtain ⟨y259, hy259⟩ : ∃ z : Int64, z = (y258 / (1000000 : Int64)) := ⟨_, rfl⟩
    have P260 : Rch p e below (s₁.setTop (entryFrame m #[(.int p1), (.long q2), (.long q3), (.long q4), (.int p5)] maxLocals)) (T256.setTop (mkF m 248 #[.val (.int p1), .val (.long q2), .second, .val (.long q3), .second, .val (.long q4), .second, .val (.int p5), .val (.int (3 : Int32)), .val (.long y200), .second, .val (.long y201), .second, .val (.long y202), .second, .val (.ref b204), .val (.ref b__243), .val (.long y259), .second, .unset, .unset, .unset, .unset] [(.long y202), (.long y201), (.long y200)])) := fun t k => P257 t (by
      subst hy259
      show Steps p.tables e below (T256.setTop (mkF m 236 #[.val (.int p1), .val (.long q2), .second, .val (.long q3), .second, .val (.long q4), .second, .val (.int p5), .val (.int (3 : Int32)), .val (.long y200), .second, .val (.long y201), .second, .val (.long y202), .second, .val (.ref b204), .val (.ref b__243), .unset, .unset, .unset, .unset, .unset, .unset] [(.long y258)])) t
      refine X256.ldc2Long hx hown (mvT hZ (hw _ (List.mem_of_getElem? (i := 46) rfl))) (g := (mkF m 236 #[.val (.int p1), .val (.long q2), .second, .val (.long q3), .second, .val (.long q4), .second, .val (.int p5), .val (.int (3 : Int32)), .val (.long y200), .second, .val (.long y201), .second, .val (.long y202), .second, .val (.ref b204), .val (.ref b__243), .unset, .unset, .unset, .unset, .unset, .unset] [(.long y258)])) rfl (hb hby at_236) _ ?_
      show Steps p.tables e below (T256.setTop (mkF m 239 #[.val (.int p1), .val (.long q2), .second, .val (.long q3), .second, .val (.long q4), .second, .val (.int p5), .val (.int (3 : Int32)), .val (.long y200), .second, .val (.long y201), .second, .val (.long y202), .second, .val (.ref b204), .val (.ref b__243), .unset, .unset, .unset, .unset, .unset, .unset] [(.long (1000000 : Int64)), (.long y258)])) t
      refine XS.ldiv X256.here hx rfl (hb hby at_239) rfl (by decide) ?_
      show Steps p.tables e below (T256.setTop (mkF m 240 #[.val (.int p1), .val (.long q2), .second, .val (.long q3), .second, .val (.long q4), .second, .val (.int p5), .val (.int (3 : Int32)), .val (.long y200), .second, .val (.long y201), .second, .val (.long y202), .second, .val (.ref b204), .val (.ref b__243), .unset, .unset, .unset, .unset, .unset, .unset] [(.long (y258 / (1000000 : Int64)))])) t
      refine XS.lstore X256.here hx rfl (hb hby at_240) rfl (l' := #[.val (.int p1), .val (.long q2), .second, .val (.long q3), .second, .val (.long q4), .second, .val (.int p5), .val (.int (3 : Int32)), .val (.long y200), .second, .val (.long y201), .second, .val (.long y202), .second, .val (.ref b204), .val (.ref b__243), .val (.long (y258 / (1000000 : Int64))), .second, .unset, .unset, .unset, .unset]) rfl ?_
      show Steps p.tables e below (T256.setTop (mkF m 242 #[.val (.int p1), .val (.long q2), .second, .val (.long q3), .second, .val (.long q4), .second, .val (.int p5), .val (.int (3 : Int32)), .val (.long y200), .second, .val (.long y201), .second, .val (.long y202), .second, .val (.ref b204), .val (.ref b__243), .val (.long (y258 / (1000000 : Int64))), .second, .unset, .unset, .unset, .unset] [])) t
      refine XS.lload X256.here hx rfl (hb hby at_242) rfl ?_
      show Steps p.tables e below (T256.setTop (mkF m 244 #[.val (.int p1), .val (.long q2), .second, .val (.long q3), .second, .val (.long q4), .second, .val (.int p5), .val (.int (3 : Int32)), .val (.long y200), .second, .val (.long y201), .second, .val (.long y202), .second, .val (.ref b204), .val (.ref b__243), .val (.long (y258 / (1000000 : Int64))), .second, .unset, .unset, .unset, .unset] [(.long y200)])) t
      refine XS.lload X256.here hx rfl (hb hby at_244) rfl ?_
      show Steps p.tables e below (T256.setTop (mkF m 246 #[.val (.int p1), .val (.long q2), .second, .val (.long q3), .second, .val (.long q4), .second, .val (.int p5), .val (.int (3 : Int32)), .val (.long y200), .second, .val (.long y201), .second, .val (.long y202), .second, .val (.ref b204), .val (.ref b__243), .val (.long (y258 / (1000000 : Int64))), .second, .unset, .unset, .unset, .unset] [(.long y201), (.long y200)])) t
      refine XS.lload X256.here hx rfl (hb hby at_246) rfl ?_
      exact k)
    obtain ⟨_, _, ⟨T261, L261, k261, n261⟩, -, X261, ⟨Lc261, hQ261, l261, y261, z261⟩, st261⟩ := Jvm.LawKit.callS X256 hx (y := (⟨"java/lang/Math", "max", "(JJ)J"⟩ : MethodName)) hown (mvT hZ (hw _ (List.mem_of_getElem? (i := 47) rfl))) (mvT hZ (hw _ (List.mem_of_getElem? (i := 40) rfl))) (mvT hZ (hw _ (List.mem_of_getElem? (i := 35) rfl))) (mvT hZ (hw _ (List.mem_of_getElem? (i := 41) rfl))) (by decide) (backOf (W := 2) (rmMax l Z a0 hw [] y201 y202 T243.heap n0 f253 ) hZ (hw _ (List.mem_of_getElem? (i := 41) rfl)) (hw _ (List.mem_of_getElem? (i := 35) rfl)) (by decide) (by decide)) (g := (mkF m 248 #[.val (.int p1), .val (.long q2), .second, .val (.long q3), .second, .val (.long q4), .second, .val (.int p5), .val (.int (3 : Int32)), .val (.long y200), .second, .val (.long y201), .second, .val (.long y202), .second, .val (.ref b204), .val (.ref b__243), .val (.long y259), .second, .unset, .unset, .unset, .unset] [(.long y202), (.long y201), (.long y200)])) rfl (by rw [hml]; rfl) (argsL := [(.long y201), (.long y202)]) (rest := [(.long y200)]) (lenOf pd_0 rfl) rfl (by show 2 * 0 + _ ≤ _; exact Nat.le_of_eq rfl) (hb hby at_248) (fun _ _ => ⟨rfl, e256, (by decide : 2 + 0 ≤ _), (by decide : 11 + 0 ≤ _)⟩)
    dsimp only [Pt.U, Pt.locs, Pt.cells, Pt.slots] at X261 l261 y261 z261 st261 hQ261
    subst l261 y261 z261
    obtain ⟨rfl, N261q, e261⟩ := hQ261
    have N261 := Fr.app N256 N261q
    have P262 : Rch p e below (s₁.setTop (entryFrame m #[(.int p1), (.long q2), (.long q3), (.long q4), (.int p5)] maxLocals)) (T261.setTop (mkF m 251 #[.val (.int p1), .val (.long q2), .second, .val (.long q3), .second, .val (.long q4), .second, .val (.int p5), .val (.int (3 : Int32)), .val (.long y200), .second, .val (.long y201), .second, .val (.long y202), .second, .val (.ref b204), .val (.ref b__243), .val (.long y259), .second, .unset, .unset, .unset, .unset] [(.long (own_max y201 y202)), (.long y200)])) := fun t k => P260 t (st261 t k)
    obtain ⟨y263, hy263⟩ : ∃ z : Int64, z = (own_max y201 y202) := ⟨_, rfl⟩
    rw [← hy263] at P262
    obtain ⟨_, _, ⟨T264, L264, k264, n264⟩, -, X264, ⟨Lc264, hQ264, l264, y264, z264⟩, st264⟩ := Jvm.LawKit.callS X261 hx (y := (⟨"java/lang/Math", "max", "(JJ)J"⟩ : MethodName)) hown (mvT hZ (hw _ (List.mem_of_getElem? (i := 47) rfl))) (mvT hZ (hw _ (List.mem_of_getElem? (i := 40) rfl))) (mvT hZ (hw _ (List.mem_of_getElem? (i := 35) rfl))) (mvT hZ (hw _ (List.mem_of_getElem? (i := 41) rfl))) (by decide) (backOf (W := 0) (rmMax l Z a0 hw [] y200 y263 T243.heap n0 f253 ) hZ (hw _ (List.mem_of_getElem? (i := 41) rfl)) (hw _ (List.mem_of_getElem? (i := 35) rfl)) (by decide) (by decide)) (g := (mkF m 251 #[.val (.int p1), .val (.long q2), .second, .val (.long q3), .second, .val (.long q4), .second, .val (.int p5), .val (.int (3 : Int32)), .val (.long y200), .second, .val (.long y201), .second, .val (.long y202), .second, .val (.ref b204), .val (.ref b__243), .val (.long y259), .second, .unset, .unset, .unset, .unset] [(.long y263), (.long y200)])) rfl (by rw [hml]; rfl) (argsL := [(.long y200), (.long y263)]) (rest := []) (lenOf pd_0 rfl) rfl (by show 2 * 0 + _ ≤ _; exact Nat.le_of_eq rfl) (hb hby at_251) (fun _ _ => ⟨rfl, e261, (by decide : 2 + 0 ≤ _), (by decide : 11 + 0 ≤ _)⟩)
    dsimp only [Pt.U, Pt.locs, Pt.cells, Pt.slots] at X264 l264 y264 z264 st264 hQ264
    subst l264 y264 z264
    obtain ⟨rfl, N264q, e264⟩ := hQ264
    have N264 := Fr.app N261 N264q
    have P265 : Rch p e below (s₁.setTop (entryFrame m #[(.int p1), (.long q2), (.long q3), (.long q4), (.int p5)] maxLocals)) (T264.setTop (mkF m 254 #[.val (.int p1), .val (.long q2), .second, .val (.long q3), .second, .val (.long q4), .second, .val (.int p5), .val (.int (3 : Int32)), .val (.long y200), .second, .val (.long y201), .second, .val (.long y202), .second, .val (.ref b204), .val (.ref b__243), .val (.long y259), .second, .unset, .unset, .unset, .unset] [(.long (own_max y200 y263))])) := fun t k => P262 t (st264 t k)
    obtain ⟨y266, hy266⟩ : ∃ z : Int64, z = (own_max y200 y263) := ⟨_, rfl⟩
    rw [← hy266] at P265
    obtain ⟨y267, hy267⟩ : ∃ z : Int64, z = (((y200 + y201) + y202) / (3000000 : Int64)) := ⟨_, rfl⟩
    obtain ⟨y268, hy268⟩ : ∃ z : Int64, z = (y266 / (1000000 : Int64)) := ⟨_, rfl⟩
    have P269 : Rch p e below (s₁.setTop (entryFrame m #[(.int p1), (.long q2), (.long q3), (.long q4), (.int p5)] maxLocals)) (T264.setTop (mkF m 274 #[.val (.int p1), .val (.long q2), .second, .val (.long q3), .second, .val (.long q4), .second, .val (.int p5), .val (.int (3 : Int32)), .val (.long y200), .second, .val (.long y201), .second, .val (.long y202), .second, .val (.ref b204), .val (.ref b__243), .val (.long y259), .second, .val (.long y267), .second, .val (.long y268), .second] [])) := fun t k => P265 t (by
      subst hy267 hy268
      show Steps p.tables e below (T264.setTop (mkF m 254 #[.val (.int p1), .val (.long q2), .second, .val (.long q3), .second, .val (.long q4), .second, .val (.int p5), .val (.int (3 : Int32)), .val (.long y200), .second, .val (.long y201), .second, .val (.long y202), .second, .val (.ref b204), .val (.ref b__243), .val (.long y259), .second, .unset, .unset, .unset, .unset] [(.long y266)])) t
      refine X264.ldc2Long hx hown (mvT hZ (hw _ (List.mem_of_getElem? (i := 46) rfl))) (g := (mkF m 254 #[.val (.int p1), .val (.long q2), .second, .val (.long q3), .second, .val (.long q4), .second, .val (.int p5), .val (.int (3 : Int32)), .val (.long y200), .second, .val (.long y201), .second, .val (.long y202), .second, .val (.ref b204), .val (.ref b__243), .val (.long y259), .second, .unset, .unset, .unset, .unset] [(.long y266)])) rfl (hb hby at_254) _ ?_
      show Steps p.tables e below (T264.setTop (mkF m 257 #[.val (.int p1), .val (.long q2), .second, .val (.long q3), .second, .val (.long q4), .second, .val (.int p5), .val (.int (3 : Int32)), .val (.long y200), .second, .val (.long y201), .second, .val (.long y202), .second, .val (.ref b204), .val (.ref b__243), .val (.long y259), .second, .unset, .unset, .unset, .unset] [(.long (1000000 : Int64)), (.long y266)])) t
      refine XS.ldiv X264.here hx rfl (hb hby at_257) rfl (by decide) ?_
      show Steps p.tables e below (T264.setTop (mkF m 258 #[.val (.int p1), .val (.long q2), .second, .val (.long q3), .second, .val (.long q4), .second, .val (.int p5), .val (.int (3 : Int32)), .val (.long y200), .second, .val (.long y201), .second, .val (.long y202), .second, .val (.ref b204), .val (.ref b__243), .val (.long y259), .second, .unset, .unset, .unset, .unset] [(.long (y266 / (1000000 : Int64)))])) t
      refine XS.lstore X264.here hx rfl (hb hby at_258) rfl (l' := #[.val (.int p1), .val (.long q2), .second, .val (.long q3), .second, .val (.long q4), .second, .val (.int p5), .val (.int (3 : Int32)), .val (.long y200), .second, .val (.long y201), .second, .val (.long y202), .second, .val (.ref b204), .val (.ref b__243), .val (.long y259), .second, .unset, .unset, .val (.long (y266 / (1000000 : Int64))), .second]) rfl ?_
      show Steps p.tables e below (T264.setTop (mkF m 260 #[.val (.int p1), .val (.long q2), .second, .val (.long q3), .second, .val (.long q4), .second, .val (.int p5), .val (.int (3 : Int32)), .val (.long y200), .second, .val (.long y201), .second, .val (.long y202), .second, .val (.ref b204), .val (.ref b__243), .val (.long y259), .second, .unset, .unset, .val (.long (y266 / (1000000 : Int64))), .second] [])) t
      refine XS.lload X264.here hx rfl (hb hby at_260) rfl ?_
      show Steps p.tables e below (T264.setTop (mkF m 262 #[.val (.int p1), .val (.long q2), .second, .val (.long q3), .second, .val (.long q4), .second, .val (.int p5), .val (.int (3 : Int32)), .val (.long y200), .second, .val (.long y201), .second, .val (.long y202), .second, .val (.ref b204), .val (.ref b__243), .val (.long y259), .second, .unset, .unset, .val (.long (y266 / (1000000 : Int64))), .second] [(.long y200)])) t
      refine XS.lload X264.here hx rfl (hb hby at_262) rfl ?_
      show Steps p.tables e below (T264.setTop (mkF m 264 #[.val (.int p1), .val (.long q2), .second, .val (.long q3), .second, .val (.long q4), .second, .val (.int p5), .val (.int (3 : Int32)), .val (.long y200), .second, .val (.long y201), .second, .val (.long y202), .second, .val (.ref b204), .val (.ref b__243), .val (.long y259), .second, .unset, .unset, .val (.long (y266 / (1000000 : Int64))), .second] [(.long y201), (.long y200)])) t
      refine XS.ladd X264.here hx rfl (hb hby at_264) rfl ?_
      show Steps p.tables e below (T264.setTop (mkF m 265 #[.val (.int p1), .val (.long q2), .second, .val (.long q3), .second, .val (.long q4), .second, .val (.int p5), .val (.int (3 : Int32)), .val (.long y200), .second, .val (.long y201), .second, .val (.long y202), .second, .val (.ref b204), .val (.ref b__243), .val (.long y259), .second, .unset, .unset, .val (.long (y266 / (1000000 : Int64))), .second] [(.long (y200 + y201))])) t
      refine XS.lload X264.here hx rfl (hb hby at_265) rfl ?_
      show Steps p.tables e below (T264.setTop (mkF m 267 #[.val (.int p1), .val (.long q2), .second, .val (.long q3), .second, .val (.long q4), .second, .val (.int p5), .val (.int (3 : Int32)), .val (.long y200), .second, .val (.long y201), .second, .val (.long y202), .second, .val (.ref b204), .val (.ref b__243), .val (.long y259), .second, .unset, .unset, .val (.long (y266 / (1000000 : Int64))), .second] [(.long y202), (.long (y200 + y201))])) t
      refine XS.ladd X264.here hx rfl (hb hby at_267) rfl ?_
      show Steps p.tables e below (T264.setTop (mkF m 268 #[.val (.int p1), .val (.long q2), .second, .val (.long q3), .second, .val (.long q4), .second, .val (.int p5), .val (.int (3 : Int32)), .val (.long y200), .second, .val (.long y201), .second, .val (.long y202), .second, .val (.ref b204), .val (.ref b__243), .val (.long y259), .second, .unset, .unset, .val (.long (y266 / (1000000 : Int64))), .second] [(.long ((y200 + y201) + y202))])) t
      refine X264.ldc2Long hx hown (mvT hZ (hw _ (List.mem_of_getElem? (i := 48) rfl))) (g := (mkF m 268 #[.val (.int p1), .val (.long q2), .second, .val (.long q3), .second, .val (.long q4), .second, .val (.int p5), .val (.int (3 : Int32)), .val (.long y200), .second, .val (.long y201), .second, .val (.long y202), .second, .val (.ref b204), .val (.ref b__243), .val (.long y259), .second, .unset, .unset, .val (.long (y266 / (1000000 : Int64))), .second] [(.long ((y200 + y201) + y202))])) rfl (hb hby at_268) _ ?_
      show Steps p.tables e below (T264.setTop (mkF m 271 #[.val (.int p1), .val (.long q2), .second, .val (.long q3), .second, .val (.long q4), .second, .val (.int p5), .val (.int (3 : Int32)), .val (.long y200), .second, .val (.long y201), .second, .val (.long y202), .second, .val (.ref b204), .val (.ref b__243), .val (.long y259), .second, .unset, .unset, .val (.long (y266 / (1000000 : Int64))), .second] [(.long (3000000 : Int64)), (.long ((y200 + y201) + y202))])) t
      refine XS.ldiv X264.here hx rfl (hb hby at_271) rfl (by decide) ?_
      show Steps p.tables e below (T264.setTop (mkF m 272 #[.val (.int p1), .val (.long q2), .second, .val (.long q3), .second, .val (.long q4), .second, .val (.int p5), .val (.int (3 : Int32)), .val (.long y200), .second, .val (.long y201), .second, .val (.long y202), .second, .val (.ref b204), .val (.ref b__243), .val (.long y259), .second, .unset, .unset, .val (.long (y266 / (1000000 : Int64))), .second] [(.long (((y200 + y201) + y202) / (3000000 : Int64)))])) t
      refine XS.lstore X264.here hx rfl (hb hby at_272) rfl (l' := #[.val (.int p1), .val (.long q2), .second, .val (.long q3), .second, .val (.long q4), .second, .val (.int p5), .val (.int (3 : Int32)), .val (.long y200), .second, .val (.long y201), .second, .val (.long y202), .second, .val (.ref b204), .val (.ref b__243), .val (.long y259), .second, .val (.long (((y200 + y201) + y202) / (3000000 : Int64))), .second, .val (.long (y266 / (1000000 : Int64))), .second]) rfl ?_
      exact k)
    have P270 : Rch p e below (s₁.setTop (entryFrame m #[(.int p1), (.long q2), (.long q3), (.long q4), (.int p5)] maxLocals)) (T264.setTop (mkF m 277 #[.val (.int p1), .val (.long q2), .second, .val (.long q3), .second, .val (.long q4), .second, .val (.int p5), .val (.int (3 : Int32)), .val (.long y200), .second, .val (.long y201), .second, .val (.long y202), .second, .val (.ref b204), .val (.ref b__243), .val (.long y259), .second, .val (.long y267), .second, .val (.long y268), .second] [(.int (0 : Int32)), (.ref b__243)])) := fun t k => P269 t (by
      show Steps p.tables e below (T264.setTop (mkF m 274 #[.val (.int p1), .val (.long q2), .second, .val (.long q3), .second, .val (.long q4), .second, .val (.int p5), .val (.int (3 : Int32)), .val (.long y200), .second, .val (.long y201), .second, .val (.long y202), .second, .val (.ref b204), .val (.ref b__243), .val (.long y259), .second, .val (.long y267), .second, .val (.long y268), .second] [])) t
      refine XS.aload X264.here hx rfl (hb hby at_274) rfl rfl ?_
      show Steps p.tables e below (T264.setTop (mkF m 276 #[.val (.int p1), .val (.long q2), .second, .val (.long q3), .second, .val (.long q4), .second, .val (.int p5), .val (.int (3 : Int32)), .val (.long y200), .second, .val (.long y201), .second, .val (.long y202), .second, .val (.ref b204), .val (.ref b__243), .val (.long y259), .second, .val (.long y267), .second, .val (.long y268), .second] [(.ref b__243)])) t
      refine XS.iconst X264.here hx rfl (hb hby at_276) ?_
      exact k)
    have V_o271 := V_243
    obtain ⟨co271, Aro271, qo271, So271, Mo271, Ho271, Go271⟩ := V_o271
    have hin272 : ¬ ((0 : Int32) < 0 ∨ co271.slots.size ≤ ((0 : Int32)).toNatClampNeg) := inb_of So271 ⟨by decide, by decide⟩
    have hat272 : co271.slots[((0 : Int32)).toNatClampNeg]? = some (.long ((own_min (own_min (own_min (9223372036854775807 : Int64) y200) y201) y202) / (1000000 : Int64))) := Has.at Ho271 hin272 rfl
    have P273 : Rch p e below (s₁.setTop (entryFrame m #[(.int p1), (.long q2), (.long q3), (.long q4), (.int p5)] maxLocals)) (T264.setTop (mkF m 278 #[.val (.int p1), .val (.long q2), .second, .val (.long q3), .second, .val (.long q4), .second, .val (.int p5), .val (.int (3 : Int32)), .val (.long y200), .second, .val (.long y201), .second, .val (.long y202), .second, .val (.ref b204), .val (.ref b__243), .val (.long y259), .second, .val (.long y267), .second, .val (.long y268), .second] [(.long ((own_min (own_min (own_min (9223372036854775807 : Int64) y200) y201) y202) / (1000000 : Int64)))])) := fun t k => P270 t (X264.laload hx (j := (0 : Int32)) (v := (.long ((own_min (own_min (own_min (9223372036854775807 : Int64) y200) y201) y202) / (1000000 : Int64)))) (by rw [e264]; exact Aro271.1) (State.isArrayOf_alike hZ.alike Aro271.2.1) Aro271.2.2 hin272 hat272 (g := (mkF m 277 #[.val (.int p1), .val (.long q2), .second, .val (.long q3), .second, .val (.long q4), .second, .val (.int p5), .val (.int (3 : Int32)), .val (.long y200), .second, .val (.long y201), .second, .val (.long y202), .second, .val (.ref b204), .val (.ref b__243), .val (.long y259), .second, .val (.long y267), .second, .val (.long y268), .second] [(.int (0 : Int32)), (.ref b__243)])) rfl rfl (hb hby at_277) t k)
    obtain ⟨y274, hy274⟩ : ∃ z : Int64, z = ((own_min (own_min (own_min (9223372036854775807 : Int64) y200) y201) y202) / (1000000 : Int64)) := ⟨_, rfl⟩
    have P275 : Rch p e below (s₁.setTop (entryFrame m #[(.int p1), (.long q2), (.long q3), (.long q4), (.int p5)] maxLocals)) (T264.setTop (mkF m 281 #[.val (.int p1), .val (.long q2), .second, .val (.long q3), .second, .val (.long q4), .second, .val (.int p5), .val (.int (3 : Int32)), .val (.long y200), .second, .val (.long y201), .second, .val (.long y202), .second, .val (.ref b204), .val (.ref b__243), .val (.long y259), .second, .val (.long y267), .second, .val (.long y268), .second] [(.int (lcmpW y274 y259))])) := fun t k => P273 t (by
      subst hy274
      show Steps p.tables e below (T264.setTop (mkF m 278 #[.val (.int p1), .val (.long q2), .second, .val (.long q3), .second, .val (.long q4), .second, .val (.int p5), .val (.int (3 : Int32)), .val (.long y200), .second, .val (.long y201), .second, .val (.long y202), .second, .val (.ref b204), .val (.ref b__243), .val (.long y259), .second, .val (.long y267), .second, .val (.long y268), .second] [(.long ((own_min (own_min (own_min (9223372036854775807 : Int64) y200) y201) y202) / (1000000 : Int64)))])) t
      refine XS.lload X264.here hx rfl (hb hby at_278) rfl ?_
      show Steps p.tables e below (T264.setTop (mkF m 280 #[.val (.int p1), .val (.long q2), .second, .val (.long q3), .second, .val (.long q4), .second, .val (.int p5), .val (.int (3 : Int32)), .val (.long y200), .second, .val (.long y201), .second, .val (.long y202), .second, .val (.ref b204), .val (.ref b__243), .val (.long y259), .second, .val (.long y267), .second, .val (.long y268), .second] [(.long y259), (.long ((own_min (own_min (own_min (9223372036854775807 : Int64) y200) y201) y202) / (1000000 : Int64)))])) t
      refine XS.lcmp X264.here hx rfl (hb hby at_280) rfl ?_
      exact k)
    have hq0_ : y274 = y259 := by
      subst hy274 hy259 hy258 hy255
      exact own_e30 _ (own_y (hy200)) _ (own_y (hy201)) _ (own_y (hy202))
    have P276 : Rch p e below (s₁.setTop (entryFrame m #[(.int p1), (.long q2), (.long q3), (.long q4), (.int p5)] maxLocals)) (T264.setTop (mkF m 287 #[.val (.int p1), .val (.long q2), .second, .val (.long q3), .second, .val (.long q4), .second, .val (.int p5), .val (.int (3 : Int32)), .val (.long y200), .second, .val (.long y201), .second, .val (.long y202), .second, .val (.ref b204), .val (.ref b__243), .val (.long y259), .second, .val (.long y267), .second, .val (.long y268), .second] [(.int (1 : Int32)), (.ref b__243)])) := fun t k => P275 t (by
      show Steps p.tables e below (T264.setTop (mkF m 281 #[.val (.int p1), .val (.long q2), .second, .val (.long q3), .second, .val (.long q4), .second, .val (.int p5), .val (.int (3 : Int32)), .val (.long y200), .second, .val (.long y201), .second, .val (.long y202), .second, .val (.ref b204), .val (.ref b__243), .val (.long y259), .second, .val (.long y267), .second, .val (.long y268), .second] [(.int (lcmpW y274 y259))])) t
      refine XS.ifNo X264.here hx rfl (hb hby at_281) rfl ((if0 _ _).trans (teq ((lw_eq y274 y259).mpr hq0_)).2) ?_
      show Steps p.tables e below (T264.setTop (mkF m 284 #[.val (.int p1), .val (.long q2), .second, .val (.long q3), .second, .val (.long q4), .second, .val (.int p5), .val (.int (3 : Int32)), .val (.long y200), .second, .val (.long y201), .second, .val (.long y202), .second, .val (.ref b204), .val (.ref b__243), .val (.long y259), .second, .val (.long y267), .second, .val (.long y268), .second] [])) t
      refine XS.aload X264.here hx rfl (hb hby at_284) rfl rfl ?_
      show Steps p.tables e below (T264.setTop (mkF m 286 #[.val (.int p1), .val (.long q2), .second, .val (.long q3), .second, .val (.long q4), .second, .val (.int p5), .val (.int (3 : Int32)), .val (.long y200), .second, .val (.long y201), .second, .val (.long y202), .second, .val (.ref b204), .val (.ref b__243), .val (.long y259), .second, .val (.long y267), .second, .val (.long y268), .second] [(.ref b__243)])) t
      refine XS.iconst X264.here hx rfl (hb hby at_286) ?_
      exact k)
    have V_o277 := V_243
    obtain ⟨co277, Aro277, qo277, So277, Mo277, Ho277, Go277⟩ := V_o277
    have hin278 : ¬ ((1 : Int32) < 0 ∨ co277.slots.size ≤ ((1 : Int32)).toNatClampNeg) := inb_of So277 ⟨by decide, by decide⟩
    have hat278 : co277.slots[((1 : Int32)).toNatClampNeg]? = some (.long ((((((0 : Int64) + y200) + y201) + y202) / ((((0 : Int64) + (1 : Int64)) + (1 : Int64)) + (1 : Int64))) / (1000000 : Int64))) := Has.at Ho277 hin278 rfl
    have P279 : Rch p e below (s₁.setTop (entryFrame m #[(.int p1), (.long q2), (.long q3), (.long q4), (.int p5)] maxLocals)) (T264.setTop (mkF m 288 #[.val (.int p1), .val (.long q2), .second, .val (.long q3), .second, .val (.long q4), .second, .val (.int p5), .val (.int (3 : Int32)), .val (.long y200), .second, .val (.long y201), .second, .val (.long y202), .second, .val (.ref b204), .val (.ref b__243), .val (.long y259), .second, .val (.long y267), .second, .val (.long y268), .second] [(.long ((((((0 : Int64) + y200) + y201) + y202) / ((((0 : Int64) + (1 : Int64)) + (1 : Int64)) + (1 : Int64))) / (1000000 : Int64)))])) := fun t k => P276 t (X264.laload hx (j := (1 : Int32)) (v := (.long ((((((0 : Int64) + y200) + y201) + y202) / ((((0 : Int64) + (1 : Int64)) + (1 : Int64)) + (1 : Int64))) / (1000000 : Int64)))) (by rw [e264]; exact Aro277.1) (State.isArrayOf_alike hZ.alike Aro277.2.1) Aro277.2.2 hin278 hat278 (g := (mkF m 287 #[.val (.int p1), .val (.long q2), .second, .val (.long q3), .second, .val (.long q4), .second, .val (.int p5), .val (.int (3 : Int32)), .val (.long y200), .second, .val (.long y201), .second, .val (.long y202), .second, .val (.ref b204), .val (.ref b__243), .val (.long y259), .second, .val (.long y267), .second, .val (.long y268), .second] [(.int (1 : Int32)), (.ref b__243)])) rfl rfl (hb hby at_287) t k)
    obtain ⟨y280, hy280⟩ : ∃ z : Int64, z = ((((((0 : Int64) + y200) + y201) + y202) / ((((0 : Int64) + (1 : Int64)) + (1 : Int64)) + (1 : Int64))) / (1000000 : Int64)) := ⟨_, rfl⟩
    have P281 : Rch p e below (s₁.setTop (entryFrame m #[(.int p1), (.long q2), (.long q3), (.long q4), (.int p5)] maxLocals)) (T264.setTop (mkF m 291 #[.val (.int p1), .val (.long q2), .second, .val (.long q3), .second, .val (.long q4), .second, .val (.int p5), .val (.int (3 : Int32)), .val (.long y200), .second, .val (.long y201), .second, .val (.long y202), .second, .val (.ref b204), .val (.ref b__243), .val (.long y259), .second, .val (.long y267), .second, .val (.long y268), .second] [(.int (lcmpW y280 y267))])) := fun t k => P279 t (by
      subst hy280
      show Steps p.tables e below (T264.setTop (mkF m 288 #[.val (.int p1), .val (.long q2), .second, .val (.long q3), .second, .val (.long q4), .second, .val (.int p5), .val (.int (3 : Int32)), .val (.long y200), .second, .val (.long y201), .second, .val (.long y202), .second, .val (.ref b204), .val (.ref b__243), .val (.long y259), .second, .val (.long y267), .second, .val (.long y268), .second] [(.long ((((((0 : Int64) + y200) + y201) + y202) / ((((0 : Int64) + (1 : Int64)) + (1 : Int64)) + (1 : Int64))) / (1000000 : Int64)))])) t
      refine XS.lload X264.here hx rfl (hb hby at_288) rfl ?_
      show Steps p.tables e below (T264.setTop (mkF m 290 #[.val (.int p1), .val (.long q2), .second, .val (.long q3), .second, .val (.long q4), .second, .val (.int p5), .val (.int (3 : Int32)), .val (.long y200), .second, .val (.long y201), .second, .val (.long y202), .second, .val (.ref b204), .val (.ref b__243), .val (.long y259), .second, .val (.long y267), .second, .val (.long y268), .second] [(.long y267), (.long ((((((0 : Int64) + y200) + y201) + y202) / ((((0 : Int64) + (1 : Int64)) + (1 : Int64)) + (1 : Int64))) / (1000000 : Int64)))])) t
      refine XS.lcmp X264.here hx rfl (hb hby at_290) rfl ?_
      exact k)
    have hq1_ : y280 = y267 := by
      subst hy280 hy267
      exact own_e31 _ (own_y (hy200)) _ (own_y (hy201)) _ (own_y (hy202))
    have P282 : Rch p e below (s₁.setTop (entryFrame m #[(.int p1), (.long q2), (.long q3), (.long q4), (.int p5)] maxLocals)) (T264.setTop (mkF m 297 #[.val (.int p1), .val (.long q2), .second, .val (.long q3), .second, .val (.long q4), .second, .val (.int p5), .val (.int (3 : Int32)), .val (.long y200), .second, .val (.long y201), .second, .val (.long y202), .second, .val (.ref b204), .val (.ref b__243), .val (.long y259), .second, .val (.long y267), .second, .val (.long y268), .second] [(.int (2 : Int32)), (.ref b__243)])) := fun t k => P281 t (by
      show Steps p.tables e below (T264.setTop (mkF m 291 #[.val (.int p1), .val (.long q2), .second, .val (.long q3), .second, .val (.long q4), .second, .val (.int p5), .val (.int (3 : Int32)), .val (.long y200), .second, .val (.long y201), .second, .val (.long y202), .second, .val (.ref b204), .val (.ref b__243), .val (.long y259), .second, .val (.long y267), .second, .val (.long y268), .second] [(.int (lcmpW y280 y267))])) t
      refine XS.ifNo X264.here hx rfl (hb hby at_291) rfl ((if0 _ _).trans (teq ((lw_eq y280 y267).mpr hq1_)).2) ?_
      show Steps p.tables e below (T264.setTop (mkF m 294 #[.val (.int p1), .val (.long q2), .second, .val (.long q3), .second, .val (.long q4), .second, .val (.int p5), .val (.int (3 : Int32)), .val (.long y200), .second, .val (.long y201), .second, .val (.long y202), .second, .val (.ref b204), .val (.ref b__243), .val (.long y259), .second, .val (.long y267), .second, .val (.long y268), .second] [])) t
      refine XS.aload X264.here hx rfl (hb hby at_294) rfl rfl ?_
      show Steps p.tables e below (T264.setTop (mkF m 296 #[.val (.int p1), .val (.long q2), .second, .val (.long q3), .second, .val (.long q4), .second, .val (.int p5), .val (.int (3 : Int32)), .val (.long y200), .second, .val (.long y201), .second, .val (.long y202), .second, .val (.ref b204), .val (.ref b__243), .val (.long y259), .second, .val (.long y267), .second, .val (.long y268), .second] [(.ref b__243)])) t
      refine XS.iconst X264.here hx rfl (hb hby at_296) ?_
      exact k)
    have V_o283 := V_243
    obtain ⟨co283, Aro283, qo283, So283, Mo283, Ho283, Go283⟩ := V_o283
    have hin284 : ¬ ((2 : Int32) < 0 ∨ co283.slots.size ≤ ((2 : Int32)).toNatClampNeg) := inb_of So283 ⟨by decide, by decide⟩
    have hat284 : co283.slots[((2 : Int32)).toNatClampNeg]? = some (.long ((own_max (own_max (own_max (0 : Int64) y200) y201) y202) / (1000000 : Int64))) := Has.at Ho283 hin284 rfl
    have P285 : Rch p e below (s₁.setTop (entryFrame m #[(.int p1), (.long q2), (.long q3), (.long q4), (.int p5)] maxLocals)) (T264.setTop (mkF m 298 #[.val (.int p1), .val (.long q2), .second, .val (.long q3), .second, .val (.long q4), .second, .val (.int p5), .val (.int (3 : Int32)), .val (.long y200), .second, .val (.long y201), .second, .val (.long y202), .second, .val (.ref b204), .val (.ref b__243), .val (.long y259), .second, .val (.long y267), .second, .val (.long y268), .second] [(.long ((own_max (own_max (own_max (0 : Int64) y200) y201) y202) / (1000000 : Int64)))])) := fun t k => P282 t (X264.laload hx (j := (2 : Int32)) (v := (.long ((own_max (own_max (own_max (0 : Int64) y200) y201) y202) / (1000000 : Int64)))) (by rw [e264]; exact Aro283.1) (State.isArrayOf_alike hZ.alike Aro283.2.1) Aro283.2.2 hin284 hat284 (g := (mkF m 297 #[.val (.int p1), .val (.long q2), .second, .val (.long q3), .second, .val (.long q4), .second, .val (.int p5), .val (.int (3 : Int32)), .val (.long y200), .second, .val (.long y201), .second, .val (.long y202), .second, .val (.ref b204), .val (.ref b__243), .val (.long y259), .second, .val (.long y267), .second, .val (.long y268), .second] [(.int (2 : Int32)), (.ref b__243)])) rfl rfl (hb hby at_297) t k)
    obtain ⟨y286, hy286⟩ : ∃ z : Int64, z = ((own_max (own_max (own_max (0 : Int64) y200) y201) y202) / (1000000 : Int64)) := ⟨_, rfl⟩
    have P287 : Rch p e below (s₁.setTop (entryFrame m #[(.int p1), (.long q2), (.long q3), (.long q4), (.int p5)] maxLocals)) (T264.setTop (mkF m 301 #[.val (.int p1), .val (.long q2), .second, .val (.long q3), .second, .val (.long q4), .second, .val (.int p5), .val (.int (3 : Int32)), .val (.long y200), .second, .val (.long y201), .second, .val (.long y202), .second, .val (.ref b204), .val (.ref b__243), .val (.long y259), .second, .val (.long y267), .second, .val (.long y268), .second] [(.int (lcmpW y286 y268))])) := fun t k => P285 t (by
      subst hy286
      show Steps p.tables e below (T264.setTop (mkF m 298 #[.val (.int p1), .val (.long q2), .second, .val (.long q3), .second, .val (.long q4), .second, .val (.int p5), .val (.int (3 : Int32)), .val (.long y200), .second, .val (.long y201), .second, .val (.long y202), .second, .val (.ref b204), .val (.ref b__243), .val (.long y259), .second, .val (.long y267), .second, .val (.long y268), .second] [(.long ((own_max (own_max (own_max (0 : Int64) y200) y201) y202) / (1000000 : Int64)))])) t
      refine XS.lload X264.here hx rfl (hb hby at_298) rfl ?_
      show Steps p.tables e below (T264.setTop (mkF m 300 #[.val (.int p1), .val (.long q2), .second, .val (.long q3), .second, .val (.long q4), .second, .val (.int p5), .val (.int (3 : Int32)), .val (.long y200), .second, .val (.long y201), .second, .val (.long y202), .second, .val (.ref b204), .val (.ref b__243), .val (.long y259), .second, .val (.long y267), .second, .val (.long y268), .second] [(.long y268), (.long ((own_max (own_max (own_max (0 : Int64) y200) y201) y202) / (1000000 : Int64)))])) t
      refine XS.lcmp X264.here hx rfl (hb hby at_300) rfl ?_
      exact k)
    have hq2_ : y286 = y268 := by
      subst hy286 hy268 hy266 hy263
      exact own_e32 _ (own_y (hy200)) _ (own_y (hy201)) _ (own_y (hy202))
    have P288 : Rch p e below (s₁.setTop (entryFrame m #[(.int p1), (.long q2), (.long q3), (.long q4), (.int p5)] maxLocals)) (T264.setTop (mkF m 309 #[.val (.int p1), .val (.long q2), .second, .val (.long q3), .second, .val (.long q4), .second, .val (.int p5), .val (.int (3 : Int32)), .val (.long y200), .second, .val (.long y201), .second, .val (.long y202), .second, .val (.ref b204), .val (.ref b__243), .val (.long y259), .second, .val (.long y267), .second, .val (.long y268), .second] [(.int (1 : Int32))])) := fun t k => P287 t (by
      show Steps p.tables e below (T264.setTop (mkF m 301 #[.val (.int p1), .val (.long q2), .second, .val (.long q3), .second, .val (.long q4), .second, .val (.int p5), .val (.int (3 : Int32)), .val (.long y200), .second, .val (.long y201), .second, .val (.long y202), .second, .val (.ref b204), .val (.ref b__243), .val (.long y259), .second, .val (.long y267), .second, .val (.long y268), .second] [(.int (lcmpW y286 y268))])) t
      refine XS.ifNo X264.here hx rfl (hb hby at_301) rfl ((if0 _ _).trans (teq ((lw_eq y286 y268).mpr hq2_)).2) ?_
      show Steps p.tables e below (T264.setTop (mkF m 304 #[.val (.int p1), .val (.long q2), .second, .val (.long q3), .second, .val (.long q4), .second, .val (.int p5), .val (.int (3 : Int32)), .val (.long y200), .second, .val (.long y201), .second, .val (.long y202), .second, .val (.ref b204), .val (.ref b__243), .val (.long y259), .second, .val (.long y267), .second, .val (.long y268), .second] [])) t
      refine XS.iconst X264.here hx rfl (hb hby at_304) ?_
      show Steps p.tables e below (T264.setTop (mkF m 305 #[.val (.int p1), .val (.long q2), .second, .val (.long q3), .second, .val (.long q4), .second, .val (.int p5), .val (.int (3 : Int32)), .val (.long y200), .second, .val (.long y201), .second, .val (.long y202), .second, .val (.ref b204), .val (.ref b__243), .val (.long y259), .second, .val (.long y267), .second, .val (.long y268), .second] [(.int (1 : Int32))])) t
      refine XS.goto X264.here hx rfl (pc0 := 305) (pc' := 309) rfl (hb hby at_305) (by decide) (by decide) ?_
      exact k)
    obtain ⟨fs, hr, hrun, hended, hW, hsame⟩ := X264.leave (v := some (.int (1 : Int32))) (fun h => by rw [Bd.returns] at h; cases h)
    refine ⟨_, _, P288 _ ?_, hrun, hended, _, _, rfl, ?_, ⟨_, rfl⟩, hW, hsame.mono (by decide) (by decide)⟩
    · exact retN X264 hx (t := .boolean) Bd.returns (by simp) (hb hby at_309) hr
    · show Q_rm0 Z p1 q2 q3 q4 p5 h0 n0 _ T264.heap _
      rw [e264]
      exact ⟨rfl, N264⟩
set_option maxRecDepth 65536 in
set_option maxHeartbeats 40000000 in
theorem comes_1 {Post : Tables → Env → Array Value → State → Outcome → State → Prop} (hpost : ∀ tb e args s v u, (limb_1_1.after args s (.returned v) u = true ∧ limb_1_2.after args s (.returned v) u = true ∧ True) → FrameEnd s (.returned v) u (Jvm.fieldLocs frame_1_writes args s ++ Jvm.arrayLocs frame_1_arrays args s ++ Jvm.staticLocs frame_1_statics s) 16 128 → Post tb e args s (.returned v) u) :
    ArmFor flags0 classFile x code maxLocals ret World_1 tables_1 room_1 Calls_1 rest_1 Pre_1 Post := by
  intro l hfl _ _ p e ha hc hk s m args below hf hA hF happ hP
  obtain ⟨hcalls, hrest, hpre⟩ := hP
  obtain ⟨-, -, -, hnamed, -, -, -, hat⟩ := (Spec.applies_iff hf).mp happ
  obtain ⟨hg, hn⟩ := and_e (Cond.before_iff.mp (show (Jvm.Cond.and given_1 narrow_1).before args s = true from hpre))
  obtain ⟨gc, gr0⟩ := and_e hg
  obtain ⟨ga0, gr1⟩ := and_e gr0
  obtain ⟨ga1, gr2⟩ := and_e gr1
  obtain ⟨ga2, gr3⟩ := and_e gr2
  obtain ⟨ga3, gr4⟩ := and_e gr3
  obtain ⟨w0, w1, w2, w3, w4, rfl⟩ : ∃ w0 w1 w2 w3 w4 : Value, args = #[w0, w1, w2, w3, w4] := by
    have hs : args.size = 5 := by simpa [Cond.value, given_1] using gc
    obtain ⟨L⟩ := args
    match L, hs with
    | [w0, w1, w2, w3, w4], _ => exact ⟨w0, w1, w2, w3, w4, rfl⟩
  have hw := fun d (hd : d ∈ tables_1) => atoms_spec (ws := Jvm.Cond.code x code maxLocals ret :: tables_1) hat d (List.mem_cons_of_mem _ hd)
  have hfit : Fit s := fun {y c} hc i hi => by
    obtain ⟨ha, rfl⟩ := Array.getElem?_eq_some_iff.mp hc
    have q := List.all_eq_true.mp ((Array.all_eq_true_iff_forall_mem.mp hF) _ (Array.getElem_mem ha)) i (List.mem_range.mpr hi)
    simpa [Array.getElem?_eq_getElem hi] using q
  obtain ⟨i0, ei0⟩ := is_v ga0
  obtain rfl : w0 = (.int i0) := Option.some.inj ei0
  obtain ⟨i1, ei1⟩ := isL_v ga1
  obtain rfl : w1 = (.long i1) := Option.some.inj ei1
  obtain ⟨i2, ei2⟩ := isL_v ga2
  obtain rfl : w2 = (.long i2) := Option.some.inj ei2
  obtain ⟨i3, ei3⟩ := isL_v ga3
  obtain rfl : w3 = (.long i3) := Option.some.inj ei3
  obtain ⟨i4, ei4⟩ := is_v gr4
  obtain rfl : w4 = (.int i4) := Option.some.inj ei4
  obtain ⟨n, o, h1, h2, h3, _, L, rfl, ⟨rfl, N⟩, hq⟩ := rm0 l s _ hw tables_1 i0 i1 i2 i3 i4 s.heap s.heap.size (Nat.le_refl _)  p e ha hc hk s m _ below hf ((Spec.applies_iff_loose hf).mp happ).1 ⟨rfl, State.Warmed39.refl s, rfl⟩ trivial
  refine ⟨n, _, h1, h2, h3, hpost _ _ _ _ _ _ ⟨Cond.after_iff.mpr rfl, Cond.after_iff.mpr (eq_i res_at (Term.int_eval (1)) rfl), trivial⟩ ⟨hq.1, hq.2.1, (hq.2.2.sift fun y hy => Or.inr (N y hy)).mono (by decide) (by decide)⟩⟩
theorem main_1_1 : Claimed_1_1 := comes_1 fun _ _ _ _ _ _ h hF => ⟨h.1, hF⟩
theorem main_1_2 : Claimed_1_2 := comes_1 fun _ _ _ _ _ _ h hF => ⟨h.2.1, hF⟩
end Jvm.Pilot.@@N@@
namespace Jvm.Pilot.@@N@@
open Jvm Jvm.ClassFile Sem Op Lib Jvm.Free Jvm.Stand Jvm.Pilot.@@N@@.Jvm.D
/-! MADE BY PROGRAM (witnessworld.py) out of the Statement's table words and the real class files: 12 classes; the members and pool entries that the words name. The judged class is class 1, her method 1. -/
namespace start1
open Jvm.ClassFile
def u (s : String) : CpInfo := .utf8 (stringToUtf16 s)
/-- a pool by its gaps: so many unusable entries, then the entry; so many at the end -/
def gap : Nat → List CpInfo → List CpInfo
  | 0, r => r
  | n + 1, r => .unusable :: gap n r
def poolList (es : List (Nat × CpInfo)) (last : Nat) : List CpInfo := es.foldr (fun e r => gap e.1 (e.2 :: r)) (gap last [])
def pool (es : List (Nat × CpInfo)) (last : Nat) : Array CpInfo := ⟨poolList es last⟩
def fileOf (pool : Array CpInfo) (this : Nat) (attrs : Array Attribute := #[]) (ms : Array MethodInfo := #[]) (fl : Nat := 33) (sup : Nat := 0) (ifs : Array Nat := #[]) (fds : Array FieldInfo := #[]) : ClassFile where
  minorVersion := 0
  majorVersion := 65
  constantPool := pool
  accessFlags := fl
  thisClass := this
  superClass := sup
  interfaces := ifs
  fields := fds
  methods := ms
  attributes := attrs
def plain (name : String) (sup : Option ClassId) : Class where
  name := name
  kind := .ordinary
  loader := none
  accessFlags := 33
  super := sup
  interfaces := #[]
  cf := none
  fields := #[]
  methods := #[]
  instanceTypes := #[]
  staticTypes := #[]
  resolved := #[]
  callSites := []
  init := .initialized
  statics := none
  mirror := none

def pool0 : Array CpInfo := pool [(5, u "<init>"), (0, u "()V"), (1, .class_ 10), (1, u "java/lang/Object")] 113

def k0c0 : Code := { maxStack := 0, maxLocals := 1, code := object_method_1_code, exceptionTable := #[], attributes := #[] }
def k0m0 : Method := { name := "<init>", desc := "()V", sig := { parameters := [], returnType := none }, accessFlags := 1, code := some k0c0 }
/-- java/lang/Object -/
def k0 : Class := { plain "java/lang/Object" none with
  accessFlags := 33
  interfaces := #[]
  cf := some (fileOf pool0 8 #[] #[{ accessFlags := 1, nameIndex := 5, descriptorIndex := 6, attributes := #[] }] 33 0 #[] #[])
  fields := #[]
  methods := #[k0m0]
  instanceTypes := #[]
  staticTypes := #[]
  resolved := Array.replicate 124 none
  statics := none }

def pool1 : Array CpInfo := pool [(2, .class_ 4), (0, .nameAndType 5 6), (0, u "java/lang/Object"), (0, u "<init>"), (0, u "()V"), (0, .class_ 8), (0, u "com/example/usher/usher/server/TrafficLatencyMillisPinLaw"), (0, .long 2305843009213693951), (1, .class_ 12), (0, u "com/example/usher/usher/server/Traffic"), (0, .methodref 11 3), (0, .methodref 11 15), (0, .nameAndType 16 6), (0, u "notificationSent"), (0, .methodref 11 18), (0, .nameAndType 19 20), (0, u "frameAnswered"), (0, u "(J)V"), (0, .methodref 11 22), (0, .nameAndType 23 24), (0, u "latencyMillis"), (0, u "()[J"), (0, .long 1000000), (1, .methodref 28 29), (0, .class_ 30), (0, .nameAndType 31 32), (0, u "java/lang/Math"), (0, u "min"), (0, u "(JJ)J"), (0, .methodref 28 34), (0, .nameAndType 35 32), (0, u "max"), (0, .long 2000000), (1, .long 3000000), (1, u "MASK"), (0, u "J"), (3, u "law"), (0, u "(IJJJI)Z")] 5

def k1m0 : Method := { name := "<init>", desc := "()V", sig := { parameters := [], returnType := none }, accessFlags := 1, code := none }
def k1c1 : Code := { maxStack := 6, maxLocals := 23, code := code, exceptionTable := #[], attributes := #[] }
def k1m1 : Method := { name := "law", desc := "(IJJJI)Z", sig := { parameters := [.int, .long, .long, .long, .int], returnType := some .boolean }, accessFlags := 9, code := some k1c1 }
/-- com/example/usher/usher/server/TrafficLatencyMillisPinLaw -/
def k1 : Class := { plain "com/example/usher/usher/server/TrafficLatencyMillisPinLaw" (some 0) with
  accessFlags := 49
  interfaces := #[]
  cf := some (fileOf pool1 7 #[] #[{ accessFlags := 1, nameIndex := 5, descriptorIndex := 6, attributes := #[] }, { accessFlags := 9, nameIndex := 45, descriptorIndex := 46, attributes := #[] }] 49 2 #[] #[{ accessFlags := 26, nameIndex := 40, descriptorIndex := 41, attributes := #[] }])
  fields := #[{ name := "MASK", type := .long, accessFlags := 26, slot := 0, constantValue := 0 }]
  methods := #[k1m0, k1m1]
  instanceTypes := #[]
  staticTypes := #[.long]
  resolved := Array.replicate 52 none
  statics := none }

def pool2 : Array CpInfo := pool [(1, .methodref 2 3), (0, .class_ 4), (0, .nameAndType 5 6), (0, u "java/lang/Object"), (0, u "<init>"), (0, u "()V"), (2, .long 9223372036854775807), (1, .fieldref 12 13), (0, .class_ 14), (0, .nameAndType 15 16), (0, u "com/example/usher/usher/server/Traffic"), (0, u "latencyMin"), (0, u "J"), (2, u "connections"), (0, u "I"), (2, u "received"), (0, .fieldref 12 25), (0, .nameAndType 26 16), (0, u "sent"), (0, .fieldref 12 28), (0, .nameAndType 29 16), (0, u "answered"), (0, .methodref 31 32), (0, .class_ 33), (0, .nameAndType 34 35), (0, u "java/lang/Math"), (0, u "min"), (0, u "(JJ)J"), (0, .fieldref 12 37), (0, .nameAndType 38 16), (0, u "latencyMax"), (0, .methodref 31 40), (0, .nameAndType 41 35), (0, u "max"), (0, .fieldref 12 43), (0, .nameAndType 44 16), (0, u "latencyTotal"), (2, u "outstanding"), (0, .long 1000000), (1, u "NANOS_PER_MILLI"), (6, u "frameAnswered"), (0, u "(J)V"), (3, u "notificationSent"), (2, u "latencyMillis"), (0, u "()[J")] 5

def k2c0 : Code := { maxStack := 3, maxLocals := 1, code := prog_78_method_1_code, exceptionTable := #[], attributes := #[] }
def k2m0 : Method := { name := "<init>", desc := "()V", sig := { parameters := [], returnType := none }, accessFlags := 0, code := some k2c0 }
def k2c1 : Code := { maxStack := 5, maxLocals := 3, code := prog_78_method_5_code, exceptionTable := #[], attributes := #[] }
def k2m1 : Method := { name := "frameAnswered", desc := "(J)V", sig := { parameters := [.long], returnType := none }, accessFlags := 0, code := some k2c1 }
def k2c2 : Code := { maxStack := 5, maxLocals := 1, code := prog_78_method_8_code, exceptionTable := #[], attributes := #[] }
def k2m2 : Method := { name := "notificationSent", desc := "()V", sig := { parameters := [], returnType := none }, accessFlags := 0, code := some k2c2 }
def k2c3 : Code := { maxStack := 6, maxLocals := 2, code := prog_78_method_13_code, exceptionTable := #[], attributes := #[] }
def k2m3 : Method := { name := "latencyMillis", desc := "()[J", sig := { parameters := [], returnType := some (.array .long) }, accessFlags := 0, code := some k2c3 }
/-- com/example/usher/usher/server/Traffic -/
def k2 : Class := { plain "com/example/usher/usher/server/Traffic" (some 0) with
  accessFlags := 32
  interfaces := #[]
  cf := some (fileOf pool2 12 #[] #[{ accessFlags := 0, nameIndex := 5, descriptorIndex := 6, attributes := #[] }, { accessFlags := 0, nameIndex := 57, descriptorIndex := 58, attributes := #[] }, { accessFlags := 0, nameIndex := 62, descriptorIndex := 6, attributes := #[] }, { accessFlags := 0, nameIndex := 65, descriptorIndex := 66, attributes := #[] }] 32 2 #[] #[{ accessFlags := 26, nameIndex := 50, descriptorIndex := 16, attributes := #[] }, { accessFlags := 2, nameIndex := 19, descriptorIndex := 20, attributes := #[] }, { accessFlags := 2, nameIndex := 47, descriptorIndex := 20, attributes := #[] }, { accessFlags := 2, nameIndex := 23, descriptorIndex := 16, attributes := #[] }, { accessFlags := 2, nameIndex := 26, descriptorIndex := 16, attributes := #[] }, { accessFlags := 2, nameIndex := 29, descriptorIndex := 16, attributes := #[] }, { accessFlags := 2, nameIndex := 15, descriptorIndex := 16, attributes := #[] }, { accessFlags := 2, nameIndex := 38, descriptorIndex := 16, attributes := #[] }, { accessFlags := 2, nameIndex := 44, descriptorIndex := 16, attributes := #[] }])
  fields := #[{ name := "NANOS_PER_MILLI", type := .long, accessFlags := 26, slot := 0, constantValue := 0 }, { name := "connections", type := .int, accessFlags := 2, slot := 0, constantValue := 0 }, { name := "outstanding", type := .int, accessFlags := 2, slot := 1, constantValue := 0 }, { name := "received", type := .long, accessFlags := 2, slot := 2, constantValue := 0 }, { name := "sent", type := .long, accessFlags := 2, slot := 3, constantValue := 0 }, { name := "answered", type := .long, accessFlags := 2, slot := 4, constantValue := 0 }, { name := "latencyMin", type := .long, accessFlags := 2, slot := 5, constantValue := 0 }, { name := "latencyMax", type := .long, accessFlags := 2, slot := 6, constantValue := 0 }, { name := "latencyTotal", type := .long, accessFlags := 2, slot := 7, constantValue := 0 }]
  methods := #[k2m0, k2m1, k2m2, k2m3]
  instanceTypes := #[.int, .int, .long, .long, .long, .long, .long, .long]
  staticTypes := #[.long]
  resolved := Array.replicate 72 none
  statics := none }

def pool3 : Array CpInfo := pool [(1, .class_ 2), (0, u "java/lang/Math"), (1, .class_ 6), (1, u "java/lang/Object"), (0, u "<init>"), (0, u "()V"), (89, .class_ 100), (1, u "java/lang/Math$RandomNumberGeneratorHolder"), (20, u "(JJ)J"), (50, u "negativeZeroFloatBits"), (0, u "J"), (2, u "negativeZeroDoubleBits"), (21, u "max"), (2, u "min"), (43, u "$assertionsDisabled"), (0, u "Z"), (91, u "twoToTheDoubleScaleDown"), (0, u "D"), (4, u "twoToTheDoubleScaleUp"), (9, u "E"), (3, u "PI"), (2, u "TAU"), (2, u "DEGREES_TO_RADIANS"), (0, u "RADIANS_TO_DEGREES")] 94

def k3m0 : Method := { name := "<init>", desc := "()V", sig := { parameters := [], returnType := none }, accessFlags := 2, code := none }
def k3c1 : Code := { maxStack := 4, maxLocals := 4, code := jdk_29_method_66_code, exceptionTable := #[], attributes := #[] }
def k3m1 : Method := { name := "max", desc := "(JJ)J", sig := { parameters := [.long, .long], returnType := some .long }, accessFlags := 9, code := some k3c1 }
def k3c2 : Code := { maxStack := 4, maxLocals := 4, code := jdk_29_method_70_code, exceptionTable := #[], attributes := #[] }
def k3m2 : Method := { name := "min", desc := "(JJ)J", sig := { parameters := [.long, .long], returnType := some .long }, accessFlags := 9, code := some k3c2 }
/-- java/lang/Math -/
def k3 : Class := { plain "java/lang/Math" (some 0) with
  accessFlags := 49
  interfaces := #[]
  cf := some (fileOf pool3 1 #[.nestMembers #[98]] #[{ accessFlags := 2, nameIndex := 7, descriptorIndex := 8, attributes := #[] }, { accessFlags := 9, nameIndex := 198, descriptorIndex := 121, attributes := #[] }, { accessFlags := 9, nameIndex := 201, descriptorIndex := 121, attributes := #[] }] 49 4 #[] #[{ accessFlags := 25, nameIndex := 354, descriptorIndex := 339, attributes := #[] }, { accessFlags := 25, nameIndex := 358, descriptorIndex := 339, attributes := #[] }, { accessFlags := 25, nameIndex := 361, descriptorIndex := 339, attributes := #[] }, { accessFlags := 26, nameIndex := 364, descriptorIndex := 339, attributes := #[] }, { accessFlags := 26, nameIndex := 365, descriptorIndex := 339, attributes := #[] }, { accessFlags := 26, nameIndex := 172, descriptorIndex := 173, attributes := #[] }, { accessFlags := 26, nameIndex := 176, descriptorIndex := 173, attributes := #[] }, { accessFlags := 8, nameIndex := 344, descriptorIndex := 339, attributes := #[] }, { accessFlags := 8, nameIndex := 338, descriptorIndex := 339, attributes := #[] }, { accessFlags := 4120, nameIndex := 245, descriptorIndex := 246, attributes := #[] }])
  fields := #[{ name := "E", type := .double, accessFlags := 25, slot := 0, constantValue := 0 }, { name := "PI", type := .double, accessFlags := 25, slot := 1, constantValue := 0 }, { name := "TAU", type := .double, accessFlags := 25, slot := 2, constantValue := 0 }, { name := "DEGREES_TO_RADIANS", type := .double, accessFlags := 26, slot := 3, constantValue := 0 }, { name := "RADIANS_TO_DEGREES", type := .double, accessFlags := 26, slot := 4, constantValue := 0 }, { name := "negativeZeroFloatBits", type := .long, accessFlags := 26, slot := 5, constantValue := 0 }, { name := "negativeZeroDoubleBits", type := .long, accessFlags := 26, slot := 6, constantValue := 0 }, { name := "twoToTheDoubleScaleUp", type := .double, accessFlags := 8, slot := 7, constantValue := 0 }, { name := "twoToTheDoubleScaleDown", type := .double, accessFlags := 8, slot := 8, constantValue := 0 }, { name := "$assertionsDisabled", type := .boolean, accessFlags := 4120, slot := 9, constantValue := 0 }]
  methods := #[k3m0, k3m1, k3m2]
  instanceTypes := #[]
  staticTypes := #[.double, .double, .double, .double, .double, .long, .long, .double, .double, .boolean]
  resolved := Array.replicate 460 none
  statics := none }

def pool4 : Array CpInfo := pool [(1, u "java/lang/Cloneable"), (0, .class_ 1), (0, u "java/lang/Object"), (0, .class_ 3)] 3

/-- java/lang/Cloneable -/
def k4 : Class := { plain "java/lang/Cloneable" (some 0) with
  accessFlags := 1537
  interfaces := #[]
  cf := some (fileOf pool4 2 #[] #[] 1537 4 #[] #[])
  fields := #[]
  methods := #[]
  instanceTypes := #[]
  staticTypes := #[]
  resolved := Array.replicate 8 none
  statics := none }

def pool5 : Array CpInfo := pool [(1, u "java/io/Serializable"), (0, .class_ 1), (0, u "java/lang/Object"), (0, .class_ 3)] 3

/-- java/io/Serializable -/
def k5 : Class := { plain "java/io/Serializable" (some 0) with
  accessFlags := 1537
  interfaces := #[]
  cf := some (fileOf pool5 2 #[] #[] 1537 4 #[] #[])
  fields := #[]
  methods := #[]
  instanceTypes := #[]
  staticTypes := #[]
  resolved := Array.replicate 8 none
  statics := none }

/-- the primitive byte -/
def k6 : Class := { plain "byte" none with kind := .primitive 'B', accessFlags := 0x411 }
/-- [B -/
def k7 : Class := { plain "[B" (some 0) with kind := .array 6 .byte, interfaces := #[4, 5], accessFlags := 1041 }

/-- the primitive int -/
def k8 : Class := { plain "int" none with kind := .primitive 'I', accessFlags := 0x411 }
/-- [I -/
def k9 : Class := { plain "[I" (some 0) with kind := .array 8 .int, interfaces := #[4, 5], accessFlags := 1041 }

/-- the primitive long -/
def k10 : Class := { plain "long" none with kind := .primitive 'J', accessFlags := 0x411 }
/-- [J -/
def k11 : Class := { plain "[J" (some 0) with kind := .array 10 .long, interfaces := #[4, 5], accessFlags := 1041 }

def heap : Heap := #[]
def classes : Array Class := #[k0, k1, k2, k3, k4, k5, k6, k7, k8, k9, k10, k11]
def interned : List (Array UInt16 × Addr) := []
def slotsUsed : Nat := 0
def theMethod : MethodId := ⟨1, 1⟩
def args0 : Array Value := #[.int 2, .long 5, .long 7, .long 9, .int 1]
def aboutOver (below : List Frame) : State where
  vm := { classes := classes, interned := interned.toArray }
  heap := heap
  slotsUsed := slotsUsed
  threads := #[{ frames := .invoking theMethod args0 :: below }]
def below0 : List Frame := [.native { method := ⟨0, 0⟩, args := #[] }]
def about1 : State := aboutOver below0
def p0 : Program := .bare "" "" ""
def e0 : Env := launch0.env 0 0 0
theorem w_frames : about1.frames = Frame.invoking theMethod args0 :: below0 := rfl
set_option maxRecDepth 65536 in
theorem w_args : argsFit about1.vm theMethod args0 = true := by decide +kernel
set_option maxRecDepth 65536 in
theorem w_heap : heapFits about1 = true := by decide +kernel
set_option maxRecDepth 65536 in
theorem w_runnable : about1.curStatus? = some .runnable := by decide +kernel
set_option maxRecDepth 65536 in
theorem w_alone : about1.alone = true := by decide +kernel
set_option maxRecDepth 65536 in
theorem w_named : about1.methodNamed? x = some theMethod := by decide +kernel
set_option maxRecDepth 65536 in
theorem w_hears : about1.hears theMethod below0 = true := by decide +kernel
set_option maxRecDepth 65536 in
theorem w_ripe : about1.ripe theMethod args0 below0 = true := by decide +kernel
theorem w_running : about1.status = .running := rfl
set_option maxRecDepth 65536 in
theorem w_room : about1.hasRoom e0.platform room_1 = true :=
  launch0.hasRoom_least _ room_1 (by decide +kernel) (by decide +kernel) (by decide +kernel) (by decide +kernel) (by decide +kernel) (by decide +kernel)
theorem allAtoms_all (ts : List Jvm.Cond) (a : Array Jvm.Value) (st : Jvm.State) : (allAtoms ts).before a st = ts.all (fun c => c.before a st) := by
  induction ts with
  | nil => rfl
  | cons c t ih =>
    show (Jvm.Cond.and c (allAtoms t)).before a st = _
    rw [Jvm.Cond.before_and, ih, List.all_cons]
def words1 : List Jvm.Cond := Jvm.Cond.code x code maxLocals ret :: tables_1
/-- a 'code' word, met by the world's own term for the bytes: nothing is compared byte by byte -/
theorem code_word {y : MethodName} {bytes : ByteArray} {mx : Nat} {rt : Option FieldType} {a : Array Value} {s : State} {m : MethodId} {meth : Method} {c : Code} (h1 : s.methodNamed? y = some m) (h2 : s.vm.method? m = some meth) (h3 : meth.code = some c) (h4 : c.code = bytes)
    (h5 : (c.maxLocals == mx && c.exceptionTable.isEmpty && decide (c.maxStack ≤ mostOperands) && decide (meth.sig.returnType = rt) && !meth.locks && decide (parseMethodDescriptor y.desc = some meth.sig)) = true) : (Jvm.Cond.code y bytes mx rt).before a s = true := by
  simp only [Bool.and_eq_true, beq_iff_eq, Bool.not_eq_true', decide_eq_true_eq] at h5
  obtain ⟨⟨⟨⟨⟨g1, g2⟩, g3⟩, g4⟩, g5⟩, g6⟩ := h5
  simp [Cond.before, Cond.holds, Cond.value, h1, h2, h3, h4, g1, g2, g3, g4, g5, g6]
def isCode : Jvm.Cond → Bool
  | .code _ _ _ _ => true
  | _ => false
theorem all_split {L : List Jvm.Cond} {P : Jvm.Cond → Bool} (h1 : L.all (fun c => isCode c || P c) = true) (h2 : ∀ c ∈ L.filter isCode, P c = true) : L.all P = true := by
  refine List.all_eq_true.mpr fun c hc => ?_
  have h := List.all_eq_true.mp h1 c hc
  rcases Bool.eq_false_or_eq_true (isCode c) with hi | hi
  · exact h2 c (List.mem_filter.mpr ⟨hc, hi⟩)
  · simpa [hi] using h
set_option maxRecDepth 65536 in
theorem w_c0 : (Jvm.Cond.code x code maxLocals ret).before args0 about1 = true := code_word (m := ⟨1, 1⟩) (meth := k1m1) (c := k1c1) (by decide +kernel) rfl rfl rfl (by decide +kernel)
set_option maxRecDepth 65536 in
theorem w_c1 : (Jvm.Cond.code ({ cls := "com/example/usher/usher/server/Traffic", name := "<init>", desc := "()V" } : Jvm.MethodName) prog_78_method_1_code (1 : Nat) (Option.none : Option Jvm.ClassFile.FieldType)).before args0 about1 = true := code_word (m := ⟨2, 0⟩) (meth := k2m0) (c := k2c0) (by decide +kernel) rfl rfl rfl (by decide +kernel)
set_option maxRecDepth 65536 in
theorem w_c2 : (Jvm.Cond.code ({ cls := "java/lang/Object", name := "<init>", desc := "()V" } : Jvm.MethodName) object_method_1_code (1 : Nat) (Option.none : Option Jvm.ClassFile.FieldType)).before args0 about1 = true := code_word (m := ⟨0, 0⟩) (meth := k0m0) (c := k0c0) (by decide +kernel) rfl rfl rfl (by decide +kernel)
set_option maxRecDepth 65536 in
theorem w_c3 : (Jvm.Cond.code ({ cls := "com/example/usher/usher/server/Traffic", name := "notificationSent", desc := "()V" } : Jvm.MethodName) prog_78_method_8_code (1 : Nat) (Option.none : Option Jvm.ClassFile.FieldType)).before args0 about1 = true := code_word (m := ⟨2, 2⟩) (meth := k2m2) (c := k2c2) (by decide +kernel) rfl rfl rfl (by decide +kernel)
set_option maxRecDepth 65536 in
theorem w_c4 : (Jvm.Cond.code ({ cls := "com/example/usher/usher/server/Traffic", name := "latencyMillis", desc := "()[J" } : Jvm.MethodName) prog_78_method_13_code (2 : Nat) (Option.some (Jvm.ClassFile.FieldType.array Jvm.ClassFile.FieldType.long))).before args0 about1 = true := code_word (m := ⟨2, 3⟩) (meth := k2m3) (c := k2c3) (by decide +kernel) rfl rfl rfl (by decide +kernel)
set_option maxRecDepth 65536 in
theorem w_c5 : (Jvm.Cond.code ({ cls := "com/example/usher/usher/server/Traffic", name := "frameAnswered", desc := "(J)V" } : Jvm.MethodName) prog_78_method_5_code (3 : Nat) (Option.none : Option Jvm.ClassFile.FieldType)).before args0 about1 = true := code_word (m := ⟨2, 1⟩) (meth := k2m1) (c := k2c1) (by decide +kernel) rfl rfl rfl (by decide +kernel)
set_option maxRecDepth 65536 in
theorem w_c6 : (Jvm.Cond.code ({ cls := "java/lang/Math", name := "min", desc := "(JJ)J" } : Jvm.MethodName) jdk_29_method_70_code (4 : Nat) (Option.some Jvm.ClassFile.FieldType.long)).before args0 about1 = true := code_word (m := ⟨3, 2⟩) (meth := k3m2) (c := k3c2) (by decide +kernel) rfl rfl rfl (by decide +kernel)
set_option maxRecDepth 65536 in
theorem w_c7 : (Jvm.Cond.code ({ cls := "java/lang/Math", name := "max", desc := "(JJ)J" } : Jvm.MethodName) jdk_29_method_66_code (4 : Nat) (Option.some Jvm.ClassFile.FieldType.long)).before args0 about1 = true := code_word (m := ⟨3, 1⟩) (meth := k3m1) (c := k3c1) (by decide +kernel) rfl rfl rfl (by decide +kernel)
def codes1 : List Jvm.Cond := [Jvm.Cond.code x code maxLocals ret, Jvm.Cond.code ({ cls := "com/example/usher/usher/server/Traffic", name := "<init>", desc := "()V" } : Jvm.MethodName) prog_78_method_1_code (1 : Nat) (Option.none : Option Jvm.ClassFile.FieldType), Jvm.Cond.code ({ cls := "java/lang/Object", name := "<init>", desc := "()V" } : Jvm.MethodName) object_method_1_code (1 : Nat) (Option.none : Option Jvm.ClassFile.FieldType), Jvm.Cond.code ({ cls := "com/example/usher/usher/server/Traffic", name := "notificationSent", desc := "()V" } : Jvm.MethodName) prog_78_method_8_code (1 : Nat) (Option.none : Option Jvm.ClassFile.FieldType), Jvm.Cond.code ({ cls := "com/example/usher/usher/server/Traffic", name := "latencyMillis", desc := "()[J" } : Jvm.MethodName) prog_78_method_13_code (2 : Nat) (Option.some (Jvm.ClassFile.FieldType.array Jvm.ClassFile.FieldType.long)), Jvm.Cond.code ({ cls := "com/example/usher/usher/server/Traffic", name := "frameAnswered", desc := "(J)V" } : Jvm.MethodName) prog_78_method_5_code (3 : Nat) (Option.none : Option Jvm.ClassFile.FieldType), Jvm.Cond.code ({ cls := "java/lang/Math", name := "min", desc := "(JJ)J" } : Jvm.MethodName) jdk_29_method_70_code (4 : Nat) (Option.some Jvm.ClassFile.FieldType.long), Jvm.Cond.code ({ cls := "java/lang/Math", name := "max", desc := "(JJ)J" } : Jvm.MethodName) jdk_29_method_66_code (4 : Nat) (Option.some Jvm.ClassFile.FieldType.long)]
set_option maxRecDepth 65536 in
theorem codes_eq : words1.filter isCode = codes1 := rfl
theorem w_codes : ∀ c ∈ words1.filter isCode, c.before args0 about1 = true := by
  rw [codes_eq]
  intro c hc
  simp only [codes1, List.mem_cons, List.not_mem_nil, or_false] at hc
  rcases hc with rfl | rfl | rfl | rfl | rfl | rfl | rfl | rfl
  · exact w_c0
  · exact w_c1
  · exact w_c2
  · exact w_c3
  · exact w_c4
  · exact w_c5
  · exact w_c6
  · exact w_c7
set_option maxRecDepth 65536 in
theorem w_t1 : (words1.take 24).all (fun c => isCode c || c.before args0 about1) = true := by decide +kernel
set_option maxRecDepth 65536 in
theorem w_t2 : ((words1.drop 24).take 24).all (fun c => isCode c || c.before args0 about1) = true := by decide +kernel
set_option maxRecDepth 65536 in
theorem w_t3 : ((words1.drop 24).drop 24).all (fun c => isCode c || c.before args0 about1) = true := by decide +kernel
theorem w_tables : (allAtoms (Jvm.Cond.code x code maxLocals ret :: tables_1)).before args0 about1 = true := by
  rw [allAtoms_all]
  show words1.all (fun c => c.before args0 about1) = true
  refine all_split ?_ w_codes
  rw [← List.take_append_drop 24 words1, List.all_append, w_t1, ← List.take_append_drop 24 (words1.drop 24), List.all_append, w_t2, w_t3]
  rfl
set_option maxRecDepth 65536 in
theorem w_case : (Jvm.Cond.and given_1 narrow_1).before args0 about1 = true := by decide +kernel
theorem w_applies : (headSpec (Jvm.Cond.code x code maxLocals ret :: tables_1) room_1).applies x e0.platform about1 = true :=
  (Spec.applies_iff w_frames).mpr ⟨w_running, w_runnable, w_alone, w_named, w_hears, w_ripe, w_room, w_tables⟩
theorem atStart : AtStart classFile x code maxLocals ret World_1 tables_1 room_1 Calls_1 rest_1 Pre_1 launch0 p0 e0 about1 theMethod args0 below0 :=
  ⟨lists_1, trivial, launch0.admits_env _ _ _, launch0.least_env, fairChoices_fair.cas, fairChoices_fair.clock, w_frames, w_args, w_heap, w_applies, trivial, trivial, w_case⟩
end start1
theorem witness_1 : WitnessClaimed_1 := ⟨start1.p0, start1.e0, start1.about1, start1.theMethod, start1.args0, start1.below0, start1.atStart⟩
end Jvm.Pilot.@@N@@
