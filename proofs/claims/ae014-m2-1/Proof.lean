import JvmDerived
import JvmDerived.Pilot.@@N@@Statement
import JvmDerived.Pilot.@@N@@Code
set_option linter.unusedVariables false
set_option linter.unusedSimpArgs false
namespace Jvm.RoadKit
open Sem ClassFile Op Lib Jvm.Stand Jvm.Free Jvm.LawKit
section New
variable {p : Program} {l : Launch} {e : Env} {R : Room} {s : State} {m : MethodId} {args : Array Value} {below : List Frame} {meth : Method} {c : Code} {T : State} {locs : List Loc} {cells slots : Nat}
theorem retI (X : Stand p l e R s m args below meth c T locs cells slots) (hx : p.tables.exec = Jvm.exec) {pc : Nat} {Ls : Array Slot} {z : Int32} {rest : List Value} (hret : meth.sig.returnType = some .int) (hd : decode c.code pc = .ok (.ireturn, 1)) {fs : List Frame}
    (hl : ∀ (f : JFrame) (acts : List Action), f.method = m → f.locked = none → f.entered = [] → (doReturn e (T.setTop f) acts (some (.int z))).1 = T.setFrames fs) : Steps p.tables e below (T.setTop (mkF m pc Ls (.int z :: rest))) (T.setFrames fs) := by
  have hm' : T.vm.method? m = some meth := X.method'
  have hn : narrow .int (.int z) = .int z := rfl
  show Steps p.tables e below (T.setTop { method := m, pc := pc, locals := Ls, stack := _ :: rest, locked := none }) _
  jvm_step X.here [X.here.top, hx, hd, hm', hret, hn]
  first | (intro acts; rw [hl _ acts rfl rfl rfl]) | rw [hl _ _ rfl rfl rfl]
  exact Steps.refl _
end New
end Jvm.RoadKit
namespace Jvm.Pilot.@@N@@
open Jvm Jvm.ClassFile Sem Op Lib Jvm.Free Jvm.Stand Jvm.LawKit Jvm.RoadKit Bundle Jvm.Pilot.@@N@@.Jvm.D
theorem own_more {p : Program} {l : Launch} {e : Env} {R : Room} {s : State} {m : MethodId} {args : Array Value} {below : List Frame} {meth : Method} {c : Code} {T : State} {locs : List Loc} {k n k' n' : Nat} (X : Stand p l e R s m args below meth c T locs k n) (hk : k ≤ k') (hn : n ≤ n') : Stand p l e R s m args below meth c T locs k' n' := { X with same := X.same.mono hk hn }
theorem own_nar {t : FieldType} {v : Value} (h : v.isRef = true) (ht : t.isReference = true := by rfl) : narrow t v = v := by
  rcases ref_cases h with rfl | ⟨a, rfl⟩ <;> cases t <;> first | rfl | (cases ht; done)
theorem own_fit {t : FieldType} {v : Value} (h : v.isRef = true) (ht : t.isReference = true := by rfl) : fits t v = true := by
  rcases ref_cases h with rfl | ⟨a, rfl⟩ <;> cases t <;> first | rfl | (cases ht; done)
theorem own_cat {v : Value} (h : v.isRef = true) : v.category = 1 := by rcases ref_cases h with rfl | ⟨a, rfl⟩ <;> rfl
abbrev Rch (p : Program) (e : Env) (below : List Frame) (A B : State) : Prop := ∀ t, Steps p.tables e below B t → Steps p.tables e below A t
def own_ge (a b : Int64) : Int32 := if a < b then 0 else 1

theorem d1_0 : decode prog_26_method_1_code 0 = .ok (.aload_n 0, 1) := by decide +kernel
theorem d1_1 : decode prog_26_method_1_code 1 = .ok (.invokespecial 1, 3) := by decide +kernel
theorem d1_4 : decode prog_26_method_1_code 4 = .ok (.aload_n 0, 1) := by decide +kernel
theorem d1_5 : decode prog_26_method_1_code 5 = .ok (.lload_n 1, 1) := by decide +kernel
theorem d1_6 : decode prog_26_method_1_code 6 = .ok (.putfield 7, 3) := by decide +kernel
theorem d1_9 : decode prog_26_method_1_code 9 = .ok (.aload_n 0, 1) := by decide +kernel
theorem d1_10 : decode prog_26_method_1_code 10 = .ok (.lload_n 1, 1) := by decide +kernel
theorem d1_11 : decode prog_26_method_1_code 11 = .ok (.putfield 13, 3) := by decide +kernel
theorem d1_14 : decode prog_26_method_1_code 14 = .ok (.return_, 1) := by decide +kernel
theorem pn_0 : plainName "com/example/rapid_pdp/rapidpdp/engine/Budget" = true := by first | (simp [plainName, overriddenIn]; done) | decide +kernel
theorem d3_0 : decode method_2_code 0 = .ok (.iload 4, 2) := by decide +kernel
theorem d3_2 : decode method_2_code 2 = .ok (.iconst 3, 1) := by decide +kernel
theorem d3_3 : decode method_2_code 3 = .ok (.iand, 1) := by decide +kernel
theorem d3_4 : decode method_2_code 4 = .ok (.istore 5, 2) := by decide +kernel
theorem d3_6 : decode method_2_code 6 = .ok (.iload 5, 2) := by decide +kernel
theorem d3_8 : decode method_2_code 8 = .ok (.ifCond .ne 9, 3) := by decide +kernel
theorem d3_17 : decode method_2_code 17 = .ok (.iload 5, 2) := by decide +kernel
theorem d3_19 : decode method_2_code 19 = .ok (.iconst 1, 1) := by decide +kernel
theorem d3_20 : decode method_2_code 20 = .ok (.if_icmp .ne 5, 3) := by decide +kernel
theorem d3_25 : decode method_2_code 25 = .ok (.iload 5, 2) := by decide +kernel
theorem d3_27 : decode method_2_code 27 = .ok (.iconst 2, 1) := by decide +kernel
theorem d3_28 : decode method_2_code 28 = .ok (.if_icmp .ne 19, 3) := by decide +kernel
theorem d3_47 : decode method_2_code 47 = .ok (.lload_n 0, 1) := by decide +kernel
theorem d3_48 : decode method_2_code 48 = .ok (.lconst 0, 1) := by decide +kernel
theorem d3_49 : decode method_2_code 49 = .ok (.lcmp, 1) := by decide +kernel
theorem d3_50 : decode method_2_code 50 = .ok (.ifCond .ne 7, 3) := by decide +kernel
theorem d3_57 : decode method_2_code 57 = .ok (.lload_n 0, 1) := by decide +kernel
theorem d3_58 : decode method_2_code 58 = .ok (.lconst 1, 1) := by decide +kernel
theorem d3_59 : decode method_2_code 59 = .ok (.lsub, 1) := by decide +kernel
theorem d3_53 : decode method_2_code 53 = .ok (.lconst 0, 1) := by decide +kernel
theorem d3_54 : decode method_2_code 54 = .ok (.goto 6, 3) := by decide +kernel
theorem d3_31 : decode method_2_code 31 = .ok (.lload_n 0, 1) := by decide +kernel
theorem d3_32 : decode method_2_code 32 = .ok (.ldc2_w 9, 3) := by decide +kernel
theorem d3_35 : decode method_2_code 35 = .ok (.lcmp, 1) := by decide +kernel
theorem d3_36 : decode method_2_code 36 = .ok (.ifCond .ne 7, 3) := by decide +kernel
theorem d3_43 : decode method_2_code 43 = .ok (.lload_n 0, 1) := by decide +kernel
theorem d3_44 : decode method_2_code 44 = .ok (.lconst 1, 1) := by decide +kernel
theorem d3_45 : decode method_2_code 45 = .ok (.ladd, 1) := by decide +kernel
theorem d3_39 : decode method_2_code 39 = .ok (.lload_n 0, 1) := by decide +kernel
theorem d3_40 : decode method_2_code 40 = .ok (.goto 6, 3) := by decide +kernel
theorem d3_23 : decode method_2_code 23 = .ok (.lload_n 0, 1) := by decide +kernel
theorem d3_11 : decode method_2_code 11 = .ok (.lload_n 2, 1) := by decide +kernel
theorem d3_12 : decode method_2_code 12 = .ok (.ldc2_w 9, 3) := by decide +kernel
theorem d3_15 : decode method_2_code 15 = .ok (.land, 1) := by decide +kernel
theorem d3_16 : decode method_2_code 16 = .ok (.lreturn, 1) := by decide +kernel
theorem d3_24 : decode method_2_code 24 = .ok (.lreturn, 1) := by decide +kernel
theorem d3_46 : decode method_2_code 46 = .ok (.lreturn, 1) := by decide +kernel
theorem d3_60 : decode method_2_code 60 = .ok (.lreturn, 1) := by decide +kernel
theorem pn_1 : plainName "com/example/rapid_pdp/rapidpdp/engine/BudgetSpendPinLaw" = true := by first | (simp [plainName, overriddenIn]; done) | decide +kernel
theorem d5_0 : decode method_3_code 0 = .ok (.lload_n 0, 1) := by decide +kernel
theorem d5_1 : decode method_3_code 1 = .ok (.lload_n 2, 1) := by decide +kernel
theorem d5_2 : decode method_3_code 2 = .ok (.lcmp, 1) := by decide +kernel
theorem d5_3 : decode method_3_code 3 = .ok (.ifCond .lt 7, 3) := by decide +kernel
theorem d5_10 : decode method_3_code 10 = .ok (.lconst 0, 1) := by decide +kernel
theorem d5_6 : decode method_3_code 6 = .ok (.lload_n 0, 1) := by decide +kernel
theorem d5_7 : decode method_3_code 7 = .ok (.lload_n 2, 1) := by decide +kernel
theorem d5_8 : decode method_3_code 8 = .ok (.lsub, 1) := by decide +kernel
theorem d5_11 : decode method_3_code 11 = .ok (.lreturn, 1) := by decide +kernel
theorem d5_9 : decode method_3_code 9 = .ok (.lreturn, 1) := by decide +kernel
theorem d6_0 : decode prog_26_method_2_code 0 = .ok (.aload_n 0, 1) := by decide +kernel
theorem d6_1 : decode prog_26_method_2_code 1 = .ok (.getfield 7, 3) := by decide +kernel
theorem d6_4 : decode prog_26_method_2_code 4 = .ok (.lreturn, 1) := by decide +kernel
theorem d4_0 : decode prog_26_method_3_code 0 = .ok (.aload_n 0, 1) := by decide +kernel
theorem d4_1 : decode prog_26_method_3_code 1 = .ok (.getfield 13, 3) := by decide +kernel
theorem d4_4 : decode prog_26_method_3_code 4 = .ok (.lload_n 1, 1) := by decide +kernel
theorem d4_5 : decode prog_26_method_3_code 5 = .ok (.lcmp, 1) := by decide +kernel
theorem d4_6 : decode prog_26_method_3_code 6 = .ok (.ifCond .lt 7, 3) := by decide +kernel
theorem d4_13 : decode prog_26_method_3_code 13 = .ok (.iconst 0, 1) := by decide +kernel
theorem d4_14 : decode prog_26_method_3_code 14 = .ok (.istore_n 3, 1) := by decide +kernel
theorem d4_15 : decode prog_26_method_3_code 15 = .ok (.iload_n 3, 1) := by decide +kernel
theorem d4_16 : decode prog_26_method_3_code 16 = .ok (.ifCond .eq 16, 3) := by decide +kernel
theorem d4_32 : decode prog_26_method_3_code 32 = .ok (.aload_n 0, 1) := by decide +kernel
theorem d4_33 : decode prog_26_method_3_code 33 = .ok (.lconst 0, 1) := by decide +kernel
theorem d4_34 : decode prog_26_method_3_code 34 = .ok (.putfield 13, 3) := by decide +kernel
theorem d4_37 : decode prog_26_method_3_code 37 = .ok (.iload_n 3, 1) := by decide +kernel
theorem d4_38 : decode prog_26_method_3_code 38 = .ok (.ireturn, 1) := by decide +kernel
theorem d4_9 : decode prog_26_method_3_code 9 = .ok (.iconst 1, 1) := by decide +kernel
theorem d4_10 : decode prog_26_method_3_code 10 = .ok (.goto 4, 3) := by decide +kernel
theorem d4_19 : decode prog_26_method_3_code 19 = .ok (.aload_n 0, 1) := by decide +kernel
theorem d4_20 : decode prog_26_method_3_code 20 = .ok (.dup, 1) := by decide +kernel
theorem d4_21 : decode prog_26_method_3_code 21 = .ok (.getfield 13, 3) := by decide +kernel
theorem d4_24 : decode prog_26_method_3_code 24 = .ok (.lload_n 1, 1) := by decide +kernel
theorem d4_25 : decode prog_26_method_3_code 25 = .ok (.lsub, 1) := by decide +kernel
theorem d4_26 : decode prog_26_method_3_code 26 = .ok (.putfield 13, 3) := by decide +kernel
theorem d4_29 : decode prog_26_method_3_code 29 = .ok (.goto 8, 3) := by decide +kernel
theorem pd_0 : parseMethodDescriptor "(J)V" = some ⟨[.long], none⟩ := by decide +kernel
theorem pd_1 : parseMethodDescriptor "(JJI)J" = some ⟨[.long, .long, .int], some .long⟩ := by decide +kernel
theorem pd_2 : parseMethodDescriptor "(J)Z" = some ⟨[.long], some .boolean⟩ := by decide +kernel
theorem pd_3 : parseMethodDescriptor "(JJ)J" = some ⟨[.long, .long], some .long⟩ := by decide +kernel
theorem pd_4 : parseMethodDescriptor "()J" = some ⟨[], some .long⟩ := by decide +kernel
def Q_rmI (Z : State) (a1 : Addr) (q2 : Int64) (h0 : Heap) (n0 : Nat) (v : Option Value) (h : Heap) (L : List Loc) : Prop := v = none ∧ Fr n0 L ∧ Keep h0 h [a1] ∧ (Exa Z h a1 "com/example/rapid_pdp/rapidpdp/engine/Budget") ∧ (Fld Z h a1 "com/example/rapid_pdp/rapidpdp/engine/Budget" "limit" "J" (.long q2)) ∧ (Fld Z h a1 "com/example/rapid_pdp/rapidpdp/engine/Budget" "remaining" "J" (.long q2))
set_option maxRecDepth 65536 in
set_option maxHeartbeats 40000000 in
theorem rmI (l : Launch) (Z : State) (a0 : Array Value) (hw : ∀ d ∈ tables_1, d.before a0 Z = true) (ws : List Jvm.Cond) (a1 : Addr) (q2 : Int64) (h0 : Heap) (n0 : Nat) (Z0 : n0 ≤ h0.size) (E1 : Exa Z h0 a1 "com/example/rapid_pdp/rapidpdp/engine/Budget") (g1 : n0 ≤ a1) (F0 : Fld Z h0 a1 "com/example/rapid_pdp/rapidpdp/engine/Budget" "limit" "J" (.long (0 : Int64))) (F1 : Fld Z h0 a1 "com/example/rapid_pdp/rapidpdp/engine/Budget" "remaining" "J" (.long (0 : Int64))) :
    MetFree l (⟨"com/example/rapid_pdp/rapidpdp/engine/Budget", "<init>", "(J)V"⟩ : MethodName) (head1 (Jvm.Cond.code (⟨"com/example/rapid_pdp/rapidpdp/engine/Budget", "<init>", "(J)V"⟩ : MethodName) prog_26_method_1_code 3 none :: ws) ({ frames := 1, cells := 0, slots := 0, locals := 12 } : Room)) (fun a U => a = #[(.ref a1), (.long q2)] ∧ Z.Warmed39 U.vm ∧ U.heap = h0) (fun _ _ _ _ _ => True) (fun _ U o U' => ∃ v L, o = .returned v ∧ Q_rmI Z a1 q2 h0 n0 v U'.heap L ∧ FrameEnd U o U' L ({ frames := 1, cells := 0, slots := 0, locals := 12 } : Room).cells ({ frames := 1, cells := 0, slots := 0, locals := 12 } : Room).slots) := by
  refine MetFree.of_bodySF (plainFor_of_name pn_0) hisR ?_
  intro p e s m args below meth c s₁ Bd hml0 hP hK
  obtain ⟨rfl, hZ, hh⟩ := hP
  have hx := Bd.exec
  have hby := Bd.bytes
  have hml : c.maxLocals = 3 := hml0
  have hown : s.vm.findClass "com/example/rapid_pdp/rapidpdp/engine/Budget" = some m.cls := findClass_of_methodNamed Bd.named
  have hnm := (name_of_methodNamed Bd.named Bd.method).1
  have X0 : Stand p l e ({ frames := 1, cells := 0, slots := 0, locals := 12 } : Room) s m #[(.ref a1), (.long q2)] below meth c s₁ [] 0 0 := Stand.of_body Bd
  have e0 : s₁.heap = h0 := by rw [← hh, Bd.state]; rfl
  have N0 := Fr.nil n0
  have P0 : Rch p e below (s₁.setTop (entryFrame m #[(.ref a1), (.long q2)] 3)) (s₁.setTop (mkF m 0 #[.val (.ref a1), .val (.long q2), .second] [])) := fun t k => castTop (by first | (simp [entryFrame, mkF, argsToLocals, Value.category]; done) | rfl) k
  have P1 : Rch p e below (s₁.setTop (entryFrame m #[(.ref a1), (.long q2)] 3)) (s₁.setTop (mkF m 1 #[.val (.ref a1), .val (.long q2), .second] [(.ref a1)])) := fun t k => P0 t (by
    show Steps p.tables e below (s₁.setTop (mkF m 0 #[.val (.ref a1), .val (.long q2), .second] [])) t
    refine XS.aloadN X0.here hx rfl (hb hby d1_0) rfl rfl ?_
    exact k)
  obtain ⟨T2, X2, e2, st2⟩ := initO X0 hx hZ hown (hw _ (List.mem_of_getElem? (i := 7) rfl)) (hw _ (List.mem_of_getElem? (i := 8) rfl)) (hw _ (List.mem_of_getElem? (i := 9) rfl)) e0 (g := (mkF m 1 #[.val (.ref a1), .val (.long q2), .second] [(.ref a1)])) rfl (by rw [hml]; rfl) rfl (hb hby d1_1) (by decide) (W := 0) (by show 2 * 0 + _ ≤ _; exact Nat.le_of_eq rfl) (by decide)
  have P3 : Rch p e below (s₁.setTop (entryFrame m #[(.ref a1), (.long q2)] 3)) (T2.setTop (mkF m 4 #[.val (.ref a1), .val (.long q2), .second] [])) := fun t k => P1 t (st2 t k)
  have P4 : Rch p e below (s₁.setTop (entryFrame m #[(.ref a1), (.long q2)] 3)) (T2.setTop (mkF m 6 #[.val (.ref a1), .val (.long q2), .second] [(.long q2), (.ref a1)])) := fun t k => P3 t (by
    show Steps p.tables e below (T2.setTop (mkF m 4 #[.val (.ref a1), .val (.long q2), .second] [])) t
    refine XS.aloadN X2.here hx rfl (hb hby d1_4) rfl rfl ?_
    show Steps p.tables e below (T2.setTop (mkF m 5 #[.val (.ref a1), .val (.long q2), .second] [(.ref a1)])) t
    refine XS.lloadN X2.here hx rfl (hb hby d1_5) rfl ?_
    exact k)
  obtain ⟨T5, h5, X5, e5, W5, st5⟩ := putF X2 hx hZ hown (host := "") (Or.inl (hw _ (List.mem_of_getElem? (i := 10) rfl))) Via.refl e2 F0 E1 (Or.inr ⟨(hw _ (List.mem_of_getElem? (i := 11) rfl)), rfl, hnm⟩) (hw _ (List.mem_of_getElem? (i := 2) rfl)) (ty := .long) (by decide) rfl rfl (g := (mkF m 6 #[.val (.ref a1), .val (.long q2), .second] [(.long q2), (.ref a1)])) rfl rfl (hb hby d1_6)
  have Fw5 := F0.same W5
  have P6 : Rch p e below (s₁.setTop (entryFrame m #[(.ref a1), (.long q2)] 3)) (T5.setTop (mkF m 9 #[.val (.ref a1), .val (.long q2), .second] [])) := fun t k => P4 t (st5 t k)
  have N5 := Fr.snoc X5 N0 g1
  have P7 : Rch p e below (s₁.setTop (entryFrame m #[(.ref a1), (.long q2)] 3)) (T5.setTop (mkF m 11 #[.val (.ref a1), .val (.long q2), .second] [(.long q2), (.ref a1)])) := fun t k => P6 t (by
    show Steps p.tables e below (T5.setTop (mkF m 9 #[.val (.ref a1), .val (.long q2), .second] [])) t
    refine XS.aloadN X5.here hx rfl (hb hby d1_9) rfl rfl ?_
    show Steps p.tables e below (T5.setTop (mkF m 10 #[.val (.ref a1), .val (.long q2), .second] [(.ref a1)])) t
    refine XS.lloadN X5.here hx rfl (hb hby d1_10) rfl ?_
    exact k)
  have f9 : Fld Z h5 a1 "com/example/rapid_pdp/rapidpdp/engine/Budget" "remaining" "J" (.long (0 : Int64)) := (F1.other W5 (Or.inr (slot_ne (Or.inl (hw _ (List.mem_of_getElem? (i := 13) rfl))) (Or.inr (hw _ (List.mem_of_getElem? (i := 11) rfl))) (by decide) (t := .long) (t' := .long) (by decide) (by decide))))
  obtain ⟨T8, h8, X8, e8, W8, st8⟩ := putF X5 hx hZ hown (host := "") (Or.inl (hw _ (List.mem_of_getElem? (i := 12) rfl))) Via.refl e5 f9 (E1.wr W5) (Or.inl (hw _ (List.mem_of_getElem? (i := 13) rfl))) (hw _ (List.mem_of_getElem? (i := 2) rfl)) (ty := .long) (by decide) rfl rfl (g := (mkF m 11 #[.val (.ref a1), .val (.long q2), .second] [(.long q2), (.ref a1)])) rfl rfl (hb hby d1_11)
  have Fw8 := f9.same W8
  have P10 : Rch p e below (s₁.setTop (entryFrame m #[(.ref a1), (.long q2)] 3)) (T8.setTop (mkF m 14 #[.val (.ref a1), .val (.long q2), .second] [])) := fun t k => P7 t (st8 t k)
  have N8 := Fr.snoc X8 N5 g1
  obtain ⟨fs, hr, hrun, hended, hW, hsame⟩ := X8.leave (v := none) (fun _ => rfl)
  refine ⟨_, _, P10 _ ?_, hrun, hended, _, _, rfl, ?_, ⟨_, rfl⟩, hW, hsame.mono (by decide) (by decide)⟩
  · exact X8.returnOut hx Bd.returns (hb hby d1_14) hr
  · show Q_rmI Z a1 q2 h0 n0 _ T8.heap _
    rw [e8]
    have f11 : Keep h0 h8 [a1] := (((Keep.refl h0 [a1]).wr W5 (Or.inl (List.mem_of_getElem? (i := 0) rfl))).wr W8 (Or.inl (List.mem_of_getElem? (i := 0) rfl)))
    have f12 : Fld Z h8 a1 "com/example/rapid_pdp/rapidpdp/engine/Budget" "limit" "J" (.long q2) := (Fw5.other W8 (Or.inr (slot_ne (Or.inr (hw _ (List.mem_of_getElem? (i := 11) rfl))) (Or.inl (hw _ (List.mem_of_getElem? (i := 13) rfl))) (by decide) (t := .long) (t' := .long) (by decide) (by decide))))
    exact ⟨rfl, N8, f11, ((E1.wr W5).wr W8), f12, Fw8⟩
def own_pick (q1 : Int64) (q2 : Int64) (p3 : Int32) : Int64 := (if (p3 &&& (3 : Int32)) = (0 : Int32) then (q2 &&& (9223372036854775807 : Int64)) else (if (p3 &&& (3 : Int32)) = (1 : Int32) then q1 else (if (p3 &&& (3 : Int32)) = (2 : Int32) then (if q1 = (9223372036854775807 : Int64) then q1 else (q1 + (1 : Int64))) else (if q1 = (0 : Int64) then (0 : Int64) else (q1 - (1 : Int64))))))
def Q_rmP (Z : State) (q1 : Int64) (q2 : Int64) (p3 : Int32) (h0 : Heap) (n0 : Nat) (v : Option Value) (h : Heap) (L : List Loc) : Prop := v = some (.long (own_pick q1 q2 p3)) ∧ Fr n0 L ∧ h = h0
set_option maxRecDepth 65536 in
set_option maxHeartbeats 40000000 in
theorem rmP (l : Launch) (Z : State) (a0 : Array Value) (hw : ∀ d ∈ tables_1, d.before a0 Z = true) (ws : List Jvm.Cond) (q1 : Int64) (q2 : Int64) (p3 : Int32) (h0 : Heap) (n0 : Nat) (Z0 : n0 ≤ h0.size) :
    MetFree l (⟨"com/example/rapid_pdp/rapidpdp/engine/BudgetSpendPinLaw", "pick", "(JJI)J"⟩ : MethodName) (head1 (Jvm.Cond.code (⟨"com/example/rapid_pdp/rapidpdp/engine/BudgetSpendPinLaw", "pick", "(JJI)J"⟩ : MethodName) method_2_code 6 (some .long) :: ws) ({ frames := 0, cells := 0, slots := 0, locals := 0 } : Room)) (fun a U => a = #[(.long q1), (.long q2), (.int p3)] ∧ Z.Warmed39 U.vm ∧ U.heap = h0) (fun _ _ _ _ _ => True) (fun _ U o U' => ∃ v L, o = .returned v ∧ Q_rmP Z q1 q2 p3 h0 n0 v U'.heap L ∧ FrameEnd U o U' L ({ frames := 0, cells := 0, slots := 0, locals := 0 } : Room).cells ({ frames := 0, cells := 0, slots := 0, locals := 0 } : Room).slots) := by
  refine MetFree.of_bodySF (plainFor_of_name pn_1) hisR ?_
  intro p e s m args below meth c s₁ Bd hml0 hP hK
  obtain ⟨rfl, hZ, hh⟩ := hP
  have hx := Bd.exec
  have hby := Bd.bytes
  have hml : c.maxLocals = 6 := hml0
  have hown : s.vm.findClass "com/example/rapid_pdp/rapidpdp/engine/BudgetSpendPinLaw" = some m.cls := findClass_of_methodNamed Bd.named
  have hnm := (name_of_methodNamed Bd.named Bd.method).1
  have X0 : Stand p l e ({ frames := 0, cells := 0, slots := 0, locals := 0 } : Room) s m #[(.long q1), (.long q2), (.int p3)] below meth c s₁ [] 0 0 := Stand.of_body Bd
  have e0 : s₁.heap = h0 := by rw [← hh, Bd.state]; rfl
  have N0 := Fr.nil n0
  have P0 : Rch p e below (s₁.setTop (entryFrame m #[(.long q1), (.long q2), (.int p3)] 6)) (s₁.setTop (mkF m 0 #[.val (.long q1), .second, .val (.long q2), .second, .val (.int p3), .unset] [])) := fun t k => castTop (by first | (simp [entryFrame, mkF, argsToLocals, Value.category]; done) | rfl) k
  obtain ⟨x1, hx1⟩ : ∃ z : Int32, z = (p3 &&& (3 : Int32)) := ⟨_, rfl⟩
  have P2 : Rch p e below (s₁.setTop (entryFrame m #[(.long q1), (.long q2), (.int p3)] 6)) (s₁.setTop (mkF m 8 #[.val (.long q1), .second, .val (.long q2), .second, .val (.int p3), .val (.int x1)] [(.int x1)])) := fun t k => P0 t (by
    subst hx1
    show Steps p.tables e below (s₁.setTop (mkF m 0 #[.val (.long q1), .second, .val (.long q2), .second, .val (.int p3), .unset] [])) t
    refine XS.iload X0.here hx rfl (hb hby d3_0) rfl ?_
    show Steps p.tables e below (s₁.setTop (mkF m 2 #[.val (.long q1), .second, .val (.long q2), .second, .val (.int p3), .unset] [(.int p3)])) t
    refine XS.iconst X0.here hx rfl (hb hby d3_2) ?_
    show Steps p.tables e below (s₁.setTop (mkF m 3 #[.val (.long q1), .second, .val (.long q2), .second, .val (.int p3), .unset] [(.int (3 : Int32)), (.int p3)])) t
    refine XS.iand X0.here hx rfl (hb hby d3_3) rfl ?_
    show Steps p.tables e below (s₁.setTop (mkF m 4 #[.val (.long q1), .second, .val (.long q2), .second, .val (.int p3), .unset] [(.int (p3 &&& (3 : Int32)))])) t
    refine XS.istore X0.here hx rfl (hb hby d3_4) rfl (l' := #[.val (.long q1), .second, .val (.long q2), .second, .val (.int p3), .val (.int (p3 &&& (3 : Int32)))]) rfl ?_
    show Steps p.tables e below (s₁.setTop (mkF m 6 #[.val (.long q1), .second, .val (.long q2), .second, .val (.int p3), .val (.int (p3 &&& (3 : Int32)))] [])) t
    refine XS.iload X0.here hx rfl (hb hby d3_6) rfl ?_
    exact k)
  by_cases c3 : x1 = (0 : Int32)
  · obtain ⟨y4, hy4⟩ : ∃ z : Int64, z = (q2 &&& (9223372036854775807 : Int64)) := ⟨_, rfl⟩
    have P5 : Rch p e below (s₁.setTop (entryFrame m #[(.long q1), (.long q2), (.int p3)] 6)) (s₁.setTop (mkF m 16 #[.val (.long q1), .second, .val (.long q2), .second, .val (.int p3), .val (.int x1)] [(.long y4)])) := fun t k => P2 t (by
      subst hy4
      show Steps p.tables e below (s₁.setTop (mkF m 8 #[.val (.long q1), .second, .val (.long q2), .second, .val (.int p3), .val (.int x1)] [(.int x1)])) t
      refine XS.ifNo X0.here hx rfl (hb hby d3_8) rfl ((if0 _ _).trans (teq c3).2) ?_
      show Steps p.tables e below (s₁.setTop (mkF m 11 #[.val (.long q1), .second, .val (.long q2), .second, .val (.int p3), .val (.int x1)] [])) t
      refine XS.lloadN X0.here hx rfl (hb hby d3_11) rfl ?_
      show Steps p.tables e below (s₁.setTop (mkF m 12 #[.val (.long q1), .second, .val (.long q2), .second, .val (.int p3), .val (.int x1)] [(.long q2)])) t
      refine X0.ldc2Long hx hown (mvT hZ (hw _ (List.mem_of_getElem? (i := 0) rfl))) (g := (mkF m 12 #[.val (.long q1), .second, .val (.long q2), .second, .val (.int p3), .val (.int x1)] [(.long q2)])) rfl (hb hby d3_12) _ ?_
      show Steps p.tables e below (s₁.setTop (mkF m 15 #[.val (.long q1), .second, .val (.long q2), .second, .val (.int p3), .val (.int x1)] [(.long (9223372036854775807 : Int64)), (.long q2)])) t
      refine XS.land X0.here hx rfl (hb hby d3_15) rfl ?_
      exact k)
    obtain ⟨fs, hr, hrun, hended, hW, hsame⟩ := X0.leave (v := some (.long y4)) (fun h => by rw [Bd.returns] at h; cases h)
    refine ⟨_, _, P5 _ ?_, hrun, hended, _, _, rfl, ?_, ⟨_, rfl⟩, hW, hsame.mono (by decide) (by decide)⟩
    · exact retOut X0 hx Bd.returns rfl (Or.inr (Or.inl ⟨rfl, rfl, _, rfl⟩)) (hb hby d3_16) hr
    · show Q_rmP Z q1 q2 p3 h0 n0 _ s₁.heap _
      rw [e0]
      exact ⟨(by unfold own_pick; subst hy4 hx1; first | rfl | rw [if_pos c3] | simp only [if_pos c3] | simp [*]), N0, rfl⟩
  · have P6 : Rch p e below (s₁.setTop (entryFrame m #[(.long q1), (.long q2), (.int p3)] 6)) (s₁.setTop (mkF m 20 #[.val (.long q1), .second, .val (.long q2), .second, .val (.int p3), .val (.int x1)] [(.int (1 : Int32)), (.int x1)])) := fun t k => P2 t (by
      show Steps p.tables e below (s₁.setTop (mkF m 8 #[.val (.long q1), .second, .val (.long q2), .second, .val (.int p3), .val (.int x1)] [(.int x1)])) t
      refine XS.ifYes X0.here hx rfl (pc0 := 8) (pc' := 17) rfl (hb hby d3_8) rfl ((if0 _ _).trans (feq c3).2) (by decide) (by decide) ?_
      show Steps p.tables e below (s₁.setTop (mkF m 17 #[.val (.long q1), .second, .val (.long q2), .second, .val (.int p3), .val (.int x1)] [])) t
      refine XS.iload X0.here hx rfl (hb hby d3_17) rfl ?_
      show Steps p.tables e below (s₁.setTop (mkF m 19 #[.val (.long q1), .second, .val (.long q2), .second, .val (.int p3), .val (.int x1)] [(.int x1)])) t
      refine XS.iconst X0.here hx rfl (hb hby d3_19) ?_
      exact k)
    by_cases c7 : x1 = (1 : Int32)
    · have P8 : Rch p e below (s₁.setTop (entryFrame m #[(.long q1), (.long q2), (.int p3)] 6)) (s₁.setTop (mkF m 24 #[.val (.long q1), .second, .val (.long q2), .second, .val (.int p3), .val (.int x1)] [(.long q1)])) := fun t k => P6 t (by
        show Steps p.tables e below (s₁.setTop (mkF m 20 #[.val (.long q1), .second, .val (.long q2), .second, .val (.int p3), .val (.int x1)] [(.int (1 : Int32)), (.int x1)])) t
        refine XS.icmpNo X0.here hx rfl (hb hby d3_20) rfl (teq c7).2 ?_
        show Steps p.tables e below (s₁.setTop (mkF m 23 #[.val (.long q1), .second, .val (.long q2), .second, .val (.int p3), .val (.int x1)] [])) t
        refine XS.lloadN X0.here hx rfl (hb hby d3_23) rfl ?_
        exact k)
      obtain ⟨fs, hr, hrun, hended, hW, hsame⟩ := X0.leave (v := some (.long q1)) (fun h => by rw [Bd.returns] at h; cases h)
      refine ⟨_, _, P8 _ ?_, hrun, hended, _, _, rfl, ?_, ⟨_, rfl⟩, hW, hsame.mono (by decide) (by decide)⟩
      · exact retOut X0 hx Bd.returns rfl (Or.inr (Or.inl ⟨rfl, rfl, _, rfl⟩)) (hb hby d3_24) hr
      · show Q_rmP Z q1 q2 p3 h0 n0 _ s₁.heap _
        rw [e0]
        exact ⟨(by unfold own_pick; subst hx1; first | rfl | rw [if_neg c3, if_pos c7] | simp only [if_neg c3, if_pos c7] | simp [*]), N0, rfl⟩
    · have P9 : Rch p e below (s₁.setTop (entryFrame m #[(.long q1), (.long q2), (.int p3)] 6)) (s₁.setTop (mkF m 28 #[.val (.long q1), .second, .val (.long q2), .second, .val (.int p3), .val (.int x1)] [(.int (2 : Int32)), (.int x1)])) := fun t k => P6 t (by
        show Steps p.tables e below (s₁.setTop (mkF m 20 #[.val (.long q1), .second, .val (.long q2), .second, .val (.int p3), .val (.int x1)] [(.int (1 : Int32)), (.int x1)])) t
        refine XS.icmpYes X0.here hx rfl (pc0 := 20) (pc' := 25) rfl (hb hby d3_20) rfl (feq c7).2 (by decide) (by decide) ?_
        show Steps p.tables e below (s₁.setTop (mkF m 25 #[.val (.long q1), .second, .val (.long q2), .second, .val (.int p3), .val (.int x1)] [])) t
        refine XS.iload X0.here hx rfl (hb hby d3_25) rfl ?_
        show Steps p.tables e below (s₁.setTop (mkF m 27 #[.val (.long q1), .second, .val (.long q2), .second, .val (.int p3), .val (.int x1)] [(.int x1)])) t
        refine XS.iconst X0.here hx rfl (hb hby d3_27) ?_
        exact k)
      by_cases c10 : x1 = (2 : Int32)
      · have P11 : Rch p e below (s₁.setTop (entryFrame m #[(.long q1), (.long q2), (.int p3)] 6)) (s₁.setTop (mkF m 36 #[.val (.long q1), .second, .val (.long q2), .second, .val (.int p3), .val (.int x1)] [(.int (lcmpW q1 (9223372036854775807 : Int64)))])) := fun t k => P9 t (by
          show Steps p.tables e below (s₁.setTop (mkF m 28 #[.val (.long q1), .second, .val (.long q2), .second, .val (.int p3), .val (.int x1)] [(.int (2 : Int32)), (.int x1)])) t
          refine XS.icmpNo X0.here hx rfl (hb hby d3_28) rfl (teq c10).2 ?_
          show Steps p.tables e below (s₁.setTop (mkF m 31 #[.val (.long q1), .second, .val (.long q2), .second, .val (.int p3), .val (.int x1)] [])) t
          refine XS.lloadN X0.here hx rfl (hb hby d3_31) rfl ?_
          show Steps p.tables e below (s₁.setTop (mkF m 32 #[.val (.long q1), .second, .val (.long q2), .second, .val (.int p3), .val (.int x1)] [(.long q1)])) t
          refine X0.ldc2Long hx hown (mvT hZ (hw _ (List.mem_of_getElem? (i := 0) rfl))) (g := (mkF m 32 #[.val (.long q1), .second, .val (.long q2), .second, .val (.int p3), .val (.int x1)] [(.long q1)])) rfl (hb hby d3_32) _ ?_
          show Steps p.tables e below (s₁.setTop (mkF m 35 #[.val (.long q1), .second, .val (.long q2), .second, .val (.int p3), .val (.int x1)] [(.long (9223372036854775807 : Int64)), (.long q1)])) t
          refine XS.lcmp X0.here hx rfl (hb hby d3_35) rfl ?_
          exact k)
        obtain ⟨v13, hv13, P14⟩ : ∃ (v13 : Int64), v13 = (if q1 = (9223372036854775807 : Int64) then q1 else (q1 + (1 : Int64))) ∧ Rch p e below (s₁.setTop (entryFrame m #[(.long q1), (.long q2), (.int p3)] 6)) (s₁.setTop (mkF m 46 #[.val (.long q1), .second, .val (.long q2), .second, .val (.int p3), .val (.int x1)] [(.long v13)])) := by
          by_cases c12 : q1 = (9223372036854775807 : Int64)
          · refine ⟨q1, (by first | rfl | rw [if_pos c12] | simp only [if_pos c12]), fun t k => P11 t ?_⟩
            show Steps p.tables e below (s₁.setTop (mkF m 36 #[.val (.long q1), .second, .val (.long q2), .second, .val (.int p3), .val (.int x1)] [(.int (lcmpW q1 (9223372036854775807 : Int64)))])) t
            refine XS.ifNo X0.here hx rfl (hb hby d3_36) rfl ((if0 _ _).trans (teq ((lw_eq q1 (9223372036854775807 : Int64)).mpr c12)).2) ?_
            show Steps p.tables e below (s₁.setTop (mkF m 39 #[.val (.long q1), .second, .val (.long q2), .second, .val (.int p3), .val (.int x1)] [])) t
            refine XS.lloadN X0.here hx rfl (hb hby d3_39) rfl ?_
            show Steps p.tables e below (s₁.setTop (mkF m 40 #[.val (.long q1), .second, .val (.long q2), .second, .val (.int p3), .val (.int x1)] [(.long q1)])) t
            refine XS.goto X0.here hx rfl (pc0 := 40) (pc' := 46) rfl (hb hby d3_40) (by decide) (by decide) ?_
            exact k
          · refine ⟨(q1 + (1 : Int64)), (by first | rfl | rw [if_neg c12] | simp only [if_neg c12]), fun t k => P11 t ?_⟩
            show Steps p.tables e below (s₁.setTop (mkF m 36 #[.val (.long q1), .second, .val (.long q2), .second, .val (.int p3), .val (.int x1)] [(.int (lcmpW q1 (9223372036854775807 : Int64)))])) t
            refine XS.ifYes X0.here hx rfl (pc0 := 36) (pc' := 43) rfl (hb hby d3_36) rfl ((if0 _ _).trans (feq (fun q_ => c12 ((lw_eq q1 (9223372036854775807 : Int64)).mp q_))).2) (by decide) (by decide) ?_
            show Steps p.tables e below (s₁.setTop (mkF m 43 #[.val (.long q1), .second, .val (.long q2), .second, .val (.int p3), .val (.int x1)] [])) t
            refine XS.lloadN X0.here hx rfl (hb hby d3_43) rfl ?_
            show Steps p.tables e below (s₁.setTop (mkF m 44 #[.val (.long q1), .second, .val (.long q2), .second, .val (.int p3), .val (.int x1)] [(.long q1)])) t
            refine XS.lconst X0.here hx rfl (hb hby d3_44) ?_
            show Steps p.tables e below (s₁.setTop (mkF m 45 #[.val (.long q1), .second, .val (.long q2), .second, .val (.int p3), .val (.int x1)] [(.long (1 : Int64)), (.long q1)])) t
            refine XS.ladd X0.here hx rfl (hb hby d3_45) rfl ?_
            exact k
        obtain ⟨fs, hr, hrun, hended, hW, hsame⟩ := X0.leave (v := some (.long v13)) (fun h => by rw [Bd.returns] at h; cases h)
        refine ⟨_, _, P14 _ ?_, hrun, hended, _, _, rfl, ?_, ⟨_, rfl⟩, hW, hsame.mono (by decide) (by decide)⟩
        · exact retOut X0 hx Bd.returns rfl (Or.inr (Or.inl ⟨rfl, rfl, _, rfl⟩)) (hb hby d3_46) hr
        · show Q_rmP Z q1 q2 p3 h0 n0 _ s₁.heap _
          rw [e0]
          exact ⟨(by unfold own_pick; subst hv13 hx1; first | rfl | rw [if_neg c3, if_neg c7, if_pos c10] | simp only [if_neg c3, if_neg c7, if_pos c10] | simp [*]), N0, rfl⟩
      · have P15 : Rch p e below (s₁.setTop (entryFrame m #[(.long q1), (.long q2), (.int p3)] 6)) (s₁.setTop (mkF m 50 #[.val (.long q1), .second, .val (.long q2), .second, .val (.int p3), .val (.int x1)] [(.int (lcmpW q1 (0 : Int64)))])) := fun t k => P9 t (by
          show Steps p.tables e below (s₁.setTop (mkF m 28 #[.val (.long q1), .second, .val (.long q2), .second, .val (.int p3), .val (.int x1)] [(.int (2 : Int32)), (.int x1)])) t
          refine XS.icmpYes X0.here hx rfl (pc0 := 28) (pc' := 47) rfl (hb hby d3_28) rfl (feq c10).2 (by decide) (by decide) ?_
          show Steps p.tables e below (s₁.setTop (mkF m 47 #[.val (.long q1), .second, .val (.long q2), .second, .val (.int p3), .val (.int x1)] [])) t
          refine XS.lloadN X0.here hx rfl (hb hby d3_47) rfl ?_
          show Steps p.tables e below (s₁.setTop (mkF m 48 #[.val (.long q1), .second, .val (.long q2), .second, .val (.int p3), .val (.int x1)] [(.long q1)])) t
          refine XS.lconst X0.here hx rfl (hb hby d3_48) ?_
          show Steps p.tables e below (s₁.setTop (mkF m 49 #[.val (.long q1), .second, .val (.long q2), .second, .val (.int p3), .val (.int x1)] [(.long (0 : Int64)), (.long q1)])) t
          refine XS.lcmp X0.here hx rfl (hb hby d3_49) rfl ?_
          exact k)
        obtain ⟨v17, hv17, P18⟩ : ∃ (v17 : Int64), v17 = (if q1 = (0 : Int64) then (0 : Int64) else (q1 - (1 : Int64))) ∧ Rch p e below (s₁.setTop (entryFrame m #[(.long q1), (.long q2), (.int p3)] 6)) (s₁.setTop (mkF m 60 #[.val (.long q1), .second, .val (.long q2), .second, .val (.int p3), .val (.int x1)] [(.long v17)])) := by
          by_cases c16 : q1 = (0 : Int64)
          · refine ⟨(0 : Int64), (by first | rfl | rw [if_pos c16] | simp only [if_pos c16]), fun t k => P15 t ?_⟩
            show Steps p.tables e below (s₁.setTop (mkF m 50 #[.val (.long q1), .second, .val (.long q2), .second, .val (.int p3), .val (.int x1)] [(.int (lcmpW q1 (0 : Int64)))])) t
            refine XS.ifNo X0.here hx rfl (hb hby d3_50) rfl ((if0 _ _).trans (teq ((lw_eq q1 (0 : Int64)).mpr c16)).2) ?_
            show Steps p.tables e below (s₁.setTop (mkF m 53 #[.val (.long q1), .second, .val (.long q2), .second, .val (.int p3), .val (.int x1)] [])) t
            refine XS.lconst X0.here hx rfl (hb hby d3_53) ?_
            show Steps p.tables e below (s₁.setTop (mkF m 54 #[.val (.long q1), .second, .val (.long q2), .second, .val (.int p3), .val (.int x1)] [(.long (0 : Int64))])) t
            refine XS.goto X0.here hx rfl (pc0 := 54) (pc' := 60) rfl (hb hby d3_54) (by decide) (by decide) ?_
            exact k
          · refine ⟨(q1 - (1 : Int64)), (by first | rfl | rw [if_neg c16] | simp only [if_neg c16]), fun t k => P15 t ?_⟩
            show Steps p.tables e below (s₁.setTop (mkF m 50 #[.val (.long q1), .second, .val (.long q2), .second, .val (.int p3), .val (.int x1)] [(.int (lcmpW q1 (0 : Int64)))])) t
            refine XS.ifYes X0.here hx rfl (pc0 := 50) (pc' := 57) rfl (hb hby d3_50) rfl ((if0 _ _).trans (feq (fun q_ => c16 ((lw_eq q1 (0 : Int64)).mp q_))).2) (by decide) (by decide) ?_
            show Steps p.tables e below (s₁.setTop (mkF m 57 #[.val (.long q1), .second, .val (.long q2), .second, .val (.int p3), .val (.int x1)] [])) t
            refine XS.lloadN X0.here hx rfl (hb hby d3_57) rfl ?_
            show Steps p.tables e below (s₁.setTop (mkF m 58 #[.val (.long q1), .second, .val (.long q2), .second, .val (.int p3), .val (.int x1)] [(.long q1)])) t
            refine XS.lconst X0.here hx rfl (hb hby d3_58) ?_
            show Steps p.tables e below (s₁.setTop (mkF m 59 #[.val (.long q1), .second, .val (.long q2), .second, .val (.int p3), .val (.int x1)] [(.long (1 : Int64)), (.long q1)])) t
            refine XS.lsub X0.here hx rfl (hb hby d3_59) rfl ?_
            exact k
        obtain ⟨fs, hr, hrun, hended, hW, hsame⟩ := X0.leave (v := some (.long v17)) (fun h => by rw [Bd.returns] at h; cases h)
        refine ⟨_, _, P18 _ ?_, hrun, hended, _, _, rfl, ?_, ⟨_, rfl⟩, hW, hsame.mono (by decide) (by decide)⟩
        · exact retOut X0 hx Bd.returns rfl (Or.inr (Or.inl ⟨rfl, rfl, _, rfl⟩)) (hb hby d3_60) hr
        · show Q_rmP Z q1 q2 p3 h0 n0 _ s₁.heap _
          rw [e0]
          exact ⟨(by unfold own_pick; subst hv17 hx1; first | rfl | rw [if_neg c3, if_neg c7, if_neg c10] | simp only [if_neg c3, if_neg c7, if_neg c10] | simp [*]), N0, rfl⟩
def own_after (q1 : Int64) (q2 : Int64) : Int64 := (if q1 < q2 then (0 : Int64) else (q1 - q2))
def Q_rmA (Z : State) (q1 : Int64) (q2 : Int64) (h0 : Heap) (n0 : Nat) (v : Option Value) (h : Heap) (L : List Loc) : Prop := v = some (.long (own_after q1 q2)) ∧ Fr n0 L ∧ h = h0
set_option maxRecDepth 65536 in
set_option maxHeartbeats 40000000 in
theorem rmA (l : Launch) (Z : State) (a0 : Array Value) (hw : ∀ d ∈ tables_1, d.before a0 Z = true) (ws : List Jvm.Cond) (q1 : Int64) (q2 : Int64) (h0 : Heap) (n0 : Nat) (Z0 : n0 ≤ h0.size) :
    MetFree l (⟨"com/example/rapid_pdp/rapidpdp/engine/BudgetSpendPinLaw", "after", "(JJ)J"⟩ : MethodName) (head1 (Jvm.Cond.code (⟨"com/example/rapid_pdp/rapidpdp/engine/BudgetSpendPinLaw", "after", "(JJ)J"⟩ : MethodName) method_3_code 4 (some .long) :: ws) ({ frames := 0, cells := 0, slots := 0, locals := 0 } : Room)) (fun a U => a = #[(.long q1), (.long q2)] ∧ Z.Warmed39 U.vm ∧ U.heap = h0) (fun _ _ _ _ _ => True) (fun _ U o U' => ∃ v L, o = .returned v ∧ Q_rmA Z q1 q2 h0 n0 v U'.heap L ∧ FrameEnd U o U' L ({ frames := 0, cells := 0, slots := 0, locals := 0 } : Room).cells ({ frames := 0, cells := 0, slots := 0, locals := 0 } : Room).slots) := by
  refine MetFree.of_bodySF (plainFor_of_name pn_1) hisR ?_
  intro p e s m args below meth c s₁ Bd hml0 hP hK
  obtain ⟨rfl, hZ, hh⟩ := hP
  have hx := Bd.exec
  have hby := Bd.bytes
  have hml : c.maxLocals = 4 := hml0
  have hown : s.vm.findClass "com/example/rapid_pdp/rapidpdp/engine/BudgetSpendPinLaw" = some m.cls := findClass_of_methodNamed Bd.named
  have hnm := (name_of_methodNamed Bd.named Bd.method).1
  have X0 : Stand p l e ({ frames := 0, cells := 0, slots := 0, locals := 0 } : Room) s m #[(.long q1), (.long q2)] below meth c s₁ [] 0 0 := Stand.of_body Bd
  have e0 : s₁.heap = h0 := by rw [← hh, Bd.state]; rfl
  have N0 := Fr.nil n0
  have P0 : Rch p e below (s₁.setTop (entryFrame m #[(.long q1), (.long q2)] 4)) (s₁.setTop (mkF m 0 #[.val (.long q1), .second, .val (.long q2), .second] [])) := fun t k => castTop (by first | (simp [entryFrame, mkF, argsToLocals, Value.category]; done) | rfl) k
  have P1 : Rch p e below (s₁.setTop (entryFrame m #[(.long q1), (.long q2)] 4)) (s₁.setTop (mkF m 3 #[.val (.long q1), .second, .val (.long q2), .second] [(.int (lcmpW q1 q2))])) := fun t k => P0 t (by
    show Steps p.tables e below (s₁.setTop (mkF m 0 #[.val (.long q1), .second, .val (.long q2), .second] [])) t
    refine XS.lloadN X0.here hx rfl (hb hby d5_0) rfl ?_
    show Steps p.tables e below (s₁.setTop (mkF m 1 #[.val (.long q1), .second, .val (.long q2), .second] [(.long q1)])) t
    refine XS.lloadN X0.here hx rfl (hb hby d5_1) rfl ?_
    show Steps p.tables e below (s₁.setTop (mkF m 2 #[.val (.long q1), .second, .val (.long q2), .second] [(.long q2), (.long q1)])) t
    refine XS.lcmp X0.here hx rfl (hb hby d5_2) rfl ?_
    exact k)
  by_cases c2 : q1 < q2
  · have P3 : Rch p e below (s₁.setTop (entryFrame m #[(.long q1), (.long q2)] 4)) (s₁.setTop (mkF m 11 #[.val (.long q1), .second, .val (.long q2), .second] [(.long (0 : Int64))])) := fun t k => P1 t (by
      show Steps p.tables e below (s₁.setTop (mkF m 3 #[.val (.long q1), .second, .val (.long q2), .second] [(.int (lcmpW q1 q2))])) t
      refine XS.ifYes X0.here hx rfl (pc0 := 3) (pc' := 10) rfl (hb hby d5_3) rfl ((if0 _ _).trans (tlt ((lw_lt q1 q2).mpr c2)).1) (by decide) (by decide) ?_
      show Steps p.tables e below (s₁.setTop (mkF m 10 #[.val (.long q1), .second, .val (.long q2), .second] [])) t
      refine XS.lconst X0.here hx rfl (hb hby d5_10) ?_
      exact k)
    obtain ⟨fs, hr, hrun, hended, hW, hsame⟩ := X0.leave (v := some (.long (0 : Int64))) (fun h => by rw [Bd.returns] at h; cases h)
    refine ⟨_, _, P3 _ ?_, hrun, hended, _, _, rfl, ?_, ⟨_, rfl⟩, hW, hsame.mono (by decide) (by decide)⟩
    · exact retOut X0 hx Bd.returns rfl (Or.inr (Or.inl ⟨rfl, rfl, _, rfl⟩)) (hb hby d5_11) hr
    · show Q_rmA Z q1 q2 h0 n0 _ s₁.heap _
      rw [e0]
      exact ⟨(by unfold own_after; first | rfl | rw [if_pos c2] | simp only [if_pos c2] | simp [*]), N0, rfl⟩
  · obtain ⟨y4, hy4⟩ : ∃ z : Int64, z = (q1 - q2) := ⟨_, rfl⟩
    have P5 : Rch p e below (s₁.setTop (entryFrame m #[(.long q1), (.long q2)] 4)) (s₁.setTop (mkF m 9 #[.val (.long q1), .second, .val (.long q2), .second] [(.long y4)])) := fun t k => P1 t (by
      subst hy4
      show Steps p.tables e below (s₁.setTop (mkF m 3 #[.val (.long q1), .second, .val (.long q2), .second] [(.int (lcmpW q1 q2))])) t
      refine XS.ifNo X0.here hx rfl (hb hby d5_3) rfl ((if0 _ _).trans (flt (fun q_ => c2 ((lw_lt q1 q2).mp q_))).1) ?_
      show Steps p.tables e below (s₁.setTop (mkF m 6 #[.val (.long q1), .second, .val (.long q2), .second] [])) t
      refine XS.lloadN X0.here hx rfl (hb hby d5_6) rfl ?_
      show Steps p.tables e below (s₁.setTop (mkF m 7 #[.val (.long q1), .second, .val (.long q2), .second] [(.long q1)])) t
      refine XS.lloadN X0.here hx rfl (hb hby d5_7) rfl ?_
      show Steps p.tables e below (s₁.setTop (mkF m 8 #[.val (.long q1), .second, .val (.long q2), .second] [(.long q2), (.long q1)])) t
      refine XS.lsub X0.here hx rfl (hb hby d5_8) rfl ?_
      exact k)
    obtain ⟨fs, hr, hrun, hended, hW, hsame⟩ := X0.leave (v := some (.long y4)) (fun h => by rw [Bd.returns] at h; cases h)
    refine ⟨_, _, P5 _ ?_, hrun, hended, _, _, rfl, ?_, ⟨_, rfl⟩, hW, hsame.mono (by decide) (by decide)⟩
    · exact retOut X0 hx Bd.returns rfl (Or.inr (Or.inl ⟨rfl, rfl, _, rfl⟩)) (hb hby d5_9) hr
    · show Q_rmA Z q1 q2 h0 n0 _ s₁.heap _
      rw [e0]
      exact ⟨(by unfold own_after; subst hy4; first | rfl | rw [if_neg c2] | simp only [if_neg c2] | simp [*]), N0, rfl⟩
def Q_rmL (Z : State) (a1 : Addr) (w1 : Int64) (h0 : Heap) (n0 : Nat) (v : Option Value) (h : Heap) (L : List Loc) : Prop := v = some (.long w1) ∧ Fr n0 L ∧ h = h0
set_option maxRecDepth 65536 in
set_option maxHeartbeats 40000000 in
theorem rmL (l : Launch) (Z : State) (a0 : Array Value) (hw : ∀ d ∈ tables_1, d.before a0 Z = true) (ws : List Jvm.Cond) (a1 : Addr) (w1 : Int64) (h0 : Heap) (n0 : Nat) (Z0 : n0 ≤ h0.size) (F1 : Fld Z h0 a1 "com/example/rapid_pdp/rapidpdp/engine/Budget" "limit" "J" (.long w1)) :
    MetFree l (⟨"com/example/rapid_pdp/rapidpdp/engine/Budget", "limit", "()J"⟩ : MethodName) (head1 (Jvm.Cond.code (⟨"com/example/rapid_pdp/rapidpdp/engine/Budget", "limit", "()J"⟩ : MethodName) prog_26_method_2_code 1 (some .long) :: ws) ({ frames := 0, cells := 0, slots := 0, locals := 0 } : Room)) (fun a U => a = #[(.ref a1)] ∧ Z.Warmed39 U.vm ∧ U.heap = h0) (fun _ _ _ _ _ => True) (fun _ U o U' => ∃ v L, o = .returned v ∧ Q_rmL Z a1 w1 h0 n0 v U'.heap L ∧ FrameEnd U o U' L ({ frames := 0, cells := 0, slots := 0, locals := 0 } : Room).cells ({ frames := 0, cells := 0, slots := 0, locals := 0 } : Room).slots) := by
  refine MetFree.of_bodySF (plainFor_of_name pn_0) hisR ?_
  intro p e s m args below meth c s₁ Bd hml0 hP hK
  obtain ⟨rfl, hZ, hh⟩ := hP
  have hx := Bd.exec
  have hby := Bd.bytes
  have hml : c.maxLocals = 1 := hml0
  have hown : s.vm.findClass "com/example/rapid_pdp/rapidpdp/engine/Budget" = some m.cls := findClass_of_methodNamed Bd.named
  have hnm := (name_of_methodNamed Bd.named Bd.method).1
  have X0 : Stand p l e ({ frames := 0, cells := 0, slots := 0, locals := 0 } : Room) s m #[(.ref a1)] below meth c s₁ [] 0 0 := Stand.of_body Bd
  have e0 : s₁.heap = h0 := by rw [← hh, Bd.state]; rfl
  have N0 := Fr.nil n0
  have P0 : Rch p e below (s₁.setTop (entryFrame m #[(.ref a1)] 1)) (s₁.setTop (mkF m 0 #[.val (.ref a1)] [])) := fun t k => castTop (by first | (simp [entryFrame, mkF, argsToLocals, Value.category]; done) | rfl) k
  have P1 : Rch p e below (s₁.setTop (entryFrame m #[(.ref a1)] 1)) (s₁.setTop (mkF m 1 #[.val (.ref a1)] [(.ref a1)])) := fun t k => P0 t (by
    show Steps p.tables e below (s₁.setTop (mkF m 0 #[.val (.ref a1)] [])) t
    refine XS.aloadN X0.here hx rfl (hb hby d6_0) rfl rfl ?_
    exact k)
  obtain ⟨T2, X2, e2, st2⟩ := getF X0 hx hZ hown (host := "") (Or.inl (hw _ (List.mem_of_getElem? (i := 10) rfl))) Via.refl e0 F1 (g := (mkF m 1 #[.val (.ref a1)] [(.ref a1)])) rfl rfl (hb hby d6_1)
  have P3 : Rch p e below (s₁.setTop (entryFrame m #[(.ref a1)] 1)) (T2.setTop (mkF m 4 #[.val (.ref a1)] [(.long w1)])) := fun t k => P1 t (st2 t k)
  obtain ⟨fs, hr, hrun, hended, hW, hsame⟩ := X2.leave (v := some (.long w1)) (fun h => by rw [Bd.returns] at h; cases h)
  refine ⟨_, _, P3 _ ?_, hrun, hended, _, _, rfl, ?_, ⟨_, rfl⟩, hW, hsame.mono (by decide) (by decide)⟩
  · exact retOut X2 hx Bd.returns rfl (Or.inr (Or.inl ⟨rfl, rfl, _, rfl⟩)) (hb hby d6_4) hr
  · show Q_rmL Z a1 w1 h0 n0 _ T2.heap _
    rw [e2]
    exact ⟨rfl, N0, rfl⟩
def Q_rmS (Z : State) (a1 : Addr) (q2 : Int64) (w3 : Int64) (w4 : Int64) (h0 : Heap) (n0 : Nat) (v : Option Value) (h : Heap) (L : List Loc) : Prop := v = some (.int (own_ge w3 q2)) ∧ Fr n0 L ∧ Keep h0 h [a1] ∧ (Exa Z h a1 "com/example/rapid_pdp/rapidpdp/engine/Budget") ∧ (Fld Z h a1 "com/example/rapid_pdp/rapidpdp/engine/Budget" "remaining" "J" (.long (own_after w3 q2))) ∧ (Fld Z h a1 "com/example/rapid_pdp/rapidpdp/engine/Budget" "limit" "J" (.long w4))
set_option maxRecDepth 65536 in
set_option maxHeartbeats 40000000 in
theorem rmS (l : Launch) (Z : State) (a0 : Array Value) (hw : ∀ d ∈ tables_1, d.before a0 Z = true) (ws : List Jvm.Cond) (a1 : Addr) (q2 : Int64) (w3 : Int64) (w4 : Int64) (h0 : Heap) (n0 : Nat) (Z0 : n0 ≤ h0.size) (E1 : Exa Z h0 a1 "com/example/rapid_pdp/rapidpdp/engine/Budget") (g1 : n0 ≤ a1) (F1 : Fld Z h0 a1 "com/example/rapid_pdp/rapidpdp/engine/Budget" "remaining" "J" (.long w3)) (F2 : Fld Z h0 a1 "com/example/rapid_pdp/rapidpdp/engine/Budget" "limit" "J" (.long w4)) :
    MetFree l (⟨"com/example/rapid_pdp/rapidpdp/engine/Budget", "spend", "(J)Z"⟩ : MethodName) (head1 (Jvm.Cond.code (⟨"com/example/rapid_pdp/rapidpdp/engine/Budget", "spend", "(J)Z"⟩ : MethodName) prog_26_method_3_code 4 (some .boolean) :: ws) ({ frames := 0, cells := 0, slots := 0, locals := 0 } : Room)) (fun a U => a = #[(.ref a1), (.long q2)] ∧ Z.Warmed39 U.vm ∧ U.heap = h0) (fun _ _ _ _ _ => True) (fun _ U o U' => ∃ v L, o = .returned v ∧ Q_rmS Z a1 q2 w3 w4 h0 n0 v U'.heap L ∧ FrameEnd U o U' L ({ frames := 0, cells := 0, slots := 0, locals := 0 } : Room).cells ({ frames := 0, cells := 0, slots := 0, locals := 0 } : Room).slots) := by
  refine MetFree.of_bodySF (plainFor_of_name pn_0) hisR ?_
  intro p e s m args below meth c s₁ Bd hml0 hP hK
  obtain ⟨rfl, hZ, hh⟩ := hP
  have hx := Bd.exec
  have hby := Bd.bytes
  have hml : c.maxLocals = 4 := hml0
  have hown : s.vm.findClass "com/example/rapid_pdp/rapidpdp/engine/Budget" = some m.cls := findClass_of_methodNamed Bd.named
  have hnm := (name_of_methodNamed Bd.named Bd.method).1
  have X0 : Stand p l e ({ frames := 0, cells := 0, slots := 0, locals := 0 } : Room) s m #[(.ref a1), (.long q2)] below meth c s₁ [] 0 0 := Stand.of_body Bd
  have e0 : s₁.heap = h0 := by rw [← hh, Bd.state]; rfl
  have N0 := Fr.nil n0
  have P0 : Rch p e below (s₁.setTop (entryFrame m #[(.ref a1), (.long q2)] 4)) (s₁.setTop (mkF m 0 #[.val (.ref a1), .val (.long q2), .second, .unset] [])) := fun t k => castTop (by first | (simp [entryFrame, mkF, argsToLocals, Value.category]; done) | rfl) k
  have P1 : Rch p e below (s₁.setTop (entryFrame m #[(.ref a1), (.long q2)] 4)) (s₁.setTop (mkF m 1 #[.val (.ref a1), .val (.long q2), .second, .unset] [(.ref a1)])) := fun t k => P0 t (by
    show Steps p.tables e below (s₁.setTop (mkF m 0 #[.val (.ref a1), .val (.long q2), .second, .unset] [])) t
    refine XS.aloadN X0.here hx rfl (hb hby d4_0) rfl rfl ?_
    exact k)
  obtain ⟨T2, X2, e2, st2⟩ := getF X0 hx hZ hown (host := "") (Or.inl (hw _ (List.mem_of_getElem? (i := 12) rfl))) Via.refl e0 F1 (g := (mkF m 1 #[.val (.ref a1), .val (.long q2), .second, .unset] [(.ref a1)])) rfl rfl (hb hby d4_1)
  have P3 : Rch p e below (s₁.setTop (entryFrame m #[(.ref a1), (.long q2)] 4)) (T2.setTop (mkF m 4 #[.val (.ref a1), .val (.long q2), .second, .unset] [(.long w3)])) := fun t k => P1 t (st2 t k)
  have P4 : Rch p e below (s₁.setTop (entryFrame m #[(.ref a1), (.long q2)] 4)) (T2.setTop (mkF m 6 #[.val (.ref a1), .val (.long q2), .second, .unset] [(.int (lcmpW w3 q2))])) := fun t k => P3 t (by
    show Steps p.tables e below (T2.setTop (mkF m 4 #[.val (.ref a1), .val (.long q2), .second, .unset] [(.long w3)])) t
    refine XS.lloadN X2.here hx rfl (hb hby d4_4) rfl ?_
    show Steps p.tables e below (T2.setTop (mkF m 5 #[.val (.ref a1), .val (.long q2), .second, .unset] [(.long q2), (.long w3)])) t
    refine XS.lcmp X2.here hx rfl (hb hby d4_5) rfl ?_
    exact k)
  by_cases c5 : w3 < q2
  · have P6 : Rch p e below (s₁.setTop (entryFrame m #[(.ref a1), (.long q2)] 4)) (T2.setTop (mkF m 34 #[.val (.ref a1), .val (.long q2), .second, .val (.int (0 : Int32))] [(.long (0 : Int64)), (.ref a1)])) := fun t k => P4 t (by
      show Steps p.tables e below (T2.setTop (mkF m 6 #[.val (.ref a1), .val (.long q2), .second, .unset] [(.int (lcmpW w3 q2))])) t
      refine XS.ifYes X2.here hx rfl (pc0 := 6) (pc' := 13) rfl (hb hby d4_6) rfl ((if0 _ _).trans (tlt ((lw_lt w3 q2).mpr c5)).1) (by decide) (by decide) ?_
      show Steps p.tables e below (T2.setTop (mkF m 13 #[.val (.ref a1), .val (.long q2), .second, .unset] [])) t
      refine XS.iconst X2.here hx rfl (hb hby d4_13) ?_
      show Steps p.tables e below (T2.setTop (mkF m 14 #[.val (.ref a1), .val (.long q2), .second, .unset] [(.int (0 : Int32))])) t
      refine XS.istoreN X2.here hx rfl (hb hby d4_14) rfl (l' := #[.val (.ref a1), .val (.long q2), .second, .val (.int (0 : Int32))]) rfl ?_
      show Steps p.tables e below (T2.setTop (mkF m 15 #[.val (.ref a1), .val (.long q2), .second, .val (.int (0 : Int32))] [])) t
      refine XS.iloadN X2.here hx rfl (hb hby d4_15) rfl ?_
      show Steps p.tables e below (T2.setTop (mkF m 16 #[.val (.ref a1), .val (.long q2), .second, .val (.int (0 : Int32))] [(.int (0 : Int32))])) t
      refine XS.ifYes X2.here hx rfl (pc0 := 16) (pc' := 32) rfl (hb hby d4_16) rfl ((if0 _ _).trans (teq (by decide)).1) (by decide) (by decide) ?_
      show Steps p.tables e below (T2.setTop (mkF m 32 #[.val (.ref a1), .val (.long q2), .second, .val (.int (0 : Int32))] [])) t
      refine XS.aloadN X2.here hx rfl (hb hby d4_32) rfl rfl ?_
      show Steps p.tables e below (T2.setTop (mkF m 33 #[.val (.ref a1), .val (.long q2), .second, .val (.int (0 : Int32))] [(.ref a1)])) t
      refine XS.lconst X2.here hx rfl (hb hby d4_33) ?_
      exact k)
    obtain ⟨T7, h7, X7, e7, W7, st7⟩ := putF X2 hx hZ hown (host := "") (Or.inl (hw _ (List.mem_of_getElem? (i := 12) rfl))) Via.refl e2 F1 E1 (Or.inl (hw _ (List.mem_of_getElem? (i := 13) rfl))) (hw _ (List.mem_of_getElem? (i := 2) rfl)) (ty := .long) (by decide) rfl rfl (g := (mkF m 34 #[.val (.ref a1), .val (.long q2), .second, .val (.int (0 : Int32))] [(.long (0 : Int64)), (.ref a1)])) rfl rfl (hb hby d4_34)
    have Fw7 := F1.same W7
    have P8 : Rch p e below (s₁.setTop (entryFrame m #[(.ref a1), (.long q2)] 4)) (T7.setTop (mkF m 37 #[.val (.ref a1), .val (.long q2), .second, .val (.int (0 : Int32))] [])) := fun t k => P6 t (st7 t k)
    have N7 := Fr.snoc X7 N0 g1
    have P9 : Rch p e below (s₁.setTop (entryFrame m #[(.ref a1), (.long q2)] 4)) (T7.setTop (mkF m 38 #[.val (.ref a1), .val (.long q2), .second, .val (.int (0 : Int32))] [(.int (0 : Int32))])) := fun t k => P8 t (by
      show Steps p.tables e below (T7.setTop (mkF m 37 #[.val (.ref a1), .val (.long q2), .second, .val (.int (0 : Int32))] [])) t
      refine XS.iloadN X7.here hx rfl (hb hby d4_37) rfl ?_
      exact k)
    obtain ⟨fs, hr, hrun, hended, hW, hsame⟩ := X7.leave (v := some (.int (0 : Int32))) (fun h => by rw [Bd.returns] at h; cases h)
    refine ⟨_, _, P9 _ ?_, hrun, hended, _, _, rfl, ?_, ⟨_, rfl⟩, hW, hsame.mono (by decide) (by decide)⟩
    · exact retN X7 hx (t := .boolean) Bd.returns (by simp) (hb hby d4_38) hr
    · show Q_rmS Z a1 q2 w3 w4 h0 n0 _ T7.heap _
      rw [e7]
      have f10 : Keep h0 h7 [a1] := ((Keep.refl h0 [a1]).wr W7 (Or.inl (List.mem_of_getElem? (i := 0) rfl)))
      have f11 : Fld Z h7 a1 "com/example/rapid_pdp/rapidpdp/engine/Budget" "limit" "J" (.long w4) := (F2.other W7 (Or.inr (slot_ne (Or.inr (hw _ (List.mem_of_getElem? (i := 11) rfl))) (Or.inl (hw _ (List.mem_of_getElem? (i := 13) rfl))) (by decide) (t := .long) (t' := .long) (by decide) (by decide))))
      exact ⟨(by unfold own_ge; rw [if_pos c5]), N7, f10, (E1.wr W7), (by unfold own_after; rw [if_pos c5]; exact Fw7), f11⟩
  · have P12 : Rch p e below (s₁.setTop (entryFrame m #[(.ref a1), (.long q2)] 4)) (T2.setTop (mkF m 21 #[.val (.ref a1), .val (.long q2), .second, .val (.int (1 : Int32))] [(.ref a1), (.ref a1)])) := fun t k => P4 t (by
      show Steps p.tables e below (T2.setTop (mkF m 6 #[.val (.ref a1), .val (.long q2), .second, .unset] [(.int (lcmpW w3 q2))])) t
      refine XS.ifNo X2.here hx rfl (hb hby d4_6) rfl ((if0 _ _).trans (flt (fun q_ => c5 ((lw_lt w3 q2).mp q_))).1) ?_
      show Steps p.tables e below (T2.setTop (mkF m 9 #[.val (.ref a1), .val (.long q2), .second, .unset] [])) t
      refine XS.iconst X2.here hx rfl (hb hby d4_9) ?_
      show Steps p.tables e below (T2.setTop (mkF m 10 #[.val (.ref a1), .val (.long q2), .second, .unset] [(.int (1 : Int32))])) t
      refine XS.goto X2.here hx rfl (pc0 := 10) (pc' := 14) rfl (hb hby d4_10) (by decide) (by decide) ?_
      show Steps p.tables e below (T2.setTop (mkF m 14 #[.val (.ref a1), .val (.long q2), .second, .unset] [(.int (1 : Int32))])) t
      refine XS.istoreN X2.here hx rfl (hb hby d4_14) rfl (l' := #[.val (.ref a1), .val (.long q2), .second, .val (.int (1 : Int32))]) rfl ?_
      show Steps p.tables e below (T2.setTop (mkF m 15 #[.val (.ref a1), .val (.long q2), .second, .val (.int (1 : Int32))] [])) t
      refine XS.iloadN X2.here hx rfl (hb hby d4_15) rfl ?_
      show Steps p.tables e below (T2.setTop (mkF m 16 #[.val (.ref a1), .val (.long q2), .second, .val (.int (1 : Int32))] [(.int (1 : Int32))])) t
      refine XS.ifNo X2.here hx rfl (hb hby d4_16) rfl ((if0 _ _).trans (feq (by decide)).1) ?_
      show Steps p.tables e below (T2.setTop (mkF m 19 #[.val (.ref a1), .val (.long q2), .second, .val (.int (1 : Int32))] [])) t
      refine XS.aloadN X2.here hx rfl (hb hby d4_19) rfl rfl ?_
      show Steps p.tables e below (T2.setTop (mkF m 20 #[.val (.ref a1), .val (.long q2), .second, .val (.int (1 : Int32))] [(.ref a1)])) t
      refine XS.dup X2.here hx rfl (hb hby d4_20) rfl rfl ?_
      exact k)
    obtain ⟨T13, X13, e13, st13⟩ := getF X2 hx hZ hown (host := "") (Or.inl (hw _ (List.mem_of_getElem? (i := 12) rfl))) Via.refl e2 F1 (g := (mkF m 21 #[.val (.ref a1), .val (.long q2), .second, .val (.int (1 : Int32))] [(.ref a1), (.ref a1)])) rfl rfl (hb hby d4_21)
    have P14 : Rch p e below (s₁.setTop (entryFrame m #[(.ref a1), (.long q2)] 4)) (T13.setTop (mkF m 24 #[.val (.ref a1), .val (.long q2), .second, .val (.int (1 : Int32))] [(.long w3), (.ref a1)])) := fun t k => P12 t (st13 t k)
    obtain ⟨y15, hy15⟩ : ∃ z : Int64, z = (w3 - q2) := ⟨_, rfl⟩
    have P16 : Rch p e below (s₁.setTop (entryFrame m #[(.ref a1), (.long q2)] 4)) (T13.setTop (mkF m 26 #[.val (.ref a1), .val (.long q2), .second, .val (.int (1 : Int32))] [(.long y15), (.ref a1)])) := fun t k => P14 t (by
      subst hy15
      show Steps p.tables e below (T13.setTop (mkF m 24 #[.val (.ref a1), .val (.long q2), .second, .val (.int (1 : Int32))] [(.long w3), (.ref a1)])) t
      refine XS.lloadN X13.here hx rfl (hb hby d4_24) rfl ?_
      show Steps p.tables e below (T13.setTop (mkF m 25 #[.val (.ref a1), .val (.long q2), .second, .val (.int (1 : Int32))] [(.long q2), (.long w3), (.ref a1)])) t
      refine XS.lsub X13.here hx rfl (hb hby d4_25) rfl ?_
      exact k)
    obtain ⟨T17, h17, X17, e17, W17, st17⟩ := putF X13 hx hZ hown (host := "") (Or.inl (hw _ (List.mem_of_getElem? (i := 12) rfl))) Via.refl e13 F1 E1 (Or.inl (hw _ (List.mem_of_getElem? (i := 13) rfl))) (hw _ (List.mem_of_getElem? (i := 2) rfl)) (ty := .long) (by decide) rfl rfl (g := (mkF m 26 #[.val (.ref a1), .val (.long q2), .second, .val (.int (1 : Int32))] [(.long y15), (.ref a1)])) rfl rfl (hb hby d4_26)
    have Fw17 := F1.same W17
    have P18 : Rch p e below (s₁.setTop (entryFrame m #[(.ref a1), (.long q2)] 4)) (T17.setTop (mkF m 29 #[.val (.ref a1), .val (.long q2), .second, .val (.int (1 : Int32))] [])) := fun t k => P16 t (st17 t k)
    have N17 := Fr.snoc X17 N0 g1
    have P19 : Rch p e below (s₁.setTop (entryFrame m #[(.ref a1), (.long q2)] 4)) (T17.setTop (mkF m 38 #[.val (.ref a1), .val (.long q2), .second, .val (.int (1 : Int32))] [(.int (1 : Int32))])) := fun t k => P18 t (by
      show Steps p.tables e below (T17.setTop (mkF m 29 #[.val (.ref a1), .val (.long q2), .second, .val (.int (1 : Int32))] [])) t
      refine XS.goto X17.here hx rfl (pc0 := 29) (pc' := 37) rfl (hb hby d4_29) (by decide) (by decide) ?_
      show Steps p.tables e below (T17.setTop (mkF m 37 #[.val (.ref a1), .val (.long q2), .second, .val (.int (1 : Int32))] [])) t
      refine XS.iloadN X17.here hx rfl (hb hby d4_37) rfl ?_
      exact k)
    obtain ⟨fs, hr, hrun, hended, hW, hsame⟩ := X17.leave (v := some (.int (1 : Int32))) (fun h => by rw [Bd.returns] at h; cases h)
    refine ⟨_, _, P19 _ ?_, hrun, hended, _, _, rfl, ?_, ⟨_, rfl⟩, hW, hsame.mono (by decide) (by decide)⟩
    · exact retN X17 hx (t := .boolean) Bd.returns (by simp) (hb hby d4_38) hr
    · show Q_rmS Z a1 q2 w3 w4 h0 n0 _ T17.heap _
      rw [e17]
      have f20 : Keep h0 h17 [a1] := ((Keep.refl h0 [a1]).wr W17 (Or.inl (List.mem_of_getElem? (i := 0) rfl)))
      have f21 : Fld Z h17 a1 "com/example/rapid_pdp/rapidpdp/engine/Budget" "limit" "J" (.long w4) := (F2.other W17 (Or.inr (slot_ne (Or.inr (hw _ (List.mem_of_getElem? (i := 11) rfl))) (Or.inl (hw _ (List.mem_of_getElem? (i := 13) rfl))) (by decide) (t := .long) (t' := .long) (by decide) (by decide))))
      exact ⟨(by unfold own_ge; rw [if_neg c5]), N17, f20, (E1.wr W17), (by unfold own_after; rw [if_neg c5, ← hy15]; exact Fw17), f21⟩
def Q_rm0 (Z : State) (q1 : Int64) (q2 : Int64) (q3 : Int64) (q4 : Int64) (p5 : Int32) (h0 : Heap) (n0 : Nat) (v : Option Value) (h : Heap) (L : List Loc) : Prop := v = some (.int (1 : Int32)) ∧ Fr n0 L
set_option maxRecDepth 65536 in
set_option maxHeartbeats 40000000 in
theorem rm0 (l : Launch) (Z : State) (a0 : Array Value) (hw : ∀ d ∈ tables_1, d.before a0 Z = true) (ws : List Jvm.Cond) (q1 : Int64) (q2 : Int64) (q3 : Int64) (q4 : Int64) (p5 : Int32) (h0 : Heap) (n0 : Nat) (Z0 : n0 ≤ h0.size) :
    MetFree l x (head1 (Jvm.Cond.code x code maxLocals ret :: ws) room_1) (fun a U => a = #[(.long q1), (.long q2), (.long q3), (.long q4), (.int p5)] ∧ Z.Warmed39 U.vm ∧ U.heap = h0) (fun _ _ _ _ _ => True) (fun _ U o U' => ∃ v L, o = .returned v ∧ Q_rm0 Z q1 q2 q3 q4 p5 h0 n0 v U'.heap L ∧ FrameEnd U o U' L room_1.cells room_1.slots) := by
  refine MetFree.of_bodySF (plainFor_of_name pn_1) hisR ?_
  intro p e s m args below meth c s₁ Bd hml0 hP hK
  obtain ⟨rfl, hZ, hh⟩ := hP
  have hx := Bd.exec
  have hby := Bd.bytes
  have hml : c.maxLocals = 28 := hml0
  have hown : s.vm.findClass "com/example/rapid_pdp/rapidpdp/engine/BudgetSpendPinLaw" = some m.cls := findClass_of_methodNamed Bd.named
  have hnm := (name_of_methodNamed Bd.named Bd.method).1
  have X0 : Stand p l e room_1 s m #[(.long q1), (.long q2), (.long q3), (.long q4), (.int p5)] below meth c s₁ [] 0 0 := Stand.of_body Bd
  have e0 : s₁.heap = h0 := by rw [← hh, Bd.state]; rfl
  have N0 := Fr.nil n0
  have P0 : Rch p e below (s₁.setTop (entryFrame m #[(.long q1), (.long q2), (.long q3), (.long q4), (.int p5)] maxLocals)) (s₁.setTop (mkF m 0 #[.val (.long q1), .second, .val (.long q2), .second, .val (.long q3), .second, .val (.long q4), .second, .val (.int p5), .unset, .unset, .unset, .unset, .unset, .unset, .unset, .unset, .unset, .unset, .unset, .unset, .unset, .unset, .unset, .unset, .unset, .unset, .unset] [])) := fun t k => castTop (by first | (simp [entryFrame, mkF, argsToLocals, Value.category, maxLocals]; done) | rfl) k
  obtain ⟨y1, hy1⟩ : ∃ z : Int64, z = (q1 &&& (9223372036854775807 : Int64)) := ⟨_, rfl⟩
  have P2 : Rch p e below (s₁.setTop (entryFrame m #[(.long q1), (.long q2), (.long q3), (.long q4), (.int p5)] maxLocals)) (s₁.setTop (mkF m 7 #[.val (.long q1), .second, .val (.long q2), .second, .val (.long q3), .second, .val (.long q4), .second, .val (.int p5), .val (.long y1), .second, .unset, .unset, .unset, .unset, .unset, .unset, .unset, .unset, .unset, .unset, .unset, .unset, .unset, .unset, .unset, .unset, .unset] [])) := fun t k => P0 t (by
    subst hy1
    show Steps p.tables e below (s₁.setTop (mkF m 0 #[.val (.long q1), .second, .val (.long q2), .second, .val (.long q3), .second, .val (.long q4), .second, .val (.int p5), .unset, .unset, .unset, .unset, .unset, .unset, .unset, .unset, .unset, .unset, .unset, .unset, .unset, .unset, .unset, .unset, .unset, .unset, .unset] [])) t
    refine XS.lloadN X0.here hx rfl (hb hby at_0) rfl ?_
    show Steps p.tables e below (s₁.setTop (mkF m 1 #[.val (.long q1), .second, .val (.long q2), .second, .val (.long q3), .second, .val (.long q4), .second, .val (.int p5), .unset, .unset, .unset, .unset, .unset, .unset, .unset, .unset, .unset, .unset, .unset, .unset, .unset, .unset, .unset, .unset, .unset, .unset, .unset] [(.long q1)])) t
    refine X0.ldc2Long hx hown (mvT hZ (hw _ (List.mem_of_getElem? (i := 0) rfl))) (g := (mkF m 1 #[.val (.long q1), .second, .val (.long q2), .second, .val (.long q3), .second, .val (.long q4), .second, .val (.int p5), .unset, .unset, .unset, .unset, .unset, .unset, .unset, .unset, .unset, .unset, .unset, .unset, .unset, .unset, .unset, .unset, .unset, .unset, .unset] [(.long q1)])) rfl (hb hby at_1) _ ?_
    show Steps p.tables e below (s₁.setTop (mkF m 4 #[.val (.long q1), .second, .val (.long q2), .second, .val (.long q3), .second, .val (.long q4), .second, .val (.int p5), .unset, .unset, .unset, .unset, .unset, .unset, .unset, .unset, .unset, .unset, .unset, .unset, .unset, .unset, .unset, .unset, .unset, .unset, .unset] [(.long (9223372036854775807 : Int64)), (.long q1)])) t
    refine XS.land X0.here hx rfl (hb hby at_4) rfl ?_
    show Steps p.tables e below (s₁.setTop (mkF m 5 #[.val (.long q1), .second, .val (.long q2), .second, .val (.long q3), .second, .val (.long q4), .second, .val (.int p5), .unset, .unset, .unset, .unset, .unset, .unset, .unset, .unset, .unset, .unset, .unset, .unset, .unset, .unset, .unset, .unset, .unset, .unset, .unset] [(.long (q1 &&& (9223372036854775807 : Int64)))])) t
    refine XS.lstore X0.here hx rfl (hb hby at_5) rfl (l' := #[.val (.long q1), .second, .val (.long q2), .second, .val (.long q3), .second, .val (.long q4), .second, .val (.int p5), .val (.long (q1 &&& (9223372036854775807 : Int64))), .second, .unset, .unset, .unset, .unset, .unset, .unset, .unset, .unset, .unset, .unset, .unset, .unset, .unset, .unset, .unset, .unset, .unset]) rfl ?_
    exact k)
  obtain ⟨T3, h3, X3, e3, E3, A3, D3, -, st3⟩ := newO X0 hx hZ hown (hw _ (List.mem_of_getElem? (i := 1) rfl)) (hw _ (List.mem_of_getElem? (i := 2) rfl)) (hw _ (List.mem_of_getElem? (i := 3) rfl)) e0 (g := (mkF m 7 #[.val (.long q1), .second, .val (.long q2), .second, .val (.long q3), .second, .val (.long q4), .second, .val (.int p5), .val (.long y1), .second, .unset, .unset, .unset, .unset, .unset, .unset, .unset, .unset, .unset, .unset, .unset, .unset, .unset, .unset, .unset, .unset, .unset] [])) rfl (hb hby at_7) (by decide) (by decide)
  obtain ⟨b3, g3⟩ : ∃ z, z = h0.size := ⟨_, rfl⟩
  rw [← g3] at A3 D3 st3
  have g_b3 : n0 ≤ b3 := Nat.le_trans Z0 (Nat.le_of_eq g3.symm)
  have sz_b3 : h0.size ≤ b3 := Nat.le_trans (Keep.refl h0 []).1 (Nat.le_of_eq g3.symm)
  have F3_11 : Fld Z h3 b3 "com/example/rapid_pdp/rapidpdp/engine/Budget" "limit" "J" (.long (0 : Int64)) := D3 (Or.inr (hw _ (List.mem_of_getElem? (i := 11) rfl))) (ty := .long) (by decide)
  have F3_13 : Fld Z h3 b3 "com/example/rapid_pdp/rapidpdp/engine/Budget" "remaining" "J" (.long (0 : Int64)) := D3 (Or.inl (hw _ (List.mem_of_getElem? (i := 13) rfl))) (ty := .long) (by decide)
  have P4 : Rch p e below (s₁.setTop (entryFrame m #[(.long q1), (.long q2), (.long q3), (.long q4), (.int p5)] maxLocals)) (T3.setTop (mkF m 10 #[.val (.long q1), .second, .val (.long q2), .second, .val (.long q3), .second, .val (.long q4), .second, .val (.int p5), .val (.long y1), .second, .unset, .unset, .unset, .unset, .unset, .unset, .unset, .unset, .unset, .unset, .unset, .unset, .unset, .unset, .unset, .unset, .unset] [(.ref b3)])) := fun t k => P2 t (st3 t k)
  have P5 : Rch p e below (s₁.setTop (entryFrame m #[(.long q1), (.long q2), (.long q3), (.long q4), (.int p5)] maxLocals)) (T3.setTop (mkF m 13 #[.val (.long q1), .second, .val (.long q2), .second, .val (.long q3), .second, .val (.long q4), .second, .val (.int p5), .val (.long y1), .second, .unset, .unset, .unset, .unset, .unset, .unset, .unset, .unset, .unset, .unset, .unset, .unset, .unset, .unset, .unset, .unset, .unset] [(.long y1), (.ref b3), (.ref b3)])) := fun t k => P4 t (by
    show Steps p.tables e below (T3.setTop (mkF m 10 #[.val (.long q1), .second, .val (.long q2), .second, .val (.long q3), .second, .val (.long q4), .second, .val (.int p5), .val (.long y1), .second, .unset, .unset, .unset, .unset, .unset, .unset, .unset, .unset, .unset, .unset, .unset, .unset, .unset, .unset, .unset, .unset, .unset] [(.ref b3)])) t
    refine XS.dup X3.here hx rfl (hb hby at_10) rfl rfl ?_
    show Steps p.tables e below (T3.setTop (mkF m 11 #[.val (.long q1), .second, .val (.long q2), .second, .val (.long q3), .second, .val (.long q4), .second, .val (.int p5), .val (.long y1), .second, .unset, .unset, .unset, .unset, .unset, .unset, .unset, .unset, .unset, .unset, .unset, .unset, .unset, .unset, .unset, .unset, .unset] [(.ref b3), (.ref b3)])) t
    refine XS.lload X3.here hx rfl (hb hby at_11) rfl ?_
    exact k)
  have f7 : n0 ≤ h3.size := (Nat.le_trans Z0 E3.1)
  obtain ⟨_, _, ⟨T6, L6, k6, n6⟩, -, X6, ⟨Lc6, hQ6, l6, y6, z6⟩, st6⟩ := X3.specialBack hx (y := (⟨"com/example/rapid_pdp/rapidpdp/engine/Budget", "<init>", "(J)V"⟩ : MethodName)) rfl hown (mvT hZ (hw _ (List.mem_of_getElem? (i := 4) rfl))) (mvT hZ (hw _ (List.mem_of_getElem? (i := 5) rfl))) (mvT hZ (hw _ (List.mem_of_getElem? (i := 6) rfl))) (by decide) (backOf (W := 1) (rmI l Z a0 hw [] b3 y1 h3 n0 f7 A3 g_b3 F3_11 F3_13) hZ (hw _ (List.mem_of_getElem? (i := 6) rfl)) (hw _ (List.mem_of_getElem? (i := 3) rfl)) (by decide) (by decide)) (g := (mkF m 13 #[.val (.long q1), .second, .val (.long q2), .second, .val (.long q3), .second, .val (.long q4), .second, .val (.int p5), .val (.long y1), .second, .unset, .unset, .unset, .unset, .unset, .unset, .unset, .unset, .unset, .unset, .unset, .unset, .unset, .unset, .unset, .unset, .unset] [(.long y1), (.ref b3), (.ref b3)])) rfl (by rw [hml]; rfl) (Steps.refl _) (a := b3) (argsL := [(.long y1)]) (rest := [(.ref b3)]) (lenOf pd_0 rfl) rfl (by show 2 * 0 + _ ≤ _; exact Nat.le_of_eq rfl) (hb hby at_13) (fun _ _ => ⟨rfl, e3, (by decide : 1 + 0 ≤ _), (by decide : 2 + 0 ≤ _)⟩)
  dsimp only [Pt.U, Pt.locs, Pt.cells, Pt.slots] at X6 l6 y6 z6 st6 hQ6
  subst l6 y6 z6
  obtain ⟨rfl, N6q, K6, E_6, G0_6, G1_6⟩ := hQ6
  have N6 := Fr.app N0 N6q
  have P8 : Rch p e below (s₁.setTop (entryFrame m #[(.long q1), (.long q2), (.long q3), (.long q4), (.int p5)] maxLocals)) (T6.setTop (mkF m 16 #[.val (.long q1), .second, .val (.long q2), .second, .val (.long q3), .second, .val (.long q4), .second, .val (.int p5), .val (.long y1), .second, .unset, .unset, .unset, .unset, .unset, .unset, .unset, .unset, .unset, .unset, .unset, .unset, .unset, .unset, .unset, .unset, .unset] [(.ref b3)])) := fun t k => P5 t (st6.trans k)
  have P9 : Rch p e below (s₁.setTop (entryFrame m #[(.long q1), (.long q2), (.long q3), (.long q4), (.int p5)] maxLocals)) (T6.setTop (mkF m 27 #[.val (.long q1), .second, .val (.long q2), .second, .val (.long q3), .second, .val (.long q4), .second, .val (.int p5), .val (.long y1), .second, .val (.ref b3), .val (.long y1), .second, .unset, .unset, .unset, .unset, .unset, .unset, .unset, .unset, .unset, .unset, .unset, .unset, .unset, .unset] [(.int p5), (.long q2), (.long y1)])) := fun t k => P8 t (by
    show Steps p.tables e below (T6.setTop (mkF m 16 #[.val (.long q1), .second, .val (.long q2), .second, .val (.long q3), .second, .val (.long q4), .second, .val (.int p5), .val (.long y1), .second, .unset, .unset, .unset, .unset, .unset, .unset, .unset, .unset, .unset, .unset, .unset, .unset, .unset, .unset, .unset, .unset, .unset] [(.ref b3)])) t
    refine XS.astore X6.here hx rfl (hb hby at_16) rfl rfl (l' := #[.val (.long q1), .second, .val (.long q2), .second, .val (.long q3), .second, .val (.long q4), .second, .val (.int p5), .val (.long y1), .second, .val (.ref b3), .unset, .unset, .unset, .unset, .unset, .unset, .unset, .unset, .unset, .unset, .unset, .unset, .unset, .unset, .unset, .unset]) rfl ?_
    show Steps p.tables e below (T6.setTop (mkF m 18 #[.val (.long q1), .second, .val (.long q2), .second, .val (.long q3), .second, .val (.long q4), .second, .val (.int p5), .val (.long y1), .second, .val (.ref b3), .unset, .unset, .unset, .unset, .unset, .unset, .unset, .unset, .unset, .unset, .unset, .unset, .unset, .unset, .unset, .unset] [])) t
    refine XS.lload X6.here hx rfl (hb hby at_18) rfl ?_
    show Steps p.tables e below (T6.setTop (mkF m 20 #[.val (.long q1), .second, .val (.long q2), .second, .val (.long q3), .second, .val (.long q4), .second, .val (.int p5), .val (.long y1), .second, .val (.ref b3), .unset, .unset, .unset, .unset, .unset, .unset, .unset, .unset, .unset, .unset, .unset, .unset, .unset, .unset, .unset, .unset] [(.long y1)])) t
    refine XS.lstore X6.here hx rfl (hb hby at_20) rfl (l' := #[.val (.long q1), .second, .val (.long q2), .second, .val (.long q3), .second, .val (.long q4), .second, .val (.int p5), .val (.long y1), .second, .val (.ref b3), .val (.long y1), .second, .unset, .unset, .unset, .unset, .unset, .unset, .unset, .unset, .unset, .unset, .unset, .unset, .unset, .unset]) rfl ?_
    show Steps p.tables e below (T6.setTop (mkF m 22 #[.val (.long q1), .second, .val (.long q2), .second, .val (.long q3), .second, .val (.long q4), .second, .val (.int p5), .val (.long y1), .second, .val (.ref b3), .val (.long y1), .second, .unset, .unset, .unset, .unset, .unset, .unset, .unset, .unset, .unset, .unset, .unset, .unset, .unset, .unset] [])) t
    refine XS.lload X6.here hx rfl (hb hby at_22) rfl ?_
    show Steps p.tables e below (T6.setTop (mkF m 24 #[.val (.long q1), .second, .val (.long q2), .second, .val (.long q3), .second, .val (.long q4), .second, .val (.int p5), .val (.long y1), .second, .val (.ref b3), .val (.long y1), .second, .unset, .unset, .unset, .unset, .unset, .unset, .unset, .unset, .unset, .unset, .unset, .unset, .unset, .unset] [(.long y1)])) t
    refine XS.lloadN X6.here hx rfl (hb hby at_24) rfl ?_
    show Steps p.tables e below (T6.setTop (mkF m 25 #[.val (.long q1), .second, .val (.long q2), .second, .val (.long q3), .second, .val (.long q4), .second, .val (.int p5), .val (.long y1), .second, .val (.ref b3), .val (.long y1), .second, .unset, .unset, .unset, .unset, .unset, .unset, .unset, .unset, .unset, .unset, .unset, .unset, .unset, .unset] [(.long q2), (.long y1)])) t
    refine XS.iload X6.here hx rfl (hb hby at_25) rfl ?_
    exact k)
  have f11 : n0 ≤ T6.heap.size := (Nat.le_trans f7 K6.1)
  obtain ⟨_, _, ⟨T10, L10, k10, n10⟩, -, X10, ⟨Lc10, hQ10, l10, y10, z10⟩, st10⟩ := Jvm.LawKit.callS X6 hx (y := (⟨"com/example/rapid_pdp/rapidpdp/engine/BudgetSpendPinLaw", "pick", "(JJI)J"⟩ : MethodName)) hown (mvT hZ (hw _ (List.mem_of_getElem? (i := 14) rfl))) (mvT hZ (hw _ (List.mem_of_getElem? (i := 15) rfl))) (mvT hZ (hw _ (List.mem_of_getElem? (i := 16) rfl))) (mvT hZ (hw _ (List.mem_of_getElem? (i := 17) rfl))) (by decide) (backOf (W := 0) (rmP l Z a0 hw [] y1 q2 p5 T6.heap n0 f11 ) hZ (hw _ (List.mem_of_getElem? (i := 17) rfl)) (hw _ (List.mem_of_getElem? (i := 16) rfl)) (by decide) (by decide)) (g := (mkF m 27 #[.val (.long q1), .second, .val (.long q2), .second, .val (.long q3), .second, .val (.long q4), .second, .val (.int p5), .val (.long y1), .second, .val (.ref b3), .val (.long y1), .second, .unset, .unset, .unset, .unset, .unset, .unset, .unset, .unset, .unset, .unset, .unset, .unset, .unset, .unset] [(.int p5), (.long q2), (.long y1)])) rfl (by rw [hml]; rfl) (argsL := [(.long y1), (.long q2), (.int p5)]) (rest := []) (lenOf pd_1 rfl) rfl (by show 2 * 0 + _ ≤ _; exact Nat.le_of_eq rfl) (hb hby at_27) (fun _ _ => ⟨rfl, rfl, (by decide : 1 + 0 ≤ _), (by decide : 2 + 0 ≤ _)⟩)
  dsimp only [Pt.U, Pt.locs, Pt.cells, Pt.slots] at X10 l10 y10 z10 st10 hQ10
  subst l10 y10 z10
  obtain ⟨rfl, N10q, e10⟩ := hQ10
  have N10 := Fr.app N6 N10q
  have P12 : Rch p e below (s₁.setTop (entryFrame m #[(.long q1), (.long q2), (.long q3), (.long q4), (.int p5)] maxLocals)) (T10.setTop (mkF m 30 #[.val (.long q1), .second, .val (.long q2), .second, .val (.long q3), .second, .val (.long q4), .second, .val (.int p5), .val (.long y1), .second, .val (.ref b3), .val (.long y1), .second, .unset, .unset, .unset, .unset, .unset, .unset, .unset, .unset, .unset, .unset, .unset, .unset, .unset, .unset] [(.long (own_pick y1 q2 p5))])) := fun t k => P9 t (st10 t k)
  obtain ⟨y13, hy13⟩ : ∃ z : Int64, z = (own_pick y1 q2 p5) := ⟨_, rfl⟩
  rw [← hy13] at P12
  have P14 : Rch p e below (s₁.setTop (entryFrame m #[(.long q1), (.long q2), (.long q3), (.long q4), (.int p5)] maxLocals)) (T10.setTop (mkF m 36 #[.val (.long q1), .second, .val (.long q2), .second, .val (.long q3), .second, .val (.long q4), .second, .val (.int p5), .val (.long y1), .second, .val (.ref b3), .val (.long y1), .second, .val (.long y13), .second, .unset, .unset, .unset, .unset, .unset, .unset, .unset, .unset, .unset, .unset, .unset, .unset] [(.long y13), (.ref b3)])) := fun t k => P12 t (by
    show Steps p.tables e below (T10.setTop (mkF m 30 #[.val (.long q1), .second, .val (.long q2), .second, .val (.long q3), .second, .val (.long q4), .second, .val (.int p5), .val (.long y1), .second, .val (.ref b3), .val (.long y1), .second, .unset, .unset, .unset, .unset, .unset, .unset, .unset, .unset, .unset, .unset, .unset, .unset, .unset, .unset] [(.long y13)])) t
    refine XS.lstore X10.here hx rfl (hb hby at_30) rfl (l' := #[.val (.long q1), .second, .val (.long q2), .second, .val (.long q3), .second, .val (.long q4), .second, .val (.int p5), .val (.long y1), .second, .val (.ref b3), .val (.long y1), .second, .val (.long y13), .second, .unset, .unset, .unset, .unset, .unset, .unset, .unset, .unset, .unset, .unset, .unset, .unset]) rfl ?_
    show Steps p.tables e below (T10.setTop (mkF m 32 #[.val (.long q1), .second, .val (.long q2), .second, .val (.long q3), .second, .val (.long q4), .second, .val (.int p5), .val (.long y1), .second, .val (.ref b3), .val (.long y1), .second, .val (.long y13), .second, .unset, .unset, .unset, .unset, .unset, .unset, .unset, .unset, .unset, .unset, .unset, .unset] [])) t
    refine XS.aload X10.here hx rfl (hb hby at_32) rfl rfl ?_
    show Steps p.tables e below (T10.setTop (mkF m 34 #[.val (.long q1), .second, .val (.long q2), .second, .val (.long q3), .second, .val (.long q4), .second, .val (.int p5), .val (.long y1), .second, .val (.ref b3), .val (.long y1), .second, .val (.long y13), .second, .unset, .unset, .unset, .unset, .unset, .unset, .unset, .unset, .unset, .unset, .unset, .unset] [(.ref b3)])) t
    refine XS.lload X10.here hx rfl (hb hby at_34) rfl ?_
    exact k)
  obtain ⟨cq15, kq15, q15a, q15b, q15c⟩ := isOf hZ e10 E_6
  obtain ⟨_, _, ⟨T15, L15, k15, n15⟩, -, X15, ⟨Lc15, hQ15, l15, y15, z15⟩, st15⟩ := X10.virtualBack hx (y := (⟨"com/example/rapid_pdp/rapidpdp/engine/Budget", "spend", "(J)Z"⟩ : MethodName)) (z := (⟨"com/example/rapid_pdp/rapidpdp/engine/Budget", "spend", "(J)Z"⟩ : MethodName)) hown (mvT hZ (hw _ (List.mem_of_getElem? (i := 18) rfl))) (mvT hZ (hw _ (List.mem_of_getElem? (i := 19) rfl))) (notFace_of_selects (args := #[]) (mvT hZ (hw _ (List.mem_of_getElem? (i := 21) rfl)))) (mvT hZ (hw _ (List.mem_of_getElem? (i := 21) rfl))) (mvT hZ (hw _ (List.mem_of_getElem? (i := 20) rfl))) (by decide) (backOf (W := 0) (rmS l Z a0 hw [] b3 y13 y1 y1 T6.heap n0 f11 E_6 g_b3 G1_6 G0_6) hZ (hw _ (List.mem_of_getElem? (i := 22) rfl)) (hw _ (List.mem_of_getElem? (i := 3) rfl)) (by decide) (by decide)) q15a q15c (g := (mkF m 36 #[.val (.long q1), .second, .val (.long q2), .second, .val (.long q3), .second, .val (.long q4), .second, .val (.int p5), .val (.long y1), .second, .val (.ref b3), .val (.long y1), .second, .val (.long y13), .second, .unset, .unset, .unset, .unset, .unset, .unset, .unset, .unset, .unset, .unset, .unset, .unset] [(.long y13), (.ref b3)])) rfl (by rw [hml]; rfl) (Steps.refl _) (argsL := [(.long y13)]) (rest := []) (lenOf pd_2 rfl) rfl (by show 2 * 0 + _ ≤ _; exact Nat.le_of_eq rfl) (hb hby at_36) (fun _ _ => ⟨rfl, e10, (by decide : 1 + 0 ≤ _), (by decide : 2 + 0 ≤ _)⟩)
  dsimp only [Pt.U, Pt.locs, Pt.cells, Pt.slots] at X15 l15 y15 z15 st15 hQ15
  subst l15 y15 z15
  obtain ⟨rfl, N15q, K15, E_15, G_15, G2_15⟩ := hQ15
  have N15 := Fr.app N10 N15q
  have P16 : Rch p e below (s₁.setTop (entryFrame m #[(.long q1), (.long q2), (.long q3), (.long q4), (.int p5)] maxLocals)) (T15.setTop (mkF m 39 #[.val (.long q1), .second, .val (.long q2), .second, .val (.long q3), .second, .val (.long q4), .second, .val (.int p5), .val (.long y1), .second, .val (.ref b3), .val (.long y1), .second, .val (.long y13), .second, .unset, .unset, .unset, .unset, .unset, .unset, .unset, .unset, .unset, .unset, .unset, .unset] [(.int (own_ge y1 y13))])) := fun t k => P14 t (st15.trans k)
  obtain ⟨x17, hx17⟩ : ∃ z : Int32, z = (own_ge y1 y13) := ⟨_, rfl⟩
  rw [← hx17] at P16
  have P18 : Rch p e below (s₁.setTop (entryFrame m #[(.long q1), (.long q2), (.long q3), (.long q4), (.int p5)] maxLocals)) (T15.setTop (mkF m 44 #[.val (.long q1), .second, .val (.long q2), .second, .val (.long q3), .second, .val (.long q4), .second, .val (.int p5), .val (.long y1), .second, .val (.ref b3), .val (.long y1), .second, .val (.long y13), .second, .unset, .unset, .unset, .unset, .unset, .unset, .unset, .unset, .unset, .unset, .unset, .unset] [(.int (lcmpW y1 y13)), (.int x17)])) := fun t k => P16 t (by
    show Steps p.tables e below (T15.setTop (mkF m 39 #[.val (.long q1), .second, .val (.long q2), .second, .val (.long q3), .second, .val (.long q4), .second, .val (.int p5), .val (.long y1), .second, .val (.ref b3), .val (.long y1), .second, .val (.long y13), .second, .unset, .unset, .unset, .unset, .unset, .unset, .unset, .unset, .unset, .unset, .unset, .unset] [(.int x17)])) t
    refine XS.lload X15.here hx rfl (hb hby at_39) rfl ?_
    show Steps p.tables e below (T15.setTop (mkF m 41 #[.val (.long q1), .second, .val (.long q2), .second, .val (.long q3), .second, .val (.long q4), .second, .val (.int p5), .val (.long y1), .second, .val (.ref b3), .val (.long y1), .second, .val (.long y13), .second, .unset, .unset, .unset, .unset, .unset, .unset, .unset, .unset, .unset, .unset, .unset, .unset] [(.long y1), (.int x17)])) t
    refine XS.lload X15.here hx rfl (hb hby at_41) rfl ?_
    show Steps p.tables e below (T15.setTop (mkF m 43 #[.val (.long q1), .second, .val (.long q2), .second, .val (.long q3), .second, .val (.long q4), .second, .val (.int p5), .val (.long y1), .second, .val (.ref b3), .val (.long y1), .second, .val (.long y13), .second, .unset, .unset, .unset, .unset, .unset, .unset, .unset, .unset, .unset, .unset, .unset, .unset] [(.long y13), (.long y1), (.int x17)])) t
    refine XS.lcmp X15.here hx rfl (hb hby at_43) rfl ?_
    exact k)
  obtain ⟨v20, hv20, P21⟩ : ∃ (v20 : Int32), v20 = (if y1 < y13 then (0 : Int32) else (1 : Int32)) ∧ Rch p e below (s₁.setTop (entryFrame m #[(.long q1), (.long q2), (.long q3), (.long q4), (.int p5)] maxLocals)) (T15.setTop (mkF m 52 #[.val (.long q1), .second, .val (.long q2), .second, .val (.long q3), .second, .val (.long q4), .second, .val (.int p5), .val (.long y1), .second, .val (.ref b3), .val (.long y1), .second, .val (.long y13), .second, .unset, .unset, .unset, .unset, .unset, .unset, .unset, .unset, .unset, .unset, .unset, .unset] [(.int v20), (.int x17)])) := by
    by_cases c19 : y1 < y13
    · refine ⟨(0 : Int32), (by first | rfl | rw [if_pos c19] | simp only [if_pos c19]), fun t k => P18 t ?_⟩
      show Steps p.tables e below (T15.setTop (mkF m 44 #[.val (.long q1), .second, .val (.long q2), .second, .val (.long q3), .second, .val (.long q4), .second, .val (.int p5), .val (.long y1), .second, .val (.ref b3), .val (.long y1), .second, .val (.long y13), .second, .unset, .unset, .unset, .unset, .unset, .unset, .unset, .unset, .unset, .unset, .unset, .unset] [(.int (lcmpW y1 y13)), (.int x17)])) t
      refine XS.ifYes X15.here hx rfl (pc0 := 44) (pc' := 51) rfl (hb hby at_44) rfl ((if0 _ _).trans (tlt ((lw_lt y1 y13).mpr c19)).1) (by decide) (by decide) ?_
      show Steps p.tables e below (T15.setTop (mkF m 51 #[.val (.long q1), .second, .val (.long q2), .second, .val (.long q3), .second, .val (.long q4), .second, .val (.int p5), .val (.long y1), .second, .val (.ref b3), .val (.long y1), .second, .val (.long y13), .second, .unset, .unset, .unset, .unset, .unset, .unset, .unset, .unset, .unset, .unset, .unset, .unset] [(.int x17)])) t
      refine XS.iconst X15.here hx rfl (hb hby at_51) ?_
      exact k
    · refine ⟨(1 : Int32), (by first | rfl | rw [if_neg c19] | simp only [if_neg c19]), fun t k => P18 t ?_⟩
      show Steps p.tables e below (T15.setTop (mkF m 44 #[.val (.long q1), .second, .val (.long q2), .second, .val (.long q3), .second, .val (.long q4), .second, .val (.int p5), .val (.long y1), .second, .val (.ref b3), .val (.long y1), .second, .val (.long y13), .second, .unset, .unset, .unset, .unset, .unset, .unset, .unset, .unset, .unset, .unset, .unset, .unset] [(.int (lcmpW y1 y13)), (.int x17)])) t
      refine XS.ifNo X15.here hx rfl (hb hby at_44) rfl ((if0 _ _).trans (flt (fun q_ => c19 ((lw_lt y1 y13).mp q_))).1) ?_
      show Steps p.tables e below (T15.setTop (mkF m 47 #[.val (.long q1), .second, .val (.long q2), .second, .val (.long q3), .second, .val (.long q4), .second, .val (.int p5), .val (.long y1), .second, .val (.ref b3), .val (.long y1), .second, .val (.long y13), .second, .unset, .unset, .unset, .unset, .unset, .unset, .unset, .unset, .unset, .unset, .unset, .unset] [(.int x17)])) t
      refine XS.iconst X15.here hx rfl (hb hby at_47) ?_
      show Steps p.tables e below (T15.setTop (mkF m 48 #[.val (.long q1), .second, .val (.long q2), .second, .val (.long q3), .second, .val (.long q4), .second, .val (.int p5), .val (.long y1), .second, .val (.ref b3), .val (.long y1), .second, .val (.long y13), .second, .unset, .unset, .unset, .unset, .unset, .unset, .unset, .unset, .unset, .unset, .unset, .unset] [(.int (1 : Int32)), (.int x17)])) t
      refine XS.goto X15.here hx rfl (pc0 := 48) (pc' := 52) rfl (hb hby at_48) (by decide) (by decide) ?_
      exact k
  obtain ⟨v23, hv23, P24⟩ : ∃ (v23 : Int32), v23 = (if x17 = v20 then (1 : Int32) else (0 : Int32)) ∧ Rch p e below (s₁.setTop (entryFrame m #[(.long q1), (.long q2), (.long q3), (.long q4), (.int p5)] maxLocals)) (T15.setTop (mkF m 60 #[.val (.long q1), .second, .val (.long q2), .second, .val (.long q3), .second, .val (.long q4), .second, .val (.int p5), .val (.long y1), .second, .val (.ref b3), .val (.long y1), .second, .val (.long y13), .second, .unset, .unset, .unset, .unset, .unset, .unset, .unset, .unset, .unset, .unset, .unset, .unset] [(.int v23)])) := by
    by_cases c22 : x17 = v20
    · refine ⟨(1 : Int32), (by first | rfl | rw [if_pos c22] | simp only [if_pos c22]), fun t k => P21 t ?_⟩
      show Steps p.tables e below (T15.setTop (mkF m 52 #[.val (.long q1), .second, .val (.long q2), .second, .val (.long q3), .second, .val (.long q4), .second, .val (.int p5), .val (.long y1), .second, .val (.ref b3), .val (.long y1), .second, .val (.long y13), .second, .unset, .unset, .unset, .unset, .unset, .unset, .unset, .unset, .unset, .unset, .unset, .unset] [(.int v20), (.int x17)])) t
      refine XS.icmpNo X15.here hx rfl (hb hby at_52) rfl (teq c22).2 ?_
      show Steps p.tables e below (T15.setTop (mkF m 55 #[.val (.long q1), .second, .val (.long q2), .second, .val (.long q3), .second, .val (.long q4), .second, .val (.int p5), .val (.long y1), .second, .val (.ref b3), .val (.long y1), .second, .val (.long y13), .second, .unset, .unset, .unset, .unset, .unset, .unset, .unset, .unset, .unset, .unset, .unset, .unset] [])) t
      refine XS.iconst X15.here hx rfl (hb hby at_55) ?_
      show Steps p.tables e below (T15.setTop (mkF m 56 #[.val (.long q1), .second, .val (.long q2), .second, .val (.long q3), .second, .val (.long q4), .second, .val (.int p5), .val (.long y1), .second, .val (.ref b3), .val (.long y1), .second, .val (.long y13), .second, .unset, .unset, .unset, .unset, .unset, .unset, .unset, .unset, .unset, .unset, .unset, .unset] [(.int (1 : Int32))])) t
      refine XS.goto X15.here hx rfl (pc0 := 56) (pc' := 60) rfl (hb hby at_56) (by decide) (by decide) ?_
      exact k
    · refine ⟨(0 : Int32), (by first | rfl | rw [if_neg c22] | simp only [if_neg c22]), fun t k => P21 t ?_⟩
      show Steps p.tables e below (T15.setTop (mkF m 52 #[.val (.long q1), .second, .val (.long q2), .second, .val (.long q3), .second, .val (.long q4), .second, .val (.int p5), .val (.long y1), .second, .val (.ref b3), .val (.long y1), .second, .val (.long y13), .second, .unset, .unset, .unset, .unset, .unset, .unset, .unset, .unset, .unset, .unset, .unset, .unset] [(.int v20), (.int x17)])) t
      refine XS.icmpYes X15.here hx rfl (pc0 := 52) (pc' := 59) rfl (hb hby at_52) rfl (feq c22).2 (by decide) (by decide) ?_
      show Steps p.tables e below (T15.setTop (mkF m 59 #[.val (.long q1), .second, .val (.long q2), .second, .val (.long q3), .second, .val (.long q4), .second, .val (.int p5), .val (.long y1), .second, .val (.ref b3), .val (.long y1), .second, .val (.long y13), .second, .unset, .unset, .unset, .unset, .unset, .unset, .unset, .unset, .unset, .unset, .unset, .unset] [])) t
      refine XS.iconst X15.here hx rfl (hb hby at_59) ?_
      exact k
  have P25 : Rch p e below (s₁.setTop (entryFrame m #[(.long q1), (.long q2), (.long q3), (.long q4), (.int p5)] maxLocals)) (T15.setTop (mkF m 66 #[.val (.long q1), .second, .val (.long q2), .second, .val (.long q3), .second, .val (.long q4), .second, .val (.int p5), .val (.long y1), .second, .val (.ref b3), .val (.long y1), .second, .val (.long y13), .second, .val (.int v23), .unset, .unset, .unset, .unset, .unset, .unset, .unset, .unset, .unset, .unset, .unset] [(.long y13), (.long y1)])) := fun t k => P24 t (by
    show Steps p.tables e below (T15.setTop (mkF m 60 #[.val (.long q1), .second, .val (.long q2), .second, .val (.long q3), .second, .val (.long q4), .second, .val (.int p5), .val (.long y1), .second, .val (.ref b3), .val (.long y1), .second, .val (.long y13), .second, .unset, .unset, .unset, .unset, .unset, .unset, .unset, .unset, .unset, .unset, .unset, .unset] [(.int v23)])) t
    refine XS.istore X15.here hx rfl (hb hby at_60) rfl (l' := #[.val (.long q1), .second, .val (.long q2), .second, .val (.long q3), .second, .val (.long q4), .second, .val (.int p5), .val (.long y1), .second, .val (.ref b3), .val (.long y1), .second, .val (.long y13), .second, .val (.int v23), .unset, .unset, .unset, .unset, .unset, .unset, .unset, .unset, .unset, .unset, .unset]) rfl ?_
    show Steps p.tables e below (T15.setTop (mkF m 62 #[.val (.long q1), .second, .val (.long q2), .second, .val (.long q3), .second, .val (.long q4), .second, .val (.int p5), .val (.long y1), .second, .val (.ref b3), .val (.long y1), .second, .val (.long y13), .second, .val (.int v23), .unset, .unset, .unset, .unset, .unset, .unset, .unset, .unset, .unset, .unset, .unset] [])) t
    refine XS.lload X15.here hx rfl (hb hby at_62) rfl ?_
    show Steps p.tables e below (T15.setTop (mkF m 64 #[.val (.long q1), .second, .val (.long q2), .second, .val (.long q3), .second, .val (.long q4), .second, .val (.int p5), .val (.long y1), .second, .val (.ref b3), .val (.long y1), .second, .val (.long y13), .second, .val (.int v23), .unset, .unset, .unset, .unset, .unset, .unset, .unset, .unset, .unset, .unset, .unset] [(.long y1)])) t
    refine XS.lload X15.here hx rfl (hb hby at_64) rfl ?_
    exact k)
  have f27 : n0 ≤ T15.heap.size := (Nat.le_trans f11 K15.1)
  obtain ⟨_, _, ⟨T26, L26, k26, n26⟩, -, X26, ⟨Lc26, hQ26, l26, y26, z26⟩, st26⟩ := Jvm.LawKit.callS X15 hx (y := (⟨"com/example/rapid_pdp/rapidpdp/engine/BudgetSpendPinLaw", "after", "(JJ)J"⟩ : MethodName)) hown (mvT hZ (hw _ (List.mem_of_getElem? (i := 23) rfl))) (mvT hZ (hw _ (List.mem_of_getElem? (i := 24) rfl))) (mvT hZ (hw _ (List.mem_of_getElem? (i := 16) rfl))) (mvT hZ (hw _ (List.mem_of_getElem? (i := 25) rfl))) (by decide) (backOf (W := 0) (rmA l Z a0 hw [] y1 y13 T15.heap n0 f27 ) hZ (hw _ (List.mem_of_getElem? (i := 25) rfl)) (hw _ (List.mem_of_getElem? (i := 16) rfl)) (by decide) (by decide)) (g := (mkF m 66 #[.val (.long q1), .second, .val (.long q2), .second, .val (.long q3), .second, .val (.long q4), .second, .val (.int p5), .val (.long y1), .second, .val (.ref b3), .val (.long y1), .second, .val (.long y13), .second, .val (.int v23), .unset, .unset, .unset, .unset, .unset, .unset, .unset, .unset, .unset, .unset, .unset] [(.long y13), (.long y1)])) rfl (by rw [hml]; rfl) (argsL := [(.long y1), (.long y13)]) (rest := []) (lenOf pd_3 rfl) rfl (by show 2 * 0 + _ ≤ _; exact Nat.le_of_eq rfl) (hb hby at_66) (fun _ _ => ⟨rfl, rfl, (by decide : 1 + 0 ≤ _), (by decide : 2 + 0 ≤ _)⟩)
  dsimp only [Pt.U, Pt.locs, Pt.cells, Pt.slots] at X26 l26 y26 z26 st26 hQ26
  subst l26 y26 z26
  obtain ⟨rfl, N26q, e26⟩ := hQ26
  have N26 := Fr.app N15 N26q
  have P28 : Rch p e below (s₁.setTop (entryFrame m #[(.long q1), (.long q2), (.long q3), (.long q4), (.int p5)] maxLocals)) (T26.setTop (mkF m 69 #[.val (.long q1), .second, .val (.long q2), .second, .val (.long q3), .second, .val (.long q4), .second, .val (.int p5), .val (.long y1), .second, .val (.ref b3), .val (.long y1), .second, .val (.long y13), .second, .val (.int v23), .unset, .unset, .unset, .unset, .unset, .unset, .unset, .unset, .unset, .unset, .unset] [(.long (own_after y1 y13))])) := fun t k => P25 t (st26 t k)
  obtain ⟨y29, hy29⟩ : ∃ z : Int64, z = (own_after y1 y13) := ⟨_, rfl⟩
  rw [← hy29] at P28
  obtain ⟨x30, hx30⟩ : ∃ z : Int32, z = ((p5.toUInt32 >>> ((2 : Int32) &&& 31).toUInt32).toInt32) := ⟨_, rfl⟩
  have P31 : Rch p e below (s₁.setTop (entryFrame m #[(.long q1), (.long q2), (.long q3), (.long q4), (.int p5)] maxLocals)) (T26.setTop (mkF m 79 #[.val (.long q1), .second, .val (.long q2), .second, .val (.long q3), .second, .val (.long q4), .second, .val (.int p5), .val (.long y1), .second, .val (.ref b3), .val (.long y1), .second, .val (.long y13), .second, .val (.int v23), .val (.long y29), .second, .unset, .unset, .unset, .unset, .unset, .unset, .unset, .unset, .unset] [(.int x30), (.long q3), (.long y29)])) := fun t k => P28 t (by
    subst hx30
    show Steps p.tables e below (T26.setTop (mkF m 69 #[.val (.long q1), .second, .val (.long q2), .second, .val (.long q3), .second, .val (.long q4), .second, .val (.int p5), .val (.long y1), .second, .val (.ref b3), .val (.long y1), .second, .val (.long y13), .second, .val (.int v23), .unset, .unset, .unset, .unset, .unset, .unset, .unset, .unset, .unset, .unset, .unset] [(.long y29)])) t
    refine XS.lstore X26.here hx rfl (hb hby at_69) rfl (l' := #[.val (.long q1), .second, .val (.long q2), .second, .val (.long q3), .second, .val (.long q4), .second, .val (.int p5), .val (.long y1), .second, .val (.ref b3), .val (.long y1), .second, .val (.long y13), .second, .val (.int v23), .val (.long y29), .second, .unset, .unset, .unset, .unset, .unset, .unset, .unset, .unset, .unset]) rfl ?_
    show Steps p.tables e below (T26.setTop (mkF m 71 #[.val (.long q1), .second, .val (.long q2), .second, .val (.long q3), .second, .val (.long q4), .second, .val (.int p5), .val (.long y1), .second, .val (.ref b3), .val (.long y1), .second, .val (.long y13), .second, .val (.int v23), .val (.long y29), .second, .unset, .unset, .unset, .unset, .unset, .unset, .unset, .unset, .unset] [])) t
    refine XS.lload X26.here hx rfl (hb hby at_71) rfl ?_
    show Steps p.tables e below (T26.setTop (mkF m 73 #[.val (.long q1), .second, .val (.long q2), .second, .val (.long q3), .second, .val (.long q4), .second, .val (.int p5), .val (.long y1), .second, .val (.ref b3), .val (.long y1), .second, .val (.long y13), .second, .val (.int v23), .val (.long y29), .second, .unset, .unset, .unset, .unset, .unset, .unset, .unset, .unset, .unset] [(.long y29)])) t
    refine XS.lload X26.here hx rfl (hb hby at_73) rfl ?_
    show Steps p.tables e below (T26.setTop (mkF m 75 #[.val (.long q1), .second, .val (.long q2), .second, .val (.long q3), .second, .val (.long q4), .second, .val (.int p5), .val (.long y1), .second, .val (.ref b3), .val (.long y1), .second, .val (.long y13), .second, .val (.int v23), .val (.long y29), .second, .unset, .unset, .unset, .unset, .unset, .unset, .unset, .unset, .unset] [(.long q3), (.long y29)])) t
    refine XS.iload X26.here hx rfl (hb hby at_75) rfl ?_
    show Steps p.tables e below (T26.setTop (mkF m 77 #[.val (.long q1), .second, .val (.long q2), .second, .val (.long q3), .second, .val (.long q4), .second, .val (.int p5), .val (.long y1), .second, .val (.ref b3), .val (.long y1), .second, .val (.long y13), .second, .val (.int v23), .val (.long y29), .second, .unset, .unset, .unset, .unset, .unset, .unset, .unset, .unset, .unset] [(.int p5), (.long q3), (.long y29)])) t
    refine XS.iconst X26.here hx rfl (hb hby at_77) ?_
    show Steps p.tables e below (T26.setTop (mkF m 78 #[.val (.long q1), .second, .val (.long q2), .second, .val (.long q3), .second, .val (.long q4), .second, .val (.int p5), .val (.long y1), .second, .val (.ref b3), .val (.long y1), .second, .val (.long y13), .second, .val (.int v23), .val (.long y29), .second, .unset, .unset, .unset, .unset, .unset, .unset, .unset, .unset, .unset] [(.int (2 : Int32)), (.int p5), (.long q3), (.long y29)])) t
    refine XS.iushr X26.here hx rfl (hb hby at_78) rfl ?_
    exact k)
  obtain ⟨_, _, ⟨T32, L32, k32, n32⟩, -, X32, ⟨Lc32, hQ32, l32, y32, z32⟩, st32⟩ := Jvm.LawKit.callS X26 hx (y := (⟨"com/example/rapid_pdp/rapidpdp/engine/BudgetSpendPinLaw", "pick", "(JJI)J"⟩ : MethodName)) hown (mvT hZ (hw _ (List.mem_of_getElem? (i := 14) rfl))) (mvT hZ (hw _ (List.mem_of_getElem? (i := 15) rfl))) (mvT hZ (hw _ (List.mem_of_getElem? (i := 16) rfl))) (mvT hZ (hw _ (List.mem_of_getElem? (i := 17) rfl))) (by decide) (backOf (W := 0) (rmP l Z a0 hw [] y29 q3 x30 T15.heap n0 f27 ) hZ (hw _ (List.mem_of_getElem? (i := 17) rfl)) (hw _ (List.mem_of_getElem? (i := 16) rfl)) (by decide) (by decide)) (g := (mkF m 79 #[.val (.long q1), .second, .val (.long q2), .second, .val (.long q3), .second, .val (.long q4), .second, .val (.int p5), .val (.long y1), .second, .val (.ref b3), .val (.long y1), .second, .val (.long y13), .second, .val (.int v23), .val (.long y29), .second, .unset, .unset, .unset, .unset, .unset, .unset, .unset, .unset, .unset] [(.int x30), (.long q3), (.long y29)])) rfl (by rw [hml]; rfl) (argsL := [(.long y29), (.long q3), (.int x30)]) (rest := []) (lenOf pd_1 rfl) rfl (by show 2 * 0 + _ ≤ _; exact Nat.le_of_eq rfl) (hb hby at_79) (fun _ _ => ⟨rfl, e26, (by decide : 1 + 0 ≤ _), (by decide : 2 + 0 ≤ _)⟩)
  dsimp only [Pt.U, Pt.locs, Pt.cells, Pt.slots] at X32 l32 y32 z32 st32 hQ32
  subst l32 y32 z32
  obtain ⟨rfl, N32q, e32⟩ := hQ32
  have N32 := Fr.app N26 N32q
  have P33 : Rch p e below (s₁.setTop (entryFrame m #[(.long q1), (.long q2), (.long q3), (.long q4), (.int p5)] maxLocals)) (T32.setTop (mkF m 82 #[.val (.long q1), .second, .val (.long q2), .second, .val (.long q3), .second, .val (.long q4), .second, .val (.int p5), .val (.long y1), .second, .val (.ref b3), .val (.long y1), .second, .val (.long y13), .second, .val (.int v23), .val (.long y29), .second, .unset, .unset, .unset, .unset, .unset, .unset, .unset, .unset, .unset] [(.long (own_pick y29 q3 x30))])) := fun t k => P31 t (st32 t k)
  obtain ⟨y34, hy34⟩ : ∃ z : Int64, z = (own_pick y29 q3 x30) := ⟨_, rfl⟩
  rw [← hy34] at P33
  have P35 : Rch p e below (s₁.setTop (entryFrame m #[(.long q1), (.long q2), (.long q3), (.long q4), (.int p5)] maxLocals)) (T32.setTop (mkF m 88 #[.val (.long q1), .second, .val (.long q2), .second, .val (.long q3), .second, .val (.long q4), .second, .val (.int p5), .val (.long y1), .second, .val (.ref b3), .val (.long y1), .second, .val (.long y13), .second, .val (.int v23), .val (.long y29), .second, .val (.long y34), .second, .unset, .unset, .unset, .unset, .unset, .unset, .unset] [(.long y34), (.ref b3)])) := fun t k => P33 t (by
    show Steps p.tables e below (T32.setTop (mkF m 82 #[.val (.long q1), .second, .val (.long q2), .second, .val (.long q3), .second, .val (.long q4), .second, .val (.int p5), .val (.long y1), .second, .val (.ref b3), .val (.long y1), .second, .val (.long y13), .second, .val (.int v23), .val (.long y29), .second, .unset, .unset, .unset, .unset, .unset, .unset, .unset, .unset, .unset] [(.long y34)])) t
    refine XS.lstore X32.here hx rfl (hb hby at_82) rfl (l' := #[.val (.long q1), .second, .val (.long q2), .second, .val (.long q3), .second, .val (.long q4), .second, .val (.int p5), .val (.long y1), .second, .val (.ref b3), .val (.long y1), .second, .val (.long y13), .second, .val (.int v23), .val (.long y29), .second, .val (.long y34), .second, .unset, .unset, .unset, .unset, .unset, .unset, .unset]) rfl ?_
    show Steps p.tables e below (T32.setTop (mkF m 84 #[.val (.long q1), .second, .val (.long q2), .second, .val (.long q3), .second, .val (.long q4), .second, .val (.int p5), .val (.long y1), .second, .val (.ref b3), .val (.long y1), .second, .val (.long y13), .second, .val (.int v23), .val (.long y29), .second, .val (.long y34), .second, .unset, .unset, .unset, .unset, .unset, .unset, .unset] [])) t
    refine XS.aload X32.here hx rfl (hb hby at_84) rfl rfl ?_
    show Steps p.tables e below (T32.setTop (mkF m 86 #[.val (.long q1), .second, .val (.long q2), .second, .val (.long q3), .second, .val (.long q4), .second, .val (.int p5), .val (.long y1), .second, .val (.ref b3), .val (.long y1), .second, .val (.long y13), .second, .val (.int v23), .val (.long y29), .second, .val (.long y34), .second, .unset, .unset, .unset, .unset, .unset, .unset, .unset] [(.ref b3)])) t
    refine XS.lload X32.here hx rfl (hb hby at_86) rfl ?_
    exact k)
  obtain ⟨cq36, kq36, q36a, q36b, q36c⟩ := isOf hZ e32 E_15
  obtain ⟨_, _, ⟨T36, L36, k36, n36⟩, -, X36, ⟨Lc36, hQ36, l36, y36, z36⟩, st36⟩ := X32.virtualBack hx (y := (⟨"com/example/rapid_pdp/rapidpdp/engine/Budget", "spend", "(J)Z"⟩ : MethodName)) (z := (⟨"com/example/rapid_pdp/rapidpdp/engine/Budget", "spend", "(J)Z"⟩ : MethodName)) hown (mvT hZ (hw _ (List.mem_of_getElem? (i := 18) rfl))) (mvT hZ (hw _ (List.mem_of_getElem? (i := 19) rfl))) (notFace_of_selects (args := #[]) (mvT hZ (hw _ (List.mem_of_getElem? (i := 21) rfl)))) (mvT hZ (hw _ (List.mem_of_getElem? (i := 21) rfl))) (mvT hZ (hw _ (List.mem_of_getElem? (i := 20) rfl))) (by decide) (backOf (W := 0) (rmS l Z a0 hw [] b3 y34 (own_after y1 y13) y1 T15.heap n0 f27 E_15 g_b3 G_15 G2_15) hZ (hw _ (List.mem_of_getElem? (i := 22) rfl)) (hw _ (List.mem_of_getElem? (i := 3) rfl)) (by decide) (by decide)) q36a q36c (g := (mkF m 88 #[.val (.long q1), .second, .val (.long q2), .second, .val (.long q3), .second, .val (.long q4), .second, .val (.int p5), .val (.long y1), .second, .val (.ref b3), .val (.long y1), .second, .val (.long y13), .second, .val (.int v23), .val (.long y29), .second, .val (.long y34), .second, .unset, .unset, .unset, .unset, .unset, .unset, .unset] [(.long y34), (.ref b3)])) rfl (by rw [hml]; rfl) (Steps.refl _) (argsL := [(.long y34)]) (rest := []) (lenOf pd_2 rfl) rfl (by show 2 * 0 + _ ≤ _; exact Nat.le_of_eq rfl) (hb hby at_88) (fun _ _ => ⟨rfl, e32, (by decide : 1 + 0 ≤ _), (by decide : 2 + 0 ≤ _)⟩)
  dsimp only [Pt.U, Pt.locs, Pt.cells, Pt.slots] at X36 l36 y36 z36 st36 hQ36
  subst l36 y36 z36
  obtain ⟨rfl, N36q, K36, E_36, G_36, G2_36⟩ := hQ36
  have N36 := Fr.app N32 N36q
  have P37 : Rch p e below (s₁.setTop (entryFrame m #[(.long q1), (.long q2), (.long q3), (.long q4), (.int p5)] maxLocals)) (T36.setTop (mkF m 91 #[.val (.long q1), .second, .val (.long q2), .second, .val (.long q3), .second, .val (.long q4), .second, .val (.int p5), .val (.long y1), .second, .val (.ref b3), .val (.long y1), .second, .val (.long y13), .second, .val (.int v23), .val (.long y29), .second, .val (.long y34), .second, .unset, .unset, .unset, .unset, .unset, .unset, .unset] [(.int (own_ge (own_after y1 y13) y34))])) := fun t k => P35 t (st36.trans k)
  obtain ⟨x38, hx38⟩ : ∃ z : Int32, z = (own_ge (own_after y1 y13) y34) := ⟨_, rfl⟩
  rw [← hx38] at P37
  have P39 : Rch p e below (s₁.setTop (entryFrame m #[(.long q1), (.long q2), (.long q3), (.long q4), (.int p5)] maxLocals)) (T36.setTop (mkF m 96 #[.val (.long q1), .second, .val (.long q2), .second, .val (.long q3), .second, .val (.long q4), .second, .val (.int p5), .val (.long y1), .second, .val (.ref b3), .val (.long y1), .second, .val (.long y13), .second, .val (.int v23), .val (.long y29), .second, .val (.long y34), .second, .unset, .unset, .unset, .unset, .unset, .unset, .unset] [(.int (lcmpW y29 y34)), (.int x38)])) := fun t k => P37 t (by
    show Steps p.tables e below (T36.setTop (mkF m 91 #[.val (.long q1), .second, .val (.long q2), .second, .val (.long q3), .second, .val (.long q4), .second, .val (.int p5), .val (.long y1), .second, .val (.ref b3), .val (.long y1), .second, .val (.long y13), .second, .val (.int v23), .val (.long y29), .second, .val (.long y34), .second, .unset, .unset, .unset, .unset, .unset, .unset, .unset] [(.int x38)])) t
    refine XS.lload X36.here hx rfl (hb hby at_91) rfl ?_
    show Steps p.tables e below (T36.setTop (mkF m 93 #[.val (.long q1), .second, .val (.long q2), .second, .val (.long q3), .second, .val (.long q4), .second, .val (.int p5), .val (.long y1), .second, .val (.ref b3), .val (.long y1), .second, .val (.long y13), .second, .val (.int v23), .val (.long y29), .second, .val (.long y34), .second, .unset, .unset, .unset, .unset, .unset, .unset, .unset] [(.long y29), (.int x38)])) t
    refine XS.lload X36.here hx rfl (hb hby at_93) rfl ?_
    show Steps p.tables e below (T36.setTop (mkF m 95 #[.val (.long q1), .second, .val (.long q2), .second, .val (.long q3), .second, .val (.long q4), .second, .val (.int p5), .val (.long y1), .second, .val (.ref b3), .val (.long y1), .second, .val (.long y13), .second, .val (.int v23), .val (.long y29), .second, .val (.long y34), .second, .unset, .unset, .unset, .unset, .unset, .unset, .unset] [(.long y34), (.long y29), (.int x38)])) t
    refine XS.lcmp X36.here hx rfl (hb hby at_95) rfl ?_
    exact k)
  obtain ⟨v41, hv41, P42⟩ : ∃ (v41 : Int32), v41 = (if y29 < y34 then (0 : Int32) else (1 : Int32)) ∧ Rch p e below (s₁.setTop (entryFrame m #[(.long q1), (.long q2), (.long q3), (.long q4), (.int p5)] maxLocals)) (T36.setTop (mkF m 104 #[.val (.long q1), .second, .val (.long q2), .second, .val (.long q3), .second, .val (.long q4), .second, .val (.int p5), .val (.long y1), .second, .val (.ref b3), .val (.long y1), .second, .val (.long y13), .second, .val (.int v23), .val (.long y29), .second, .val (.long y34), .second, .unset, .unset, .unset, .unset, .unset, .unset, .unset] [(.int v41), (.int x38)])) := by
    by_cases c40 : y29 < y34
    · refine ⟨(0 : Int32), (by first | rfl | rw [if_pos c40] | simp only [if_pos c40]), fun t k => P39 t ?_⟩
      show Steps p.tables e below (T36.setTop (mkF m 96 #[.val (.long q1), .second, .val (.long q2), .second, .val (.long q3), .second, .val (.long q4), .second, .val (.int p5), .val (.long y1), .second, .val (.ref b3), .val (.long y1), .second, .val (.long y13), .second, .val (.int v23), .val (.long y29), .second, .val (.long y34), .second, .unset, .unset, .unset, .unset, .unset, .unset, .unset] [(.int (lcmpW y29 y34)), (.int x38)])) t
      refine XS.ifYes X36.here hx rfl (pc0 := 96) (pc' := 103) rfl (hb hby at_96) rfl ((if0 _ _).trans (tlt ((lw_lt y29 y34).mpr c40)).1) (by decide) (by decide) ?_
      show Steps p.tables e below (T36.setTop (mkF m 103 #[.val (.long q1), .second, .val (.long q2), .second, .val (.long q3), .second, .val (.long q4), .second, .val (.int p5), .val (.long y1), .second, .val (.ref b3), .val (.long y1), .second, .val (.long y13), .second, .val (.int v23), .val (.long y29), .second, .val (.long y34), .second, .unset, .unset, .unset, .unset, .unset, .unset, .unset] [(.int x38)])) t
      refine XS.iconst X36.here hx rfl (hb hby at_103) ?_
      exact k
    · refine ⟨(1 : Int32), (by first | rfl | rw [if_neg c40] | simp only [if_neg c40]), fun t k => P39 t ?_⟩
      show Steps p.tables e below (T36.setTop (mkF m 96 #[.val (.long q1), .second, .val (.long q2), .second, .val (.long q3), .second, .val (.long q4), .second, .val (.int p5), .val (.long y1), .second, .val (.ref b3), .val (.long y1), .second, .val (.long y13), .second, .val (.int v23), .val (.long y29), .second, .val (.long y34), .second, .unset, .unset, .unset, .unset, .unset, .unset, .unset] [(.int (lcmpW y29 y34)), (.int x38)])) t
      refine XS.ifNo X36.here hx rfl (hb hby at_96) rfl ((if0 _ _).trans (flt (fun q_ => c40 ((lw_lt y29 y34).mp q_))).1) ?_
      show Steps p.tables e below (T36.setTop (mkF m 99 #[.val (.long q1), .second, .val (.long q2), .second, .val (.long q3), .second, .val (.long q4), .second, .val (.int p5), .val (.long y1), .second, .val (.ref b3), .val (.long y1), .second, .val (.long y13), .second, .val (.int v23), .val (.long y29), .second, .val (.long y34), .second, .unset, .unset, .unset, .unset, .unset, .unset, .unset] [(.int x38)])) t
      refine XS.iconst X36.here hx rfl (hb hby at_99) ?_
      show Steps p.tables e below (T36.setTop (mkF m 100 #[.val (.long q1), .second, .val (.long q2), .second, .val (.long q3), .second, .val (.long q4), .second, .val (.int p5), .val (.long y1), .second, .val (.ref b3), .val (.long y1), .second, .val (.long y13), .second, .val (.int v23), .val (.long y29), .second, .val (.long y34), .second, .unset, .unset, .unset, .unset, .unset, .unset, .unset] [(.int (1 : Int32)), (.int x38)])) t
      refine XS.goto X36.here hx rfl (pc0 := 100) (pc' := 104) rfl (hb hby at_100) (by decide) (by decide) ?_
      exact k
  obtain ⟨v44, hv44, P45⟩ : ∃ (v44 : Int32), v44 = (if x38 = v41 then (1 : Int32) else (0 : Int32)) ∧ Rch p e below (s₁.setTop (entryFrame m #[(.long q1), (.long q2), (.long q3), (.long q4), (.int p5)] maxLocals)) (T36.setTop (mkF m 112 #[.val (.long q1), .second, .val (.long q2), .second, .val (.long q3), .second, .val (.long q4), .second, .val (.int p5), .val (.long y1), .second, .val (.ref b3), .val (.long y1), .second, .val (.long y13), .second, .val (.int v23), .val (.long y29), .second, .val (.long y34), .second, .unset, .unset, .unset, .unset, .unset, .unset, .unset] [(.int v44)])) := by
    by_cases c43 : x38 = v41
    · refine ⟨(1 : Int32), (by first | rfl | rw [if_pos c43] | simp only [if_pos c43]), fun t k => P42 t ?_⟩
      show Steps p.tables e below (T36.setTop (mkF m 104 #[.val (.long q1), .second, .val (.long q2), .second, .val (.long q3), .second, .val (.long q4), .second, .val (.int p5), .val (.long y1), .second, .val (.ref b3), .val (.long y1), .second, .val (.long y13), .second, .val (.int v23), .val (.long y29), .second, .val (.long y34), .second, .unset, .unset, .unset, .unset, .unset, .unset, .unset] [(.int v41), (.int x38)])) t
      refine XS.icmpNo X36.here hx rfl (hb hby at_104) rfl (teq c43).2 ?_
      show Steps p.tables e below (T36.setTop (mkF m 107 #[.val (.long q1), .second, .val (.long q2), .second, .val (.long q3), .second, .val (.long q4), .second, .val (.int p5), .val (.long y1), .second, .val (.ref b3), .val (.long y1), .second, .val (.long y13), .second, .val (.int v23), .val (.long y29), .second, .val (.long y34), .second, .unset, .unset, .unset, .unset, .unset, .unset, .unset] [])) t
      refine XS.iconst X36.here hx rfl (hb hby at_107) ?_
      show Steps p.tables e below (T36.setTop (mkF m 108 #[.val (.long q1), .second, .val (.long q2), .second, .val (.long q3), .second, .val (.long q4), .second, .val (.int p5), .val (.long y1), .second, .val (.ref b3), .val (.long y1), .second, .val (.long y13), .second, .val (.int v23), .val (.long y29), .second, .val (.long y34), .second, .unset, .unset, .unset, .unset, .unset, .unset, .unset] [(.int (1 : Int32))])) t
      refine XS.goto X36.here hx rfl (pc0 := 108) (pc' := 112) rfl (hb hby at_108) (by decide) (by decide) ?_
      exact k
    · refine ⟨(0 : Int32), (by first | rfl | rw [if_neg c43] | simp only [if_neg c43]), fun t k => P42 t ?_⟩
      show Steps p.tables e below (T36.setTop (mkF m 104 #[.val (.long q1), .second, .val (.long q2), .second, .val (.long q3), .second, .val (.long q4), .second, .val (.int p5), .val (.long y1), .second, .val (.ref b3), .val (.long y1), .second, .val (.long y13), .second, .val (.int v23), .val (.long y29), .second, .val (.long y34), .second, .unset, .unset, .unset, .unset, .unset, .unset, .unset] [(.int v41), (.int x38)])) t
      refine XS.icmpYes X36.here hx rfl (pc0 := 104) (pc' := 111) rfl (hb hby at_104) rfl (feq c43).2 (by decide) (by decide) ?_
      show Steps p.tables e below (T36.setTop (mkF m 111 #[.val (.long q1), .second, .val (.long q2), .second, .val (.long q3), .second, .val (.long q4), .second, .val (.int p5), .val (.long y1), .second, .val (.ref b3), .val (.long y1), .second, .val (.long y13), .second, .val (.int v23), .val (.long y29), .second, .val (.long y34), .second, .unset, .unset, .unset, .unset, .unset, .unset, .unset] [])) t
      refine XS.iconst X36.here hx rfl (hb hby at_111) ?_
      exact k
  have P46 : Rch p e below (s₁.setTop (entryFrame m #[(.long q1), (.long q2), (.long q3), (.long q4), (.int p5)] maxLocals)) (T36.setTop (mkF m 118 #[.val (.long q1), .second, .val (.long q2), .second, .val (.long q3), .second, .val (.long q4), .second, .val (.int p5), .val (.long y1), .second, .val (.ref b3), .val (.long y1), .second, .val (.long y13), .second, .val (.int v23), .val (.long y29), .second, .val (.long y34), .second, .val (.int v44), .unset, .unset, .unset, .unset, .unset, .unset] [(.long y34), (.long y29)])) := fun t k => P45 t (by
    show Steps p.tables e below (T36.setTop (mkF m 112 #[.val (.long q1), .second, .val (.long q2), .second, .val (.long q3), .second, .val (.long q4), .second, .val (.int p5), .val (.long y1), .second, .val (.ref b3), .val (.long y1), .second, .val (.long y13), .second, .val (.int v23), .val (.long y29), .second, .val (.long y34), .second, .unset, .unset, .unset, .unset, .unset, .unset, .unset] [(.int v44)])) t
    refine XS.istore X36.here hx rfl (hb hby at_112) rfl (l' := #[.val (.long q1), .second, .val (.long q2), .second, .val (.long q3), .second, .val (.long q4), .second, .val (.int p5), .val (.long y1), .second, .val (.ref b3), .val (.long y1), .second, .val (.long y13), .second, .val (.int v23), .val (.long y29), .second, .val (.long y34), .second, .val (.int v44), .unset, .unset, .unset, .unset, .unset, .unset]) rfl ?_
    show Steps p.tables e below (T36.setTop (mkF m 114 #[.val (.long q1), .second, .val (.long q2), .second, .val (.long q3), .second, .val (.long q4), .second, .val (.int p5), .val (.long y1), .second, .val (.ref b3), .val (.long y1), .second, .val (.long y13), .second, .val (.int v23), .val (.long y29), .second, .val (.long y34), .second, .val (.int v44), .unset, .unset, .unset, .unset, .unset, .unset] [])) t
    refine XS.lload X36.here hx rfl (hb hby at_114) rfl ?_
    show Steps p.tables e below (T36.setTop (mkF m 116 #[.val (.long q1), .second, .val (.long q2), .second, .val (.long q3), .second, .val (.long q4), .second, .val (.int p5), .val (.long y1), .second, .val (.ref b3), .val (.long y1), .second, .val (.long y13), .second, .val (.int v23), .val (.long y29), .second, .val (.long y34), .second, .val (.int v44), .unset, .unset, .unset, .unset, .unset, .unset] [(.long y29)])) t
    refine XS.lload X36.here hx rfl (hb hby at_116) rfl ?_
    exact k)
  have f48 : n0 ≤ T36.heap.size := (Nat.le_trans f27 K36.1)
  obtain ⟨_, _, ⟨T47, L47, k47, n47⟩, -, X47, ⟨Lc47, hQ47, l47, y47, z47⟩, st47⟩ := Jvm.LawKit.callS X36 hx (y := (⟨"com/example/rapid_pdp/rapidpdp/engine/BudgetSpendPinLaw", "after", "(JJ)J"⟩ : MethodName)) hown (mvT hZ (hw _ (List.mem_of_getElem? (i := 23) rfl))) (mvT hZ (hw _ (List.mem_of_getElem? (i := 24) rfl))) (mvT hZ (hw _ (List.mem_of_getElem? (i := 16) rfl))) (mvT hZ (hw _ (List.mem_of_getElem? (i := 25) rfl))) (by decide) (backOf (W := 0) (rmA l Z a0 hw [] y29 y34 T36.heap n0 f48 ) hZ (hw _ (List.mem_of_getElem? (i := 25) rfl)) (hw _ (List.mem_of_getElem? (i := 16) rfl)) (by decide) (by decide)) (g := (mkF m 118 #[.val (.long q1), .second, .val (.long q2), .second, .val (.long q3), .second, .val (.long q4), .second, .val (.int p5), .val (.long y1), .second, .val (.ref b3), .val (.long y1), .second, .val (.long y13), .second, .val (.int v23), .val (.long y29), .second, .val (.long y34), .second, .val (.int v44), .unset, .unset, .unset, .unset, .unset, .unset] [(.long y34), (.long y29)])) rfl (by rw [hml]; rfl) (argsL := [(.long y29), (.long y34)]) (rest := []) (lenOf pd_3 rfl) rfl (by show 2 * 0 + _ ≤ _; exact Nat.le_of_eq rfl) (hb hby at_118) (fun _ _ => ⟨rfl, rfl, (by decide : 1 + 0 ≤ _), (by decide : 2 + 0 ≤ _)⟩)
  dsimp only [Pt.U, Pt.locs, Pt.cells, Pt.slots] at X47 l47 y47 z47 st47 hQ47
  subst l47 y47 z47
  obtain ⟨rfl, N47q, e47⟩ := hQ47
  have N47 := Fr.app N36 N47q
  have P49 : Rch p e below (s₁.setTop (entryFrame m #[(.long q1), (.long q2), (.long q3), (.long q4), (.int p5)] maxLocals)) (T47.setTop (mkF m 121 #[.val (.long q1), .second, .val (.long q2), .second, .val (.long q3), .second, .val (.long q4), .second, .val (.int p5), .val (.long y1), .second, .val (.ref b3), .val (.long y1), .second, .val (.long y13), .second, .val (.int v23), .val (.long y29), .second, .val (.long y34), .second, .val (.int v44), .unset, .unset, .unset, .unset, .unset, .unset] [(.long (own_after y29 y34))])) := fun t k => P46 t (st47 t k)
  obtain ⟨y50, hy50⟩ : ∃ z : Int64, z = (own_after y29 y34) := ⟨_, rfl⟩
  rw [← hy50] at P49
  obtain ⟨x51, hx51⟩ : ∃ z : Int32, z = ((p5.toUInt32 >>> ((4 : Int32) &&& 31).toUInt32).toInt32) := ⟨_, rfl⟩
  have P52 : Rch p e below (s₁.setTop (entryFrame m #[(.long q1), (.long q2), (.long q3), (.long q4), (.int p5)] maxLocals)) (T47.setTop (mkF m 131 #[.val (.long q1), .second, .val (.long q2), .second, .val (.long q3), .second, .val (.long q4), .second, .val (.int p5), .val (.long y1), .second, .val (.ref b3), .val (.long y1), .second, .val (.long y13), .second, .val (.int v23), .val (.long y29), .second, .val (.long y34), .second, .val (.int v44), .val (.long y50), .second, .unset, .unset, .unset, .unset] [(.int x51), (.long q4), (.long y50)])) := fun t k => P49 t (by
    subst hx51
    show Steps p.tables e below (T47.setTop (mkF m 121 #[.val (.long q1), .second, .val (.long q2), .second, .val (.long q3), .second, .val (.long q4), .second, .val (.int p5), .val (.long y1), .second, .val (.ref b3), .val (.long y1), .second, .val (.long y13), .second, .val (.int v23), .val (.long y29), .second, .val (.long y34), .second, .val (.int v44), .unset, .unset, .unset, .unset, .unset, .unset] [(.long y50)])) t
    refine XS.lstore X47.here hx rfl (hb hby at_121) rfl (l' := #[.val (.long q1), .second, .val (.long q2), .second, .val (.long q3), .second, .val (.long q4), .second, .val (.int p5), .val (.long y1), .second, .val (.ref b3), .val (.long y1), .second, .val (.long y13), .second, .val (.int v23), .val (.long y29), .second, .val (.long y34), .second, .val (.int v44), .val (.long y50), .second, .unset, .unset, .unset, .unset]) rfl ?_
    show Steps p.tables e below (T47.setTop (mkF m 123 #[.val (.long q1), .second, .val (.long q2), .second, .val (.long q3), .second, .val (.long q4), .second, .val (.int p5), .val (.long y1), .second, .val (.ref b3), .val (.long y1), .second, .val (.long y13), .second, .val (.int v23), .val (.long y29), .second, .val (.long y34), .second, .val (.int v44), .val (.long y50), .second, .unset, .unset, .unset, .unset] [])) t
    refine XS.lload X47.here hx rfl (hb hby at_123) rfl ?_
    show Steps p.tables e below (T47.setTop (mkF m 125 #[.val (.long q1), .second, .val (.long q2), .second, .val (.long q3), .second, .val (.long q4), .second, .val (.int p5), .val (.long y1), .second, .val (.ref b3), .val (.long y1), .second, .val (.long y13), .second, .val (.int v23), .val (.long y29), .second, .val (.long y34), .second, .val (.int v44), .val (.long y50), .second, .unset, .unset, .unset, .unset] [(.long y50)])) t
    refine XS.lload X47.here hx rfl (hb hby at_125) rfl ?_
    show Steps p.tables e below (T47.setTop (mkF m 127 #[.val (.long q1), .second, .val (.long q2), .second, .val (.long q3), .second, .val (.long q4), .second, .val (.int p5), .val (.long y1), .second, .val (.ref b3), .val (.long y1), .second, .val (.long y13), .second, .val (.int v23), .val (.long y29), .second, .val (.long y34), .second, .val (.int v44), .val (.long y50), .second, .unset, .unset, .unset, .unset] [(.long q4), (.long y50)])) t
    refine XS.iload X47.here hx rfl (hb hby at_127) rfl ?_
    show Steps p.tables e below (T47.setTop (mkF m 129 #[.val (.long q1), .second, .val (.long q2), .second, .val (.long q3), .second, .val (.long q4), .second, .val (.int p5), .val (.long y1), .second, .val (.ref b3), .val (.long y1), .second, .val (.long y13), .second, .val (.int v23), .val (.long y29), .second, .val (.long y34), .second, .val (.int v44), .val (.long y50), .second, .unset, .unset, .unset, .unset] [(.int p5), (.long q4), (.long y50)])) t
    refine XS.iconst X47.here hx rfl (hb hby at_129) ?_
    show Steps p.tables e below (T47.setTop (mkF m 130 #[.val (.long q1), .second, .val (.long q2), .second, .val (.long q3), .second, .val (.long q4), .second, .val (.int p5), .val (.long y1), .second, .val (.ref b3), .val (.long y1), .second, .val (.long y13), .second, .val (.int v23), .val (.long y29), .second, .val (.long y34), .second, .val (.int v44), .val (.long y50), .second, .unset, .unset, .unset, .unset] [(.int (4 : Int32)), (.int p5), (.long q4), (.long y50)])) t
    refine XS.iushr X47.here hx rfl (hb hby at_130) rfl ?_
    exact k)
  obtain ⟨_, _, ⟨T53, L53, k53, n53⟩, -, X53, ⟨Lc53, hQ53, l53, y53, z53⟩, st53⟩ := Jvm.LawKit.callS X47 hx (y := (⟨"com/example/rapid_pdp/rapidpdp/engine/BudgetSpendPinLaw", "pick", "(JJI)J"⟩ : MethodName)) hown (mvT hZ (hw _ (List.mem_of_getElem? (i := 14) rfl))) (mvT hZ (hw _ (List.mem_of_getElem? (i := 15) rfl))) (mvT hZ (hw _ (List.mem_of_getElem? (i := 16) rfl))) (mvT hZ (hw _ (List.mem_of_getElem? (i := 17) rfl))) (by decide) (backOf (W := 0) (rmP l Z a0 hw [] y50 q4 x51 T36.heap n0 f48 ) hZ (hw _ (List.mem_of_getElem? (i := 17) rfl)) (hw _ (List.mem_of_getElem? (i := 16) rfl)) (by decide) (by decide)) (g := (mkF m 131 #[.val (.long q1), .second, .val (.long q2), .second, .val (.long q3), .second, .val (.long q4), .second, .val (.int p5), .val (.long y1), .second, .val (.ref b3), .val (.long y1), .second, .val (.long y13), .second, .val (.int v23), .val (.long y29), .second, .val (.long y34), .second, .val (.int v44), .val (.long y50), .second, .unset, .unset, .unset, .unset] [(.int x51), (.long q4), (.long y50)])) rfl (by rw [hml]; rfl) (argsL := [(.long y50), (.long q4), (.int x51)]) (rest := []) (lenOf pd_1 rfl) rfl (by show 2 * 0 + _ ≤ _; exact Nat.le_of_eq rfl) (hb hby at_131) (fun _ _ => ⟨rfl, e47, (by decide : 1 + 0 ≤ _), (by decide : 2 + 0 ≤ _)⟩)
  dsimp only [Pt.U, Pt.locs, Pt.cells, Pt.slots] at X53 l53 y53 z53 st53 hQ53
  subst l53 y53 z53
  obtain ⟨rfl, N53q, e53⟩ := hQ53
  have N53 := Fr.app N47 N53q
  have P54 : Rch p e below (s₁.setTop (entryFrame m #[(.long q1), (.long q2), (.long q3), (.long q4), (.int p5)] maxLocals)) (T53.setTop (mkF m 134 #[.val (.long q1), .second, .val (.long q2), .second, .val (.long q3), .second, .val (.long q4), .second, .val (.int p5), .val (.long y1), .second, .val (.ref b3), .val (.long y1), .second, .val (.long y13), .second, .val (.int v23), .val (.long y29), .second, .val (.long y34), .second, .val (.int v44), .val (.long y50), .second, .unset, .unset, .unset, .unset] [(.long (own_pick y50 q4 x51))])) := fun t k => P52 t (st53 t k)
  obtain ⟨y55, hy55⟩ : ∃ z : Int64, z = (own_pick y50 q4 x51) := ⟨_, rfl⟩
  rw [← hy55] at P54
  have P56 : Rch p e below (s₁.setTop (entryFrame m #[(.long q1), (.long q2), (.long q3), (.long q4), (.int p5)] maxLocals)) (T53.setTop (mkF m 140 #[.val (.long q1), .second, .val (.long q2), .second, .val (.long q3), .second, .val (.long q4), .second, .val (.int p5), .val (.long y1), .second, .val (.ref b3), .val (.long y1), .second, .val (.long y13), .second, .val (.int v23), .val (.long y29), .second, .val (.long y34), .second, .val (.int v44), .val (.long y50), .second, .val (.long y55), .second, .unset, .unset] [(.long y55), (.ref b3)])) := fun t k => P54 t (by
    show Steps p.tables e below (T53.setTop (mkF m 134 #[.val (.long q1), .second, .val (.long q2), .second, .val (.long q3), .second, .val (.long q4), .second, .val (.int p5), .val (.long y1), .second, .val (.ref b3), .val (.long y1), .second, .val (.long y13), .second, .val (.int v23), .val (.long y29), .second, .val (.long y34), .second, .val (.int v44), .val (.long y50), .second, .unset, .unset, .unset, .unset] [(.long y55)])) t
    refine XS.lstore X53.here hx rfl (hb hby at_134) rfl (l' := #[.val (.long q1), .second, .val (.long q2), .second, .val (.long q3), .second, .val (.long q4), .second, .val (.int p5), .val (.long y1), .second, .val (.ref b3), .val (.long y1), .second, .val (.long y13), .second, .val (.int v23), .val (.long y29), .second, .val (.long y34), .second, .val (.int v44), .val (.long y50), .second, .val (.long y55), .second, .unset, .unset]) rfl ?_
    show Steps p.tables e below (T53.setTop (mkF m 136 #[.val (.long q1), .second, .val (.long q2), .second, .val (.long q3), .second, .val (.long q4), .second, .val (.int p5), .val (.long y1), .second, .val (.ref b3), .val (.long y1), .second, .val (.long y13), .second, .val (.int v23), .val (.long y29), .second, .val (.long y34), .second, .val (.int v44), .val (.long y50), .second, .val (.long y55), .second, .unset, .unset] [])) t
    refine XS.aload X53.here hx rfl (hb hby at_136) rfl rfl ?_
    show Steps p.tables e below (T53.setTop (mkF m 138 #[.val (.long q1), .second, .val (.long q2), .second, .val (.long q3), .second, .val (.long q4), .second, .val (.int p5), .val (.long y1), .second, .val (.ref b3), .val (.long y1), .second, .val (.long y13), .second, .val (.int v23), .val (.long y29), .second, .val (.long y34), .second, .val (.int v44), .val (.long y50), .second, .val (.long y55), .second, .unset, .unset] [(.ref b3)])) t
    refine XS.lload X53.here hx rfl (hb hby at_138) rfl ?_
    exact k)
  obtain ⟨cq57, kq57, q57a, q57b, q57c⟩ := isOf hZ e53 E_36
  obtain ⟨_, _, ⟨T57, L57, k57, n57⟩, -, X57, ⟨Lc57, hQ57, l57, y57, z57⟩, st57⟩ := X53.virtualBack hx (y := (⟨"com/example/rapid_pdp/rapidpdp/engine/Budget", "spend", "(J)Z"⟩ : MethodName)) (z := (⟨"com/example/rapid_pdp/rapidpdp/engine/Budget", "spend", "(J)Z"⟩ : MethodName)) hown (mvT hZ (hw _ (List.mem_of_getElem? (i := 18) rfl))) (mvT hZ (hw _ (List.mem_of_getElem? (i := 19) rfl))) (notFace_of_selects (args := #[]) (mvT hZ (hw _ (List.mem_of_getElem? (i := 21) rfl)))) (mvT hZ (hw _ (List.mem_of_getElem? (i := 21) rfl))) (mvT hZ (hw _ (List.mem_of_getElem? (i := 20) rfl))) (by decide) (backOf (W := 0) (rmS l Z a0 hw [] b3 y55 (own_after (own_after y1 y13) y34) y1 T36.heap n0 f48 E_36 g_b3 G_36 G2_36) hZ (hw _ (List.mem_of_getElem? (i := 22) rfl)) (hw _ (List.mem_of_getElem? (i := 3) rfl)) (by decide) (by decide)) q57a q57c (g := (mkF m 140 #[.val (.long q1), .second, .val (.long q2), .second, .val (.long q3), .second, .val (.long q4), .second, .val (.int p5), .val (.long y1), .second, .val (.ref b3), .val (.long y1), .second, .val (.long y13), .second, .val (.int v23), .val (.long y29), .second, .val (.long y34), .second, .val (.int v44), .val (.long y50), .second, .val (.long y55), .second, .unset, .unset] [(.long y55), (.ref b3)])) rfl (by rw [hml]; rfl) (Steps.refl _) (argsL := [(.long y55)]) (rest := []) (lenOf pd_2 rfl) rfl (by show 2 * 0 + _ ≤ _; exact Nat.le_of_eq rfl) (hb hby at_140) (fun _ _ => ⟨rfl, e53, (by decide : 1 + 0 ≤ _), (by decide : 2 + 0 ≤ _)⟩)
  dsimp only [Pt.U, Pt.locs, Pt.cells, Pt.slots] at X57 l57 y57 z57 st57 hQ57
  subst l57 y57 z57
  obtain ⟨rfl, N57q, K57, E_57, G_57, G2_57⟩ := hQ57
  have N57 := Fr.app N53 N57q
  have P58 : Rch p e below (s₁.setTop (entryFrame m #[(.long q1), (.long q2), (.long q3), (.long q4), (.int p5)] maxLocals)) (T57.setTop (mkF m 143 #[.val (.long q1), .second, .val (.long q2), .second, .val (.long q3), .second, .val (.long q4), .second, .val (.int p5), .val (.long y1), .second, .val (.ref b3), .val (.long y1), .second, .val (.long y13), .second, .val (.int v23), .val (.long y29), .second, .val (.long y34), .second, .val (.int v44), .val (.long y50), .second, .val (.long y55), .second, .unset, .unset] [(.int (own_ge (own_after (own_after y1 y13) y34) y55))])) := fun t k => P56 t (st57.trans k)
  obtain ⟨x59, hx59⟩ : ∃ z : Int32, z = (own_ge (own_after (own_after y1 y13) y34) y55) := ⟨_, rfl⟩
  rw [← hx59] at P58
  have P60 : Rch p e below (s₁.setTop (entryFrame m #[(.long q1), (.long q2), (.long q3), (.long q4), (.int p5)] maxLocals)) (T57.setTop (mkF m 148 #[.val (.long q1), .second, .val (.long q2), .second, .val (.long q3), .second, .val (.long q4), .second, .val (.int p5), .val (.long y1), .second, .val (.ref b3), .val (.long y1), .second, .val (.long y13), .second, .val (.int v23), .val (.long y29), .second, .val (.long y34), .second, .val (.int v44), .val (.long y50), .second, .val (.long y55), .second, .unset, .unset] [(.int (lcmpW y50 y55)), (.int x59)])) := fun t k => P58 t (by
    show Steps p.tables e below (T57.setTop (mkF m 143 #[.val (.long q1), .second, .val (.long q2), .second, .val (.long q3), .second, .val (.long q4), .second, .val (.int p5), .val (.long y1), .second, .val (.ref b3), .val (.long y1), .second, .val (.long y13), .second, .val (.int v23), .val (.long y29), .second, .val (.long y34), .second, .val (.int v44), .val (.long y50), .second, .val (.long y55), .second, .unset, .unset] [(.int x59)])) t
    refine XS.lload X57.here hx rfl (hb hby at_143) rfl ?_
    show Steps p.tables e below (T57.setTop (mkF m 145 #[.val (.long q1), .second, .val (.long q2), .second, .val (.long q3), .second, .val (.long q4), .second, .val (.int p5), .val (.long y1), .second, .val (.ref b3), .val (.long y1), .second, .val (.long y13), .second, .val (.int v23), .val (.long y29), .second, .val (.long y34), .second, .val (.int v44), .val (.long y50), .second, .val (.long y55), .second, .unset, .unset] [(.long y50), (.int x59)])) t
    refine XS.lload X57.here hx rfl (hb hby at_145) rfl ?_
    show Steps p.tables e below (T57.setTop (mkF m 147 #[.val (.long q1), .second, .val (.long q2), .second, .val (.long q3), .second, .val (.long q4), .second, .val (.int p5), .val (.long y1), .second, .val (.ref b3), .val (.long y1), .second, .val (.long y13), .second, .val (.int v23), .val (.long y29), .second, .val (.long y34), .second, .val (.int v44), .val (.long y50), .second, .val (.long y55), .second, .unset, .unset] [(.long y55), (.long y50), (.int x59)])) t
    refine XS.lcmp X57.here hx rfl (hb hby at_147) rfl ?_
    exact k)
  obtain ⟨v62, hv62, P63⟩ : ∃ (v62 : Int32), v62 = (if y50 < y55 then (0 : Int32) else (1 : Int32)) ∧ Rch p e below (s₁.setTop (entryFrame m #[(.long q1), (.long q2), (.long q3), (.long q4), (.int p5)] maxLocals)) (T57.setTop (mkF m 156 #[.val (.long q1), .second, .val (.long q2), .second, .val (.long q3), .second, .val (.long q4), .second, .val (.int p5), .val (.long y1), .second, .val (.ref b3), .val (.long y1), .second, .val (.long y13), .second, .val (.int v23), .val (.long y29), .second, .val (.long y34), .second, .val (.int v44), .val (.long y50), .second, .val (.long y55), .second, .unset, .unset] [(.int v62), (.int x59)])) := by
    by_cases c61 : y50 < y55
    · refine ⟨(0 : Int32), (by first | rfl | rw [if_pos c61] | simp only [if_pos c61]), fun t k => P60 t ?_⟩
      show Steps p.tables e below (T57.setTop (mkF m 148 #[.val (.long q1), .second, .val (.long q2), .second, .val (.long q3), .second, .val (.long q4), .second, .val (.int p5), .val (.long y1), .second, .val (.ref b3), .val (.long y1), .second, .val (.long y13), .second, .val (.int v23), .val (.long y29), .second, .val (.long y34), .second, .val (.int v44), .val (.long y50), .second, .val (.long y55), .second, .unset, .unset] [(.int (lcmpW y50 y55)), (.int x59)])) t
      refine XS.ifYes X57.here hx rfl (pc0 := 148) (pc' := 155) rfl (hb hby at_148) rfl ((if0 _ _).trans (tlt ((lw_lt y50 y55).mpr c61)).1) (by decide) (by decide) ?_
      show Steps p.tables e below (T57.setTop (mkF m 155 #[.val (.long q1), .second, .val (.long q2), .second, .val (.long q3), .second, .val (.long q4), .second, .val (.int p5), .val (.long y1), .second, .val (.ref b3), .val (.long y1), .second, .val (.long y13), .second, .val (.int v23), .val (.long y29), .second, .val (.long y34), .second, .val (.int v44), .val (.long y50), .second, .val (.long y55), .second, .unset, .unset] [(.int x59)])) t
      refine XS.iconst X57.here hx rfl (hb hby at_155) ?_
      exact k
    · refine ⟨(1 : Int32), (by first | rfl | rw [if_neg c61] | simp only [if_neg c61]), fun t k => P60 t ?_⟩
      show Steps p.tables e below (T57.setTop (mkF m 148 #[.val (.long q1), .second, .val (.long q2), .second, .val (.long q3), .second, .val (.long q4), .second, .val (.int p5), .val (.long y1), .second, .val (.ref b3), .val (.long y1), .second, .val (.long y13), .second, .val (.int v23), .val (.long y29), .second, .val (.long y34), .second, .val (.int v44), .val (.long y50), .second, .val (.long y55), .second, .unset, .unset] [(.int (lcmpW y50 y55)), (.int x59)])) t
      refine XS.ifNo X57.here hx rfl (hb hby at_148) rfl ((if0 _ _).trans (flt (fun q_ => c61 ((lw_lt y50 y55).mp q_))).1) ?_
      show Steps p.tables e below (T57.setTop (mkF m 151 #[.val (.long q1), .second, .val (.long q2), .second, .val (.long q3), .second, .val (.long q4), .second, .val (.int p5), .val (.long y1), .second, .val (.ref b3), .val (.long y1), .second, .val (.long y13), .second, .val (.int v23), .val (.long y29), .second, .val (.long y34), .second, .val (.int v44), .val (.long y50), .second, .val (.long y55), .second, .unset, .unset] [(.int x59)])) t
      refine XS.iconst X57.here hx rfl (hb hby at_151) ?_
      show Steps p.tables e below (T57.setTop (mkF m 152 #[.val (.long q1), .second, .val (.long q2), .second, .val (.long q3), .second, .val (.long q4), .second, .val (.int p5), .val (.long y1), .second, .val (.ref b3), .val (.long y1), .second, .val (.long y13), .second, .val (.int v23), .val (.long y29), .second, .val (.long y34), .second, .val (.int v44), .val (.long y50), .second, .val (.long y55), .second, .unset, .unset] [(.int (1 : Int32)), (.int x59)])) t
      refine XS.goto X57.here hx rfl (pc0 := 152) (pc' := 156) rfl (hb hby at_152) (by decide) (by decide) ?_
      exact k
  obtain ⟨v65, hv65, P66⟩ : ∃ (v65 : Int32), v65 = (if x59 = v62 then (1 : Int32) else (0 : Int32)) ∧ Rch p e below (s₁.setTop (entryFrame m #[(.long q1), (.long q2), (.long q3), (.long q4), (.int p5)] maxLocals)) (T57.setTop (mkF m 164 #[.val (.long q1), .second, .val (.long q2), .second, .val (.long q3), .second, .val (.long q4), .second, .val (.int p5), .val (.long y1), .second, .val (.ref b3), .val (.long y1), .second, .val (.long y13), .second, .val (.int v23), .val (.long y29), .second, .val (.long y34), .second, .val (.int v44), .val (.long y50), .second, .val (.long y55), .second, .unset, .unset] [(.int v65)])) := by
    by_cases c64 : x59 = v62
    · refine ⟨(1 : Int32), (by first | rfl | rw [if_pos c64] | simp only [if_pos c64]), fun t k => P63 t ?_⟩
      show Steps p.tables e below (T57.setTop (mkF m 156 #[.val (.long q1), .second, .val (.long q2), .second, .val (.long q3), .second, .val (.long q4), .second, .val (.int p5), .val (.long y1), .second, .val (.ref b3), .val (.long y1), .second, .val (.long y13), .second, .val (.int v23), .val (.long y29), .second, .val (.long y34), .second, .val (.int v44), .val (.long y50), .second, .val (.long y55), .second, .unset, .unset] [(.int v62), (.int x59)])) t
      refine XS.icmpNo X57.here hx rfl (hb hby at_156) rfl (teq c64).2 ?_
      show Steps p.tables e below (T57.setTop (mkF m 159 #[.val (.long q1), .second, .val (.long q2), .second, .val (.long q3), .second, .val (.long q4), .second, .val (.int p5), .val (.long y1), .second, .val (.ref b3), .val (.long y1), .second, .val (.long y13), .second, .val (.int v23), .val (.long y29), .second, .val (.long y34), .second, .val (.int v44), .val (.long y50), .second, .val (.long y55), .second, .unset, .unset] [])) t
      refine XS.iconst X57.here hx rfl (hb hby at_159) ?_
      show Steps p.tables e below (T57.setTop (mkF m 160 #[.val (.long q1), .second, .val (.long q2), .second, .val (.long q3), .second, .val (.long q4), .second, .val (.int p5), .val (.long y1), .second, .val (.ref b3), .val (.long y1), .second, .val (.long y13), .second, .val (.int v23), .val (.long y29), .second, .val (.long y34), .second, .val (.int v44), .val (.long y50), .second, .val (.long y55), .second, .unset, .unset] [(.int (1 : Int32))])) t
      refine XS.goto X57.here hx rfl (pc0 := 160) (pc' := 164) rfl (hb hby at_160) (by decide) (by decide) ?_
      exact k
    · refine ⟨(0 : Int32), (by first | rfl | rw [if_neg c64] | simp only [if_neg c64]), fun t k => P63 t ?_⟩
      show Steps p.tables e below (T57.setTop (mkF m 156 #[.val (.long q1), .second, .val (.long q2), .second, .val (.long q3), .second, .val (.long q4), .second, .val (.int p5), .val (.long y1), .second, .val (.ref b3), .val (.long y1), .second, .val (.long y13), .second, .val (.int v23), .val (.long y29), .second, .val (.long y34), .second, .val (.int v44), .val (.long y50), .second, .val (.long y55), .second, .unset, .unset] [(.int v62), (.int x59)])) t
      refine XS.icmpYes X57.here hx rfl (pc0 := 156) (pc' := 163) rfl (hb hby at_156) rfl (feq c64).2 (by decide) (by decide) ?_
      show Steps p.tables e below (T57.setTop (mkF m 163 #[.val (.long q1), .second, .val (.long q2), .second, .val (.long q3), .second, .val (.long q4), .second, .val (.int p5), .val (.long y1), .second, .val (.ref b3), .val (.long y1), .second, .val (.long y13), .second, .val (.int v23), .val (.long y29), .second, .val (.long y34), .second, .val (.int v44), .val (.long y50), .second, .val (.long y55), .second, .unset, .unset] [])) t
      refine XS.iconst X57.here hx rfl (hb hby at_163) ?_
      exact k
  have P67 : Rch p e below (s₁.setTop (entryFrame m #[(.long q1), (.long q2), (.long q3), (.long q4), (.int p5)] maxLocals)) (T57.setTop (mkF m 168 #[.val (.long q1), .second, .val (.long q2), .second, .val (.long q3), .second, .val (.long q4), .second, .val (.int p5), .val (.long y1), .second, .val (.ref b3), .val (.long y1), .second, .val (.long y13), .second, .val (.int v23), .val (.long y29), .second, .val (.long y34), .second, .val (.int v44), .val (.long y50), .second, .val (.long y55), .second, .val (.int v65), .unset] [(.ref b3)])) := fun t k => P66 t (by
    show Steps p.tables e below (T57.setTop (mkF m 164 #[.val (.long q1), .second, .val (.long q2), .second, .val (.long q3), .second, .val (.long q4), .second, .val (.int p5), .val (.long y1), .second, .val (.ref b3), .val (.long y1), .second, .val (.long y13), .second, .val (.int v23), .val (.long y29), .second, .val (.long y34), .second, .val (.int v44), .val (.long y50), .second, .val (.long y55), .second, .unset, .unset] [(.int v65)])) t
    refine XS.istore X57.here hx rfl (hb hby at_164) rfl (l' := #[.val (.long q1), .second, .val (.long q2), .second, .val (.long q3), .second, .val (.long q4), .second, .val (.int p5), .val (.long y1), .second, .val (.ref b3), .val (.long y1), .second, .val (.long y13), .second, .val (.int v23), .val (.long y29), .second, .val (.long y34), .second, .val (.int v44), .val (.long y50), .second, .val (.long y55), .second, .val (.int v65), .unset]) rfl ?_
    show Steps p.tables e below (T57.setTop (mkF m 166 #[.val (.long q1), .second, .val (.long q2), .second, .val (.long q3), .second, .val (.long q4), .second, .val (.int p5), .val (.long y1), .second, .val (.ref b3), .val (.long y1), .second, .val (.long y13), .second, .val (.int v23), .val (.long y29), .second, .val (.long y34), .second, .val (.int v44), .val (.long y50), .second, .val (.long y55), .second, .val (.int v65), .unset] [])) t
    refine XS.aload X57.here hx rfl (hb hby at_166) rfl rfl ?_
    exact k)
  have f69 : n0 ≤ T57.heap.size := (Nat.le_trans f48 K57.1)
  obtain ⟨cq68, kq68, q68a, q68b, q68c⟩ := isOf hZ rfl E_57
  obtain ⟨_, _, ⟨T68, L68, k68, n68⟩, -, X68, ⟨Lc68, hQ68, l68, y68, z68⟩, st68⟩ := X57.virtualBack hx (y := (⟨"com/example/rapid_pdp/rapidpdp/engine/Budget", "limit", "()J"⟩ : MethodName)) (z := (⟨"com/example/rapid_pdp/rapidpdp/engine/Budget", "limit", "()J"⟩ : MethodName)) hown (mvT hZ (hw _ (List.mem_of_getElem? (i := 26) rfl))) (mvT hZ (hw _ (List.mem_of_getElem? (i := 27) rfl))) (notFace_of_selects (args := #[]) (mvT hZ (hw _ (List.mem_of_getElem? (i := 29) rfl)))) (mvT hZ (hw _ (List.mem_of_getElem? (i := 29) rfl))) (mvT hZ (hw _ (List.mem_of_getElem? (i := 28) rfl))) (by decide) (backOf (W := 0) (rmL l Z a0 hw [] b3 y1 T57.heap n0 f69 G2_57) hZ (hw _ (List.mem_of_getElem? (i := 30) rfl)) (hw _ (List.mem_of_getElem? (i := 3) rfl)) (by decide) (by decide)) q68a q68c (g := (mkF m 168 #[.val (.long q1), .second, .val (.long q2), .second, .val (.long q3), .second, .val (.long q4), .second, .val (.int p5), .val (.long y1), .second, .val (.ref b3), .val (.long y1), .second, .val (.long y13), .second, .val (.int v23), .val (.long y29), .second, .val (.long y34), .second, .val (.int v44), .val (.long y50), .second, .val (.long y55), .second, .val (.int v65), .unset] [(.ref b3)])) rfl (by rw [hml]; rfl) (Steps.refl _) (argsL := []) (rest := []) (lenOf pd_4 rfl) rfl (by show 2 * 0 + _ ≤ _; exact Nat.le_of_eq rfl) (hb hby at_168) (fun _ _ => ⟨rfl, rfl, (by decide : 1 + 0 ≤ _), (by decide : 2 + 0 ≤ _)⟩)
  dsimp only [Pt.U, Pt.locs, Pt.cells, Pt.slots] at X68 l68 y68 z68 st68 hQ68
  subst l68 y68 z68
  obtain ⟨rfl, N68q, e68⟩ := hQ68
  have N68 := Fr.app N57 N68q
  have P70 : Rch p e below (s₁.setTop (entryFrame m #[(.long q1), (.long q2), (.long q3), (.long q4), (.int p5)] maxLocals)) (T68.setTop (mkF m 171 #[.val (.long q1), .second, .val (.long q2), .second, .val (.long q3), .second, .val (.long q4), .second, .val (.int p5), .val (.long y1), .second, .val (.ref b3), .val (.long y1), .second, .val (.long y13), .second, .val (.int v23), .val (.long y29), .second, .val (.long y34), .second, .val (.int v44), .val (.long y50), .second, .val (.long y55), .second, .val (.int v65), .unset] [(.long y1)])) := fun t k => P67 t (st68.trans k)
  have P71 : Rch p e below (s₁.setTop (entryFrame m #[(.long q1), (.long q2), (.long q3), (.long q4), (.int p5)] maxLocals)) (T68.setTop (mkF m 186 #[.val (.long q1), .second, .val (.long q2), .second, .val (.long q3), .second, .val (.long q4), .second, .val (.int p5), .val (.long y1), .second, .val (.ref b3), .val (.long y1), .second, .val (.long y13), .second, .val (.int v23), .val (.long y29), .second, .val (.long y34), .second, .val (.int v44), .val (.long y50), .second, .val (.long y55), .second, .val (.int v65), .val (.int (1 : Int32))] [(.int v23)])) := fun t k => P70 t (by
    show Steps p.tables e below (T68.setTop (mkF m 171 #[.val (.long q1), .second, .val (.long q2), .second, .val (.long q3), .second, .val (.long q4), .second, .val (.int p5), .val (.long y1), .second, .val (.ref b3), .val (.long y1), .second, .val (.long y13), .second, .val (.int v23), .val (.long y29), .second, .val (.long y34), .second, .val (.int v44), .val (.long y50), .second, .val (.long y55), .second, .val (.int v65), .unset] [(.long y1)])) t
    refine XS.lload X68.here hx rfl (hb hby at_171) rfl ?_
    show Steps p.tables e below (T68.setTop (mkF m 173 #[.val (.long q1), .second, .val (.long q2), .second, .val (.long q3), .second, .val (.long q4), .second, .val (.int p5), .val (.long y1), .second, .val (.ref b3), .val (.long y1), .second, .val (.long y13), .second, .val (.int v23), .val (.long y29), .second, .val (.long y34), .second, .val (.int v44), .val (.long y50), .second, .val (.long y55), .second, .val (.int v65), .unset] [(.long y1), (.long y1)])) t
    refine XS.lcmp X68.here hx rfl (hb hby at_173) rfl ?_
    show Steps p.tables e below (T68.setTop (mkF m 174 #[.val (.long q1), .second, .val (.long q2), .second, .val (.long q3), .second, .val (.long q4), .second, .val (.int p5), .val (.long y1), .second, .val (.ref b3), .val (.long y1), .second, .val (.long y13), .second, .val (.int v23), .val (.long y29), .second, .val (.long y34), .second, .val (.int v44), .val (.long y50), .second, .val (.long y55), .second, .val (.int v65), .unset] [(.int (lcmpW y1 y1))])) t
    refine XS.ifNo X68.here hx rfl (hb hby at_174) rfl ((if0 _ _).trans (teq ((lw_eq y1 y1).mpr rfl)).2) ?_
    show Steps p.tables e below (T68.setTop (mkF m 177 #[.val (.long q1), .second, .val (.long q2), .second, .val (.long q3), .second, .val (.long q4), .second, .val (.int p5), .val (.long y1), .second, .val (.ref b3), .val (.long y1), .second, .val (.long y13), .second, .val (.int v23), .val (.long y29), .second, .val (.long y34), .second, .val (.int v44), .val (.long y50), .second, .val (.long y55), .second, .val (.int v65), .unset] [])) t
    refine XS.iconst X68.here hx rfl (hb hby at_177) ?_
    show Steps p.tables e below (T68.setTop (mkF m 178 #[.val (.long q1), .second, .val (.long q2), .second, .val (.long q3), .second, .val (.long q4), .second, .val (.int p5), .val (.long y1), .second, .val (.ref b3), .val (.long y1), .second, .val (.long y13), .second, .val (.int v23), .val (.long y29), .second, .val (.long y34), .second, .val (.int v44), .val (.long y50), .second, .val (.long y55), .second, .val (.int v65), .unset] [(.int (1 : Int32))])) t
    refine XS.goto X68.here hx rfl (pc0 := 178) (pc' := 182) rfl (hb hby at_178) (by decide) (by decide) ?_
    show Steps p.tables e below (T68.setTop (mkF m 182 #[.val (.long q1), .second, .val (.long q2), .second, .val (.long q3), .second, .val (.long q4), .second, .val (.int p5), .val (.long y1), .second, .val (.ref b3), .val (.long y1), .second, .val (.long y13), .second, .val (.int v23), .val (.long y29), .second, .val (.long y34), .second, .val (.int v44), .val (.long y50), .second, .val (.long y55), .second, .val (.int v65), .unset] [(.int (1 : Int32))])) t
    refine XS.istore X68.here hx rfl (hb hby at_182) rfl (l' := #[.val (.long q1), .second, .val (.long q2), .second, .val (.long q3), .second, .val (.long q4), .second, .val (.int p5), .val (.long y1), .second, .val (.ref b3), .val (.long y1), .second, .val (.long y13), .second, .val (.int v23), .val (.long y29), .second, .val (.long y34), .second, .val (.int v44), .val (.long y50), .second, .val (.long y55), .second, .val (.int v65), .val (.int (1 : Int32))]) rfl ?_
    show Steps p.tables e below (T68.setTop (mkF m 184 #[.val (.long q1), .second, .val (.long q2), .second, .val (.long q3), .second, .val (.long q4), .second, .val (.int p5), .val (.long y1), .second, .val (.ref b3), .val (.long y1), .second, .val (.long y13), .second, .val (.int v23), .val (.long y29), .second, .val (.long y34), .second, .val (.int v44), .val (.long y50), .second, .val (.long y55), .second, .val (.int v65), .val (.int (1 : Int32))] [])) t
    refine XS.iload X68.here hx rfl (hb hby at_184) rfl ?_
    exact k)
  obtain ⟨v75, hv75, P76⟩ : ∃ (v75 : Int32), v75 = (if v23 = (0 : Int32) then (0 : Int32) else (if v44 = (0 : Int32) then (0 : Int32) else (if v65 = (0 : Int32) then (0 : Int32) else (1 : Int32)))) ∧ Rch p e below (s₁.setTop (entryFrame m #[(.long q1), (.long q2), (.long q3), (.long q4), (.int p5)] maxLocals)) (T68.setTop (mkF m 209 #[.val (.long q1), .second, .val (.long q2), .second, .val (.long q3), .second, .val (.long q4), .second, .val (.int p5), .val (.long y1), .second, .val (.ref b3), .val (.long y1), .second, .val (.long y13), .second, .val (.int v23), .val (.long y29), .second, .val (.long y34), .second, .val (.int v44), .val (.long y50), .second, .val (.long y55), .second, .val (.int v65), .val (.int (1 : Int32))] [(.int v75)])) := by
    by_cases c72 : v23 = (0 : Int32)
    · refine ⟨(0 : Int32), (by first | rfl | rw [if_pos c72] | simp only [if_pos c72]), fun t k => P71 t ?_⟩
      show Steps p.tables e below (T68.setTop (mkF m 186 #[.val (.long q1), .second, .val (.long q2), .second, .val (.long q3), .second, .val (.long q4), .second, .val (.int p5), .val (.long y1), .second, .val (.ref b3), .val (.long y1), .second, .val (.long y13), .second, .val (.int v23), .val (.long y29), .second, .val (.long y34), .second, .val (.int v44), .val (.long y50), .second, .val (.long y55), .second, .val (.int v65), .val (.int (1 : Int32))] [(.int v23)])) t
      refine XS.ifYes X68.here hx rfl (pc0 := 186) (pc' := 208) rfl (hb hby at_186) rfl ((if0 _ _).trans (teq c72).1) (by decide) (by decide) ?_
      show Steps p.tables e below (T68.setTop (mkF m 208 #[.val (.long q1), .second, .val (.long q2), .second, .val (.long q3), .second, .val (.long q4), .second, .val (.int p5), .val (.long y1), .second, .val (.ref b3), .val (.long y1), .second, .val (.long y13), .second, .val (.int v23), .val (.long y29), .second, .val (.long y34), .second, .val (.int v44), .val (.long y50), .second, .val (.long y55), .second, .val (.int v65), .val (.int (1 : Int32))] [])) t
      refine XS.iconst X68.here hx rfl (hb hby at_208) ?_
      exact k
    · by_cases c73 : v44 = (0 : Int32)
      · refine ⟨(0 : Int32), (by first | rfl | rw [if_neg c72, if_pos c73] | simp only [if_neg c72, if_pos c73]), fun t k => P71 t ?_⟩
        show Steps p.tables e below (T68.setTop (mkF m 186 #[.val (.long q1), .second, .val (.long q2), .second, .val (.long q3), .second, .val (.long q4), .second, .val (.int p5), .val (.long y1), .second, .val (.ref b3), .val (.long y1), .second, .val (.long y13), .second, .val (.int v23), .val (.long y29), .second, .val (.long y34), .second, .val (.int v44), .val (.long y50), .second, .val (.long y55), .second, .val (.int v65), .val (.int (1 : Int32))] [(.int v23)])) t
        refine XS.ifNo X68.here hx rfl (hb hby at_186) rfl ((if0 _ _).trans (feq c72).1) ?_
        show Steps p.tables e below (T68.setTop (mkF m 189 #[.val (.long q1), .second, .val (.long q2), .second, .val (.long q3), .second, .val (.long q4), .second, .val (.int p5), .val (.long y1), .second, .val (.ref b3), .val (.long y1), .second, .val (.long y13), .second, .val (.int v23), .val (.long y29), .second, .val (.long y34), .second, .val (.int v44), .val (.long y50), .second, .val (.long y55), .second, .val (.int v65), .val (.int (1 : Int32))] [])) t
        refine XS.iload X68.here hx rfl (hb hby at_189) rfl ?_
        show Steps p.tables e below (T68.setTop (mkF m 191 #[.val (.long q1), .second, .val (.long q2), .second, .val (.long q3), .second, .val (.long q4), .second, .val (.int p5), .val (.long y1), .second, .val (.ref b3), .val (.long y1), .second, .val (.long y13), .second, .val (.int v23), .val (.long y29), .second, .val (.long y34), .second, .val (.int v44), .val (.long y50), .second, .val (.long y55), .second, .val (.int v65), .val (.int (1 : Int32))] [(.int v44)])) t
        refine XS.ifYes X68.here hx rfl (pc0 := 191) (pc' := 208) rfl (hb hby at_191) rfl ((if0 _ _).trans (teq c73).1) (by decide) (by decide) ?_
        show Steps p.tables e below (T68.setTop (mkF m 208 #[.val (.long q1), .second, .val (.long q2), .second, .val (.long q3), .second, .val (.long q4), .second, .val (.int p5), .val (.long y1), .second, .val (.ref b3), .val (.long y1), .second, .val (.long y13), .second, .val (.int v23), .val (.long y29), .second, .val (.long y34), .second, .val (.int v44), .val (.long y50), .second, .val (.long y55), .second, .val (.int v65), .val (.int (1 : Int32))] [])) t
        refine XS.iconst X68.here hx rfl (hb hby at_208) ?_
        exact k
      · by_cases c74 : v65 = (0 : Int32)
        · refine ⟨(0 : Int32), (by first | rfl | rw [if_neg c72, if_neg c73, if_pos c74] | simp only [if_neg c72, if_neg c73, if_pos c74]), fun t k => P71 t ?_⟩
          show Steps p.tables e below (T68.setTop (mkF m 186 #[.val (.long q1), .second, .val (.long q2), .second, .val (.long q3), .second, .val (.long q4), .second, .val (.int p5), .val (.long y1), .second, .val (.ref b3), .val (.long y1), .second, .val (.long y13), .second, .val (.int v23), .val (.long y29), .second, .val (.long y34), .second, .val (.int v44), .val (.long y50), .second, .val (.long y55), .second, .val (.int v65), .val (.int (1 : Int32))] [(.int v23)])) t
          refine XS.ifNo X68.here hx rfl (hb hby at_186) rfl ((if0 _ _).trans (feq c72).1) ?_
          show Steps p.tables e below (T68.setTop (mkF m 189 #[.val (.long q1), .second, .val (.long q2), .second, .val (.long q3), .second, .val (.long q4), .second, .val (.int p5), .val (.long y1), .second, .val (.ref b3), .val (.long y1), .second, .val (.long y13), .second, .val (.int v23), .val (.long y29), .second, .val (.long y34), .second, .val (.int v44), .val (.long y50), .second, .val (.long y55), .second, .val (.int v65), .val (.int (1 : Int32))] [])) t
          refine XS.iload X68.here hx rfl (hb hby at_189) rfl ?_
          show Steps p.tables e below (T68.setTop (mkF m 191 #[.val (.long q1), .second, .val (.long q2), .second, .val (.long q3), .second, .val (.long q4), .second, .val (.int p5), .val (.long y1), .second, .val (.ref b3), .val (.long y1), .second, .val (.long y13), .second, .val (.int v23), .val (.long y29), .second, .val (.long y34), .second, .val (.int v44), .val (.long y50), .second, .val (.long y55), .second, .val (.int v65), .val (.int (1 : Int32))] [(.int v44)])) t
          refine XS.ifNo X68.here hx rfl (hb hby at_191) rfl ((if0 _ _).trans (feq c73).1) ?_
          show Steps p.tables e below (T68.setTop (mkF m 194 #[.val (.long q1), .second, .val (.long q2), .second, .val (.long q3), .second, .val (.long q4), .second, .val (.int p5), .val (.long y1), .second, .val (.ref b3), .val (.long y1), .second, .val (.long y13), .second, .val (.int v23), .val (.long y29), .second, .val (.long y34), .second, .val (.int v44), .val (.long y50), .second, .val (.long y55), .second, .val (.int v65), .val (.int (1 : Int32))] [])) t
          refine XS.iload X68.here hx rfl (hb hby at_194) rfl ?_
          show Steps p.tables e below (T68.setTop (mkF m 196 #[.val (.long q1), .second, .val (.long q2), .second, .val (.long q3), .second, .val (.long q4), .second, .val (.int p5), .val (.long y1), .second, .val (.ref b3), .val (.long y1), .second, .val (.long y13), .second, .val (.int v23), .val (.long y29), .second, .val (.long y34), .second, .val (.int v44), .val (.long y50), .second, .val (.long y55), .second, .val (.int v65), .val (.int (1 : Int32))] [(.int v65)])) t
          refine XS.ifYes X68.here hx rfl (pc0 := 196) (pc' := 208) rfl (hb hby at_196) rfl ((if0 _ _).trans (teq c74).1) (by decide) (by decide) ?_
          show Steps p.tables e below (T68.setTop (mkF m 208 #[.val (.long q1), .second, .val (.long q2), .second, .val (.long q3), .second, .val (.long q4), .second, .val (.int p5), .val (.long y1), .second, .val (.ref b3), .val (.long y1), .second, .val (.long y13), .second, .val (.int v23), .val (.long y29), .second, .val (.long y34), .second, .val (.int v44), .val (.long y50), .second, .val (.long y55), .second, .val (.int v65), .val (.int (1 : Int32))] [])) t
          refine XS.iconst X68.here hx rfl (hb hby at_208) ?_
          exact k
        · refine ⟨(1 : Int32), (by first | rfl | rw [if_neg c72, if_neg c73, if_neg c74] | simp only [if_neg c72, if_neg c73, if_neg c74]), fun t k => P71 t ?_⟩
          show Steps p.tables e below (T68.setTop (mkF m 186 #[.val (.long q1), .second, .val (.long q2), .second, .val (.long q3), .second, .val (.long q4), .second, .val (.int p5), .val (.long y1), .second, .val (.ref b3), .val (.long y1), .second, .val (.long y13), .second, .val (.int v23), .val (.long y29), .second, .val (.long y34), .second, .val (.int v44), .val (.long y50), .second, .val (.long y55), .second, .val (.int v65), .val (.int (1 : Int32))] [(.int v23)])) t
          refine XS.ifNo X68.here hx rfl (hb hby at_186) rfl ((if0 _ _).trans (feq c72).1) ?_
          show Steps p.tables e below (T68.setTop (mkF m 189 #[.val (.long q1), .second, .val (.long q2), .second, .val (.long q3), .second, .val (.long q4), .second, .val (.int p5), .val (.long y1), .second, .val (.ref b3), .val (.long y1), .second, .val (.long y13), .second, .val (.int v23), .val (.long y29), .second, .val (.long y34), .second, .val (.int v44), .val (.long y50), .second, .val (.long y55), .second, .val (.int v65), .val (.int (1 : Int32))] [])) t
          refine XS.iload X68.here hx rfl (hb hby at_189) rfl ?_
          show Steps p.tables e below (T68.setTop (mkF m 191 #[.val (.long q1), .second, .val (.long q2), .second, .val (.long q3), .second, .val (.long q4), .second, .val (.int p5), .val (.long y1), .second, .val (.ref b3), .val (.long y1), .second, .val (.long y13), .second, .val (.int v23), .val (.long y29), .second, .val (.long y34), .second, .val (.int v44), .val (.long y50), .second, .val (.long y55), .second, .val (.int v65), .val (.int (1 : Int32))] [(.int v44)])) t
          refine XS.ifNo X68.here hx rfl (hb hby at_191) rfl ((if0 _ _).trans (feq c73).1) ?_
          show Steps p.tables e below (T68.setTop (mkF m 194 #[.val (.long q1), .second, .val (.long q2), .second, .val (.long q3), .second, .val (.long q4), .second, .val (.int p5), .val (.long y1), .second, .val (.ref b3), .val (.long y1), .second, .val (.long y13), .second, .val (.int v23), .val (.long y29), .second, .val (.long y34), .second, .val (.int v44), .val (.long y50), .second, .val (.long y55), .second, .val (.int v65), .val (.int (1 : Int32))] [])) t
          refine XS.iload X68.here hx rfl (hb hby at_194) rfl ?_
          show Steps p.tables e below (T68.setTop (mkF m 196 #[.val (.long q1), .second, .val (.long q2), .second, .val (.long q3), .second, .val (.long q4), .second, .val (.int p5), .val (.long y1), .second, .val (.ref b3), .val (.long y1), .second, .val (.long y13), .second, .val (.int v23), .val (.long y29), .second, .val (.long y34), .second, .val (.int v44), .val (.long y50), .second, .val (.long y55), .second, .val (.int v65), .val (.int (1 : Int32))] [(.int v65)])) t
          refine XS.ifNo X68.here hx rfl (hb hby at_196) rfl ((if0 _ _).trans (feq c74).1) ?_
          show Steps p.tables e below (T68.setTop (mkF m 199 #[.val (.long q1), .second, .val (.long q2), .second, .val (.long q3), .second, .val (.long q4), .second, .val (.int p5), .val (.long y1), .second, .val (.ref b3), .val (.long y1), .second, .val (.long y13), .second, .val (.int v23), .val (.long y29), .second, .val (.long y34), .second, .val (.int v44), .val (.long y50), .second, .val (.long y55), .second, .val (.int v65), .val (.int (1 : Int32))] [])) t
          refine XS.iload X68.here hx rfl (hb hby at_199) rfl ?_
          show Steps p.tables e below (T68.setTop (mkF m 201 #[.val (.long q1), .second, .val (.long q2), .second, .val (.long q3), .second, .val (.long q4), .second, .val (.int p5), .val (.long y1), .second, .val (.ref b3), .val (.long y1), .second, .val (.long y13), .second, .val (.int v23), .val (.long y29), .second, .val (.long y34), .second, .val (.int v44), .val (.long y50), .second, .val (.long y55), .second, .val (.int v65), .val (.int (1 : Int32))] [(.int (1 : Int32))])) t
          refine XS.ifNo X68.here hx rfl (hb hby at_201) rfl ((if0 _ _).trans (feq (by decide)).1) ?_
          show Steps p.tables e below (T68.setTop (mkF m 204 #[.val (.long q1), .second, .val (.long q2), .second, .val (.long q3), .second, .val (.long q4), .second, .val (.int p5), .val (.long y1), .second, .val (.ref b3), .val (.long y1), .second, .val (.long y13), .second, .val (.int v23), .val (.long y29), .second, .val (.long y34), .second, .val (.int v44), .val (.long y50), .second, .val (.long y55), .second, .val (.int v65), .val (.int (1 : Int32))] [])) t
          refine XS.iconst X68.here hx rfl (hb hby at_204) ?_
          show Steps p.tables e below (T68.setTop (mkF m 205 #[.val (.long q1), .second, .val (.long q2), .second, .val (.long q3), .second, .val (.long q4), .second, .val (.int p5), .val (.long y1), .second, .val (.ref b3), .val (.long y1), .second, .val (.long y13), .second, .val (.int v23), .val (.long y29), .second, .val (.long y34), .second, .val (.int v44), .val (.long y50), .second, .val (.long y55), .second, .val (.int v65), .val (.int (1 : Int32))] [(.int (1 : Int32))])) t
          refine XS.goto X68.here hx rfl (pc0 := 205) (pc' := 209) rfl (hb hby at_205) (by decide) (by decide) ?_
          exact k
  have hfin : v75 = (1 : Int32) := by
    subst hv75 hv65 hv62 hx59 hy55 hx51 hy50 hv44 hv41 hx38 hy34 hx30 hy29 hv23 hv20 hx17 hy13 hy1
    simp [own_ge]
  have P77 : Rch p e below (s₁.setTop (entryFrame m #[(.long q1), (.long q2), (.long q3), (.long q4), (.int p5)] maxLocals)) (T68.setTop (mkF m 209 #[.val (.long q1), .second, .val (.long q2), .second, .val (.long q3), .second, .val (.long q4), .second, .val (.int p5), .val (.long y1), .second, .val (.ref b3), .val (.long y1), .second, .val (.long y13), .second, .val (.int v23), .val (.long y29), .second, .val (.long y34), .second, .val (.int v44), .val (.long y50), .second, .val (.long y55), .second, .val (.int v65), .val (.int (1 : Int32))] [(.int (1 : Int32))])) := by have q_ := P76; rw [hfin] at q_; exact q_
  obtain ⟨fs, hr, hrun, hended, hW, hsame⟩ := X68.leave (v := some (.int (1 : Int32))) (fun h => by rw [Bd.returns] at h; cases h)
  refine ⟨_, _, P77 _ ?_, hrun, hended, _, _, rfl, ?_, ⟨_, rfl⟩, hW, hsame.mono (by decide) (by decide)⟩
  · exact retN X68 hx (t := .boolean) Bd.returns (by simp) (hb hby at_209) hr
  · show Q_rm0 Z q1 q2 q3 q4 p5 h0 n0 _ T68.heap _
    rw [e68]
    exact ⟨rfl, N68⟩
set_option maxRecDepth 65536 in
set_option maxHeartbeats 40000000 in
theorem comes_1 {Post : Tables → Env → Array Value → State → Outcome → State → Prop} (hpost : ∀ tb e args s v u, (limb_1_1.after args s (.returned v) u = true ∧ limb_1_2.after args s (.returned v) u = true ∧ True) → FrameEnd s (.returned v) u (Jvm.fieldLocs frame_1_writes args s ++ Jvm.arrayLocs frame_1_arrays args s ++ Jvm.staticLocs frame_1_statics s) 16 128 → Post tb e args s (.returned v) u) :
    ArmFor flags0 classFile x code maxLocals ret World_1 tables_1 room_1 Calls_1 rest_1 Pre_1 Post := by
  intro l hfl _ _ p e ha hc hk s m args below hf hA hF happ hP
  obtain ⟨hcalls, hrest, hpre⟩ := hP
  obtain ⟨-, -, -, hnamed, -, -, -, hat⟩ := (Spec.applies_iff hf).mp happ
  obtain ⟨hg, hn⟩ := and_e (Cond.before_iff.mp (show (Jvm.Cond.and given_1 narrow_1).before args s = true from hpre))
  obtain ⟨gc, gr0⟩ := and_e hg
  obtain ⟨ga0, gr1⟩ := and_e gr0
  obtain ⟨ga1, gr2⟩ := and_e gr1
  obtain ⟨ga2, gr3⟩ := and_e gr2
  obtain ⟨ga3, gr4⟩ := and_e gr3
  obtain ⟨w0, w1, w2, w3, w4, rfl⟩ : ∃ w0 w1 w2 w3 w4 : Value, args = #[w0, w1, w2, w3, w4] := by
    have hs : args.size = 5 := by simpa [Cond.value, given_1] using gc
    obtain ⟨L⟩ := args
    match L, hs with
    | [w0, w1, w2, w3, w4], _ => exact ⟨w0, w1, w2, w3, w4, rfl⟩
  have hw := fun d (hd : d ∈ tables_1) => atoms_spec (ws := Jvm.Cond.code x code maxLocals ret :: tables_1) hat d (List.mem_cons_of_mem _ hd)
  have hfit : Fit s := fun {y c} hc i hi => by
    obtain ⟨ha, rfl⟩ := Array.getElem?_eq_some_iff.mp hc
    have q := List.all_eq_true.mp ((Array.all_eq_true_iff_forall_mem.mp hF) _ (Array.getElem_mem ha)) i (List.mem_range.mpr hi)
    simpa [Array.getElem?_eq_getElem hi] using q
  obtain ⟨i0, ei0⟩ := isL_v ga0
  obtain rfl : w0 = (.long i0) := Option.some.inj ei0
  obtain ⟨i1, ei1⟩ := isL_v ga1
  obtain rfl : w1 = (.long i1) := Option.some.inj ei1
  obtain ⟨i2, ei2⟩ := isL_v ga2
  obtain rfl : w2 = (.long i2) := Option.some.inj ei2
  obtain ⟨i3, ei3⟩ := isL_v ga3
  obtain rfl : w3 = (.long i3) := Option.some.inj ei3
  obtain ⟨i4, ei4⟩ := is_v gr4
  obtain rfl : w4 = (.int i4) := Option.some.inj ei4
  obtain ⟨n, o, h1, h2, h3, _, L, rfl, ⟨rfl, N⟩, hq⟩ := rm0 l s _ hw tables_1 i0 i1 i2 i3 i4 s.heap s.heap.size (Nat.le_refl _)  p e ha hc hk s m _ below hf ((Spec.applies_iff_loose hf).mp happ).1 ⟨rfl, State.Warmed39.refl s, rfl⟩ trivial
  refine ⟨n, _, h1, h2, h3, hpost _ _ _ _ _ _ ⟨Cond.after_iff.mpr rfl, Cond.after_iff.mpr (eq_i res_at (Term.int_eval (1)) rfl), trivial⟩ ⟨hq.1, hq.2.1, (hq.2.2.sift fun y hy => Or.inr (N y hy)).mono (by decide) (by decide)⟩⟩
theorem main_1_1 : Claimed_1_1 := comes_1 fun _ _ _ _ _ _ h hF => ⟨h.1, hF⟩
theorem main_1_2 : Claimed_1_2 := comes_1 fun _ _ _ _ _ _ h hF => ⟨h.2.1, hF⟩
end Jvm.Pilot.@@N@@
namespace Jvm.Pilot.@@N@@
open Jvm Jvm.ClassFile Sem Op Lib Jvm.Free Jvm.Stand Jvm.Pilot.@@N@@.Jvm.D
/-! MADE BY PROGRAM (witnessworld.py) out of the Statement's table words and the real class files: 9 classes; the members and pool entries that the words name. The judged class is class 1, her method 3. -/
namespace start1
open Jvm.ClassFile
def u (s : String) : CpInfo := .utf8 (stringToUtf16 s)
/-- a pool by its gaps: so many unusable entries, then the entry; so many at the end -/
def gap : Nat → List CpInfo → List CpInfo
  | 0, r => r
  | n + 1, r => .unusable :: gap n r
def poolList (es : List (Nat × CpInfo)) (last : Nat) : List CpInfo := es.foldr (fun e r => gap e.1 (e.2 :: r)) (gap last [])
def pool (es : List (Nat × CpInfo)) (last : Nat) : Array CpInfo := ⟨poolList es last⟩
def fileOf (pool : Array CpInfo) (this : Nat) (attrs : Array Attribute := #[]) (ms : Array MethodInfo := #[]) (fl : Nat := 33) (sup : Nat := 0) (ifs : Array Nat := #[]) (fds : Array FieldInfo := #[]) : ClassFile where
  minorVersion := 0
  majorVersion := 65
  constantPool := pool
  accessFlags := fl
  thisClass := this
  superClass := sup
  interfaces := ifs
  fields := fds
  methods := ms
  attributes := attrs
def plain (name : String) (sup : Option ClassId) : Class where
  name := name
  kind := .ordinary
  loader := none
  accessFlags := 33
  super := sup
  interfaces := #[]
  cf := none
  fields := #[]
  methods := #[]
  instanceTypes := #[]
  staticTypes := #[]
  resolved := #[]
  callSites := []
  init := .initialized
  statics := none
  mirror := none

def pool0 : Array CpInfo := pool [(5, u "<init>"), (0, u "()V"), (1, .class_ 10), (1, u "java/lang/Object")] 113

def k0c0 : Code := { maxStack := 0, maxLocals := 1, code := object_method_1_code, exceptionTable := #[], attributes := #[] }
def k0m0 : Method := { name := "<init>", desc := "()V", sig := { parameters := [], returnType := none }, accessFlags := 1, code := some k0c0 }
/-- java/lang/Object -/
def k0 : Class := { plain "java/lang/Object" none with
  accessFlags := 33
  interfaces := #[]
  cf := some (fileOf pool0 8 #[] #[{ accessFlags := 1, nameIndex := 5, descriptorIndex := 6, attributes := #[] }] 33 0 #[] #[])
  fields := #[]
  methods := #[k0m0]
  instanceTypes := #[]
  staticTypes := #[]
  resolved := Array.replicate 124 none
  statics := none }

def pool1 : Array CpInfo := pool [(2, .class_ 4), (1, u "java/lang/Object"), (0, u "<init>"), (0, u "()V"), (2, .long 9223372036854775807), (1, .class_ 12), (0, u "com/example/rapid_pdp/rapidpdp/engine/Budget"), (0, .methodref 11 14), (0, .nameAndType 5 15), (0, u "(J)V"), (0, .methodref 17 18), (0, .class_ 19), (0, .nameAndType 20 21), (0, u "com/example/rapid_pdp/rapidpdp/engine/BudgetSpendPinLaw"), (0, u "pick"), (0, u "(JJI)J"), (0, .methodref 11 23), (0, .nameAndType 24 25), (0, u "spend"), (0, u "(J)Z"), (0, .methodref 17 27), (0, .nameAndType 28 29), (0, u "after"), (0, u "(JJ)J"), (0, .methodref 11 31), (0, .nameAndType 32 33), (0, u "limit"), (0, u "()J"), (3, u "law"), (0, u "(JJJJI)Z")] 2

def k1m0 : Method := { name := "<init>", desc := "()V", sig := { parameters := [], returnType := none }, accessFlags := 1, code := none }
def k1c1 : Code := { maxStack := 4, maxLocals := 6, code := method_2_code, exceptionTable := #[], attributes := #[] }
def k1m1 : Method := { name := "pick", desc := "(JJI)J", sig := { parameters := [.long, .long, .int], returnType := some .long }, accessFlags := 10, code := some k1c1 }
def k1c2 : Code := { maxStack := 4, maxLocals := 4, code := method_3_code, exceptionTable := #[], attributes := #[] }
def k1m2 : Method := { name := "after", desc := "(JJ)J", sig := { parameters := [.long, .long], returnType := some .long }, accessFlags := 10, code := some k1c2 }
def k1c3 : Code := { maxStack := 6, maxLocals := 28, code := code, exceptionTable := #[], attributes := #[] }
def k1m3 : Method := { name := "law", desc := "(JJJJI)Z", sig := { parameters := [.long, .long, .long, .long, .int], returnType := some .boolean }, accessFlags := 9, code := some k1c3 }
/-- com/example/rapid_pdp/rapidpdp/engine/BudgetSpendPinLaw -/
def k1 : Class := { plain "com/example/rapid_pdp/rapidpdp/engine/BudgetSpendPinLaw" (some 0) with
  accessFlags := 49
  interfaces := #[]
  cf := some (fileOf pool1 17 #[] #[{ accessFlags := 1, nameIndex := 5, descriptorIndex := 6, attributes := #[] }, { accessFlags := 10, nameIndex := 20, descriptorIndex := 21, attributes := #[] }, { accessFlags := 10, nameIndex := 28, descriptorIndex := 29, attributes := #[] }, { accessFlags := 9, nameIndex := 37, descriptorIndex := 38, attributes := #[] }] 49 2 #[] #[])
  fields := #[]
  methods := #[k1m0, k1m1, k1m2, k1m3]
  instanceTypes := #[]
  staticTypes := #[]
  resolved := Array.replicate 41 none
  statics := none }

def pool2 : Array CpInfo := pool [(1, .methodref 2 3), (0, .class_ 4), (0, .nameAndType 5 6), (0, u "java/lang/Object"), (0, u "<init>"), (0, u "()V"), (0, .fieldref 8 9), (0, .class_ 10), (0, .nameAndType 11 12), (0, u "com/example/rapid_pdp/rapidpdp/engine/Budget"), (0, u "limit"), (0, u "J"), (0, .fieldref 8 14), (0, .nameAndType 15 12), (0, u "remaining"), (0, u "(J)V"), (2, u "()J"), (0, u "spend"), (0, u "(J)Z")] 3

def k2c0 : Code := { maxStack := 3, maxLocals := 3, code := prog_26_method_1_code, exceptionTable := #[], attributes := #[] }
def k2m0 : Method := { name := "<init>", desc := "(J)V", sig := { parameters := [.long], returnType := none }, accessFlags := 0, code := some k2c0 }
def k2c1 : Code := { maxStack := 2, maxLocals := 1, code := prog_26_method_2_code, exceptionTable := #[], attributes := #[] }
def k2m1 : Method := { name := "limit", desc := "()J", sig := { parameters := [], returnType := some .long }, accessFlags := 0, code := some k2c1 }
def k2c2 : Code := { maxStack := 5, maxLocals := 4, code := prog_26_method_3_code, exceptionTable := #[], attributes := #[] }
def k2m2 : Method := { name := "spend", desc := "(J)Z", sig := { parameters := [.long], returnType := some .boolean }, accessFlags := 0, code := some k2c2 }
/-- com/example/rapid_pdp/rapidpdp/engine/Budget -/
def k2 : Class := { plain "com/example/rapid_pdp/rapidpdp/engine/Budget" (some 0) with
  accessFlags := 48
  interfaces := #[]
  cf := some (fileOf pool2 8 #[] #[{ accessFlags := 0, nameIndex := 5, descriptorIndex := 16, attributes := #[] }, { accessFlags := 0, nameIndex := 11, descriptorIndex := 19, attributes := #[] }, { accessFlags := 0, nameIndex := 20, descriptorIndex := 21, attributes := #[] }] 48 2 #[] #[{ accessFlags := 18, nameIndex := 11, descriptorIndex := 12, attributes := #[] }, { accessFlags := 2, nameIndex := 15, descriptorIndex := 12, attributes := #[] }])
  fields := #[{ name := "limit", type := .long, accessFlags := 18, slot := 0, constantValue := 0 }, { name := "remaining", type := .long, accessFlags := 2, slot := 1, constantValue := 0 }]
  methods := #[k2m0, k2m1, k2m2]
  instanceTypes := #[.long, .long]
  staticTypes := #[]
  resolved := Array.replicate 25 none
  statics := none }

def pool3 : Array CpInfo := pool [(1, u "java/lang/Cloneable"), (0, .class_ 1), (0, u "java/lang/Object"), (0, .class_ 3)] 3

/-- java/lang/Cloneable -/
def k3 : Class := { plain "java/lang/Cloneable" (some 0) with
  accessFlags := 1537
  interfaces := #[]
  cf := some (fileOf pool3 2 #[] #[] 1537 4 #[] #[])
  fields := #[]
  methods := #[]
  instanceTypes := #[]
  staticTypes := #[]
  resolved := Array.replicate 8 none
  statics := none }

def pool4 : Array CpInfo := pool [(1, u "java/io/Serializable"), (0, .class_ 1), (0, u "java/lang/Object"), (0, .class_ 3)] 3

/-- java/io/Serializable -/
def k4 : Class := { plain "java/io/Serializable" (some 0) with
  accessFlags := 1537
  interfaces := #[]
  cf := some (fileOf pool4 2 #[] #[] 1537 4 #[] #[])
  fields := #[]
  methods := #[]
  instanceTypes := #[]
  staticTypes := #[]
  resolved := Array.replicate 8 none
  statics := none }

/-- the primitive byte -/
def k5 : Class := { plain "byte" none with kind := .primitive 'B', accessFlags := 0x411 }
/-- [B -/
def k6 : Class := { plain "[B" (some 0) with kind := .array 5 .byte, interfaces := #[3, 4], accessFlags := 1041 }

/-- the primitive int -/
def k7 : Class := { plain "int" none with kind := .primitive 'I', accessFlags := 0x411 }
/-- [I -/
def k8 : Class := { plain "[I" (some 0) with kind := .array 7 .int, interfaces := #[3, 4], accessFlags := 1041 }

def heap : Heap := #[]
def classes : Array Class := #[k0, k1, k2, k3, k4, k5, k6, k7, k8]
def interned : List (Array UInt16 × Addr) := []
def slotsUsed : Nat := 0
def theMethod : MethodId := ⟨1, 3⟩
def args0 : Array Value := #[.long 5, .long 7, .long 3, .long 1, .int 9]
def aboutOver (below : List Frame) : State where
  vm := { classes := classes, interned := interned.toArray }
  heap := heap
  slotsUsed := slotsUsed
  threads := #[{ frames := .invoking theMethod args0 :: below }]
def below0 : List Frame := [.native { method := ⟨0, 0⟩, args := #[] }]
def about1 : State := aboutOver below0
def p0 : Program := .bare "" "" ""
def e0 : Env := launch0.env 0 0 0
theorem w_frames : about1.frames = Frame.invoking theMethod args0 :: below0 := rfl
set_option maxRecDepth 65536 in
theorem w_args : argsFit about1.vm theMethod args0 = true := by decide +kernel
set_option maxRecDepth 65536 in
theorem w_heap : heapFits about1 = true := by decide +kernel
set_option maxRecDepth 65536 in
theorem w_runnable : about1.curStatus? = some .runnable := by decide +kernel
set_option maxRecDepth 65536 in
theorem w_alone : about1.alone = true := by decide +kernel
set_option maxRecDepth 65536 in
theorem w_named : about1.methodNamed? x = some theMethod := by decide +kernel
set_option maxRecDepth 65536 in
theorem w_hears : about1.hears theMethod below0 = true := by decide +kernel
set_option maxRecDepth 65536 in
theorem w_ripe : about1.ripe theMethod args0 below0 = true := by decide +kernel
theorem w_running : about1.status = .running := rfl
set_option maxRecDepth 65536 in
theorem w_room : about1.hasRoom e0.platform room_1 = true :=
  launch0.hasRoom_least _ room_1 (by decide +kernel) (by decide +kernel) (by decide +kernel) (by decide +kernel) (by decide +kernel) (by decide +kernel)
theorem allAtoms_all (ts : List Jvm.Cond) (a : Array Jvm.Value) (st : Jvm.State) : (allAtoms ts).before a st = ts.all (fun c => c.before a st) := by
  induction ts with
  | nil => rfl
  | cons c t ih =>
    show (Jvm.Cond.and c (allAtoms t)).before a st = _
    rw [Jvm.Cond.before_and, ih, List.all_cons]
def words1 : List Jvm.Cond := Jvm.Cond.code x code maxLocals ret :: tables_1
/-- a 'code' word, met by the world's own term for the bytes: nothing is compared byte by byte -/
theorem code_word {y : MethodName} {bytes : ByteArray} {mx : Nat} {rt : Option FieldType} {a : Array Value} {s : State} {m : MethodId} {meth : Method} {c : Code} (h1 : s.methodNamed? y = some m) (h2 : s.vm.method? m = some meth) (h3 : meth.code = some c) (h4 : c.code = bytes)
    (h5 : (c.maxLocals == mx && c.exceptionTable.isEmpty && decide (c.maxStack ≤ mostOperands) && decide (meth.sig.returnType = rt) && !meth.locks && decide (parseMethodDescriptor y.desc = some meth.sig)) = true) : (Jvm.Cond.code y bytes mx rt).before a s = true := by
  simp only [Bool.and_eq_true, beq_iff_eq, Bool.not_eq_true', decide_eq_true_eq] at h5
  obtain ⟨⟨⟨⟨⟨g1, g2⟩, g3⟩, g4⟩, g5⟩, g6⟩ := h5
  simp [Cond.before, Cond.holds, Cond.value, h1, h2, h3, h4, g1, g2, g3, g4, g5, g6]
def isCode : Jvm.Cond → Bool
  | .code _ _ _ _ => true
  | _ => false
theorem all_split {L : List Jvm.Cond} {P : Jvm.Cond → Bool} (h1 : L.all (fun c => isCode c || P c) = true) (h2 : ∀ c ∈ L.filter isCode, P c = true) : L.all P = true := by
  refine List.all_eq_true.mpr fun c hc => ?_
  have h := List.all_eq_true.mp h1 c hc
  rcases Bool.eq_false_or_eq_true (isCode c) with hi | hi
  · exact h2 c (List.mem_filter.mpr ⟨hc, hi⟩)
  · simpa [hi] using h
set_option maxRecDepth 65536 in
theorem w_c0 : (Jvm.Cond.code x code maxLocals ret).before args0 about1 = true := code_word (m := ⟨1, 3⟩) (meth := k1m3) (c := k1c3) (by decide +kernel) rfl rfl rfl (by decide +kernel)
set_option maxRecDepth 65536 in
theorem w_c1 : (Jvm.Cond.code ({ cls := "com/example/rapid_pdp/rapidpdp/engine/Budget", name := "<init>", desc := "(J)V" } : Jvm.MethodName) prog_26_method_1_code (3 : Nat) (Option.none : Option Jvm.ClassFile.FieldType)).before args0 about1 = true := code_word (m := ⟨2, 0⟩) (meth := k2m0) (c := k2c0) (by decide +kernel) rfl rfl rfl (by decide +kernel)
set_option maxRecDepth 65536 in
theorem w_c2 : (Jvm.Cond.code ({ cls := "java/lang/Object", name := "<init>", desc := "()V" } : Jvm.MethodName) object_method_1_code (1 : Nat) (Option.none : Option Jvm.ClassFile.FieldType)).before args0 about1 = true := code_word (m := ⟨0, 0⟩) (meth := k0m0) (c := k0c0) (by decide +kernel) rfl rfl rfl (by decide +kernel)
set_option maxRecDepth 65536 in
theorem w_c3 : (Jvm.Cond.code ({ cls := "com/example/rapid_pdp/rapidpdp/engine/BudgetSpendPinLaw", name := "pick", desc := "(JJI)J" } : Jvm.MethodName) method_2_code (6 : Nat) (Option.some Jvm.ClassFile.FieldType.long)).before args0 about1 = true := code_word (m := ⟨1, 1⟩) (meth := k1m1) (c := k1c1) (by decide +kernel) rfl rfl rfl (by decide +kernel)
set_option maxRecDepth 65536 in
theorem w_c4 : (Jvm.Cond.code ({ cls := "com/example/rapid_pdp/rapidpdp/engine/Budget", name := "spend", desc := "(J)Z" } : Jvm.MethodName) prog_26_method_3_code (4 : Nat) (Option.some Jvm.ClassFile.FieldType.boolean)).before args0 about1 = true := code_word (m := ⟨2, 2⟩) (meth := k2m2) (c := k2c2) (by decide +kernel) rfl rfl rfl (by decide +kernel)
set_option maxRecDepth 65536 in
theorem w_c5 : (Jvm.Cond.code ({ cls := "com/example/rapid_pdp/rapidpdp/engine/BudgetSpendPinLaw", name := "after", desc := "(JJ)J" } : Jvm.MethodName) method_3_code (4 : Nat) (Option.some Jvm.ClassFile.FieldType.long)).before args0 about1 = true := code_word (m := ⟨1, 2⟩) (meth := k1m2) (c := k1c2) (by decide +kernel) rfl rfl rfl (by decide +kernel)
set_option maxRecDepth 65536 in
theorem w_c6 : (Jvm.Cond.code ({ cls := "com/example/rapid_pdp/rapidpdp/engine/Budget", name := "limit", desc := "()J" } : Jvm.MethodName) prog_26_method_2_code (1 : Nat) (Option.some Jvm.ClassFile.FieldType.long)).before args0 about1 = true := code_word (m := ⟨2, 1⟩) (meth := k2m1) (c := k2c1) (by decide +kernel) rfl rfl rfl (by decide +kernel)
def codes1 : List Jvm.Cond := [Jvm.Cond.code x code maxLocals ret, Jvm.Cond.code ({ cls := "com/example/rapid_pdp/rapidpdp/engine/Budget", name := "<init>", desc := "(J)V" } : Jvm.MethodName) prog_26_method_1_code (3 : Nat) (Option.none : Option Jvm.ClassFile.FieldType), Jvm.Cond.code ({ cls := "java/lang/Object", name := "<init>", desc := "()V" } : Jvm.MethodName) object_method_1_code (1 : Nat) (Option.none : Option Jvm.ClassFile.FieldType), Jvm.Cond.code ({ cls := "com/example/rapid_pdp/rapidpdp/engine/BudgetSpendPinLaw", name := "pick", desc := "(JJI)J" } : Jvm.MethodName) method_2_code (6 : Nat) (Option.some Jvm.ClassFile.FieldType.long), Jvm.Cond.code ({ cls := "com/example/rapid_pdp/rapidpdp/engine/Budget", name := "spend", desc := "(J)Z" } : Jvm.MethodName) prog_26_method_3_code (4 : Nat) (Option.some Jvm.ClassFile.FieldType.boolean), Jvm.Cond.code ({ cls := "com/example/rapid_pdp/rapidpdp/engine/BudgetSpendPinLaw", name := "after", desc := "(JJ)J" } : Jvm.MethodName) method_3_code (4 : Nat) (Option.some Jvm.ClassFile.FieldType.long), Jvm.Cond.code ({ cls := "com/example/rapid_pdp/rapidpdp/engine/Budget", name := "limit", desc := "()J" } : Jvm.MethodName) prog_26_method_2_code (1 : Nat) (Option.some Jvm.ClassFile.FieldType.long)]
set_option maxRecDepth 65536 in
theorem codes_eq : words1.filter isCode = codes1 := rfl
theorem w_codes : ∀ c ∈ words1.filter isCode, c.before args0 about1 = true := by
  rw [codes_eq]
  intro c hc
  simp only [codes1, List.mem_cons, List.not_mem_nil, or_false] at hc
  rcases hc with rfl | rfl | rfl | rfl | rfl | rfl | rfl
  · exact w_c0
  · exact w_c1
  · exact w_c2
  · exact w_c3
  · exact w_c4
  · exact w_c5
  · exact w_c6
set_option maxRecDepth 65536 in
theorem w_t1 : (words1.take 24).all (fun c => isCode c || c.before args0 about1) = true := by decide +kernel
set_option maxRecDepth 65536 in
theorem w_t2 : (words1.drop 24).all (fun c => isCode c || c.before args0 about1) = true := by decide +kernel
theorem w_tables : (allAtoms (Jvm.Cond.code x code maxLocals ret :: tables_1)).before args0 about1 = true := by
  rw [allAtoms_all]
  show words1.all (fun c => c.before args0 about1) = true
  refine all_split ?_ w_codes
  rw [← List.take_append_drop 24 words1, List.all_append, w_t1, w_t2]
  rfl
set_option maxRecDepth 65536 in
theorem w_case : (Jvm.Cond.and given_1 narrow_1).before args0 about1 = true := by decide +kernel
theorem w_applies : (headSpec (Jvm.Cond.code x code maxLocals ret :: tables_1) room_1).applies x e0.platform about1 = true :=
  (Spec.applies_iff w_frames).mpr ⟨w_running, w_runnable, w_alone, w_named, w_hears, w_ripe, w_room, w_tables⟩
theorem atStart : AtStart classFile x code maxLocals ret World_1 tables_1 room_1 Calls_1 rest_1 Pre_1 launch0 p0 e0 about1 theMethod args0 below0 :=
  ⟨lists_1, trivial, launch0.admits_env _ _ _, launch0.least_env, fairChoices_fair.cas, fairChoices_fair.clock, w_frames, w_args, w_heap, w_applies, trivial, trivial, w_case⟩
end start1
theorem witness_1 : WitnessClaimed_1 := ⟨start1.p0, start1.e0, start1.about1, start1.theMethod, start1.args0, start1.below0, start1.atStart⟩
end Jvm.Pilot.@@N@@
