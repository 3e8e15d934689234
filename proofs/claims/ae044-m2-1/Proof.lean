import JvmDerived
import JvmDerived.Pilot.@@N@@Statement
import JvmDerived.Pilot.@@N@@Code
set_option linter.unusedVariables false
set_option linter.unusedSimpArgs false
namespace Jvm.RoadKit
open Sem ClassFile Op Lib Jvm.Stand Jvm.Free Jvm.LawKit
section New
variable {p : Program} {l : Launch} {e : Env} {R : Room} {s : State} {m : MethodId} {args : Array Value} {below : List Frame} {meth : Method} {c : Code} {T : State} {locs : List Loc} {cells slots : Nat}
theorem retI (X : Stand p l e R s m args below meth c T locs cells slots) (hx : p.tables.exec = Jvm.exec) {pc : Nat} {Ls : Array Slot} {z : Int32} {rest : List Value} (hret : meth.sig.returnType = some .int) (hd : decode c.code pc = .ok (.ireturn, 1)) {fs : List Frame}
    (hl : ∀ (f : JFrame) (acts : List Action), f.method = m → f.locked = none → f.entered = [] → (doReturn e (T.setTop f) acts (some (.int z))).1 = T.setFrames fs) : Steps p.tables e below (T.setTop (mkF m pc Ls (.int z :: rest))) (T.setFrames fs) := by
  have hm' : T.vm.method? m = some meth := X.method'
  have hn : narrow .int (.int z) = .int z := rfl
  show Steps p.tables e below (T.setTop { method := m, pc := pc, locals := Ls, stack := _ :: rest, locked := none }) _
  jvm_step X.here [X.here.top, hx, hd, hm', hret, hn]
  first | (intro acts; rw [hl _ acts rfl rfl rfl]) | rw [hl _ _ rfl rfl rfl]
  exact Steps.refl _
end New
end Jvm.RoadKit
namespace Jvm.Pilot.@@N@@
open Jvm Jvm.ClassFile Sem Op Lib Jvm.Free Jvm.Stand Jvm.LawKit Jvm.RoadKit Bundle Jvm.Pilot.@@N@@.Jvm.D
theorem own_more {p : Program} {l : Launch} {e : Env} {R : Room} {s : State} {m : MethodId} {args : Array Value} {below : List Frame} {meth : Method} {c : Code} {T : State} {locs : List Loc} {k n k' n' : Nat} (X : Stand p l e R s m args below meth c T locs k n) (hk : k ≤ k') (hn : n ≤ n') : Stand p l e R s m args below meth c T locs k' n' := { X with same := X.same.mono hk hn }
theorem own_nar {t : FieldType} {v : Value} (h : v.isRef = true) (ht : t.isReference = true := by rfl) : narrow t v = v := by
  rcases ref_cases h with rfl | ⟨a, rfl⟩ <;> cases t <;> first | rfl | (cases ht; done)
theorem own_fit {t : FieldType} {v : Value} (h : v.isRef = true) (ht : t.isReference = true := by rfl) : fits t v = true := by
  rcases ref_cases h with rfl | ⟨a, rfl⟩ <;> cases t <;> first | rfl | (cases ht; done)
theorem own_cat {v : Value} (h : v.isRef = true) : v.category = 1 := by rcases ref_cases h with rfl | ⟨a, rfl⟩ <;> rfl
abbrev Rch (p : Program) (e : Env) (below : List Frame) (A B : State) : Prop := ∀ t, Steps p.tables e below B t → Steps p.tables e below A t
def own_mask (p2 p3 : Int32) : Int64 := (if p3 = (64 : Int32) then (-1 : Int64) else ((((1 : Int64) <<< (p3 &&& 0x3f).toInt64) - (1 : Int64)) <<< (p2 &&& 0x3f).toInt64))

theorem d1_0 : decode prog_4_method_1_code 0 = .ok (.aload_n 0, 1) := by decide +kernel
theorem d1_1 : decode prog_4_method_1_code 1 = .ok (.invokespecial 1, 3) := by decide +kernel
theorem d1_4 : decode prog_4_method_1_code 4 = .ok (.aload_n 0, 1) := by decide +kernel
theorem d1_5 : decode prog_4_method_1_code 5 = .ok (.bipush 16, 2) := by decide +kernel
theorem d1_7 : decode prog_4_method_1_code 7 = .ok (.putfield 9, 3) := by decide +kernel
theorem d1_10 : decode prog_4_method_1_code 10 = .ok (.aload_n 0, 1) := by decide +kernel
theorem d1_11 : decode prog_4_method_1_code 11 = .ok (.iload_n 2, 1) := by decide +kernel
theorem d1_12 : decode prog_4_method_1_code 12 = .ok (.bipush 64, 2) := by decide +kernel
theorem d1_14 : decode prog_4_method_1_code 14 = .ok (.if_icmp .ne 9, 3) := by decide +kernel
theorem d1_23 : decode prog_4_method_1_code 23 = .ok (.lconst 1, 1) := by decide +kernel
theorem d1_24 : decode prog_4_method_1_code 24 = .ok (.iload_n 2, 1) := by decide +kernel
theorem d1_25 : decode prog_4_method_1_code 25 = .ok (.lshl, 1) := by decide +kernel
theorem d1_26 : decode prog_4_method_1_code 26 = .ok (.lconst 1, 1) := by decide +kernel
theorem d1_27 : decode prog_4_method_1_code 27 = .ok (.lsub, 1) := by decide +kernel
theorem d1_28 : decode prog_4_method_1_code 28 = .ok (.iload_n 1, 1) := by decide +kernel
theorem d1_29 : decode prog_4_method_1_code 29 = .ok (.lshl, 1) := by decide +kernel
theorem d1_30 : decode prog_4_method_1_code 30 = .ok (.putfield 17, 3) := by decide +kernel
theorem d1_17 : decode prog_4_method_1_code 17 = .ok (.ldc2_w 15, 3) := by decide +kernel
theorem d1_20 : decode prog_4_method_1_code 20 = .ok (.goto 10, 3) := by decide +kernel
theorem d1_33 : decode prog_4_method_1_code 33 = .ok (.aload_n 0, 1) := by decide +kernel
theorem d1_34 : decode prog_4_method_1_code 34 = .ok (.iload_n 1, 1) := by decide +kernel
theorem d1_35 : decode prog_4_method_1_code 35 = .ok (.putfield 21, 3) := by decide +kernel
theorem d1_38 : decode prog_4_method_1_code 38 = .ok (.aload_n 0, 1) := by decide +kernel
theorem d1_39 : decode prog_4_method_1_code 39 = .ok (.iload_n 2, 1) := by decide +kernel
theorem d1_40 : decode prog_4_method_1_code 40 = .ok (.putfield 24, 3) := by decide +kernel
theorem d1_43 : decode prog_4_method_1_code 43 = .ok (.aload_n 0, 1) := by decide +kernel
theorem d1_44 : decode prog_4_method_1_code 44 = .ok (.iconst 1, 1) := by decide +kernel
theorem d1_45 : decode prog_4_method_1_code 45 = .ok (.newarray .int, 2) := by decide +kernel
theorem d1_47 : decode prog_4_method_1_code 47 = .ok (.putfield 27, 3) := by decide +kernel
theorem d1_50 : decode prog_4_method_1_code 50 = .ok (.aload_n 0, 1) := by decide +kernel
theorem d1_51 : decode prog_4_method_1_code 51 = .ok (.iconst 1, 1) := by decide +kernel
theorem d1_52 : decode prog_4_method_1_code 52 = .ok (.newarray .int, 2) := by decide +kernel
theorem d1_54 : decode prog_4_method_1_code 54 = .ok (.putfield 31, 3) := by decide +kernel
theorem d1_57 : decode prog_4_method_1_code 57 = .ok (.aload_n 0, 1) := by decide +kernel
theorem d1_58 : decode prog_4_method_1_code 58 = .ok (.iconst 1, 1) := by decide +kernel
theorem d1_59 : decode prog_4_method_1_code 59 = .ok (.newarray .int, 2) := by decide +kernel
theorem d1_61 : decode prog_4_method_1_code 61 = .ok (.putfield 34, 3) := by decide +kernel
theorem d1_64 : decode prog_4_method_1_code 64 = .ok (.aload_n 0, 1) := by decide +kernel
theorem d1_65 : decode prog_4_method_1_code 65 = .ok (.iconst 4, 1) := by decide +kernel
theorem d1_66 : decode prog_4_method_1_code 66 = .ok (.newarray .int, 2) := by decide +kernel
theorem d1_68 : decode prog_4_method_1_code 68 = .ok (.putfield 37, 3) := by decide +kernel
theorem d1_71 : decode prog_4_method_1_code 71 = .ok (.aload_n 0, 1) := by decide +kernel
theorem d1_72 : decode prog_4_method_1_code 72 = .ok (.iconst 4, 1) := by decide +kernel
theorem d1_73 : decode prog_4_method_1_code 73 = .ok (.newarray .byte, 2) := by decide +kernel
theorem d1_75 : decode prog_4_method_1_code 75 = .ok (.putfield 40, 3) := by decide +kernel
theorem d1_78 : decode prog_4_method_1_code 78 = .ok (.return_, 1) := by decide +kernel
theorem pn_0 : plainName "com/example/kinhash/kinhash/BlockTable" = true := by first | (simp [plainName, overriddenIn]; done) | decide +kernel
theorem d3_0 : decode prog_4_method_2_code 0 = .ok (.lload_n 1, 1) := by decide +kernel
theorem d3_1 : decode prog_4_method_2_code 1 = .ok (.aload_n 0, 1) := by decide +kernel
theorem d3_2 : decode prog_4_method_2_code 2 = .ok (.getfield 17, 3) := by decide +kernel
theorem d3_5 : decode prog_4_method_2_code 5 = .ok (.land, 1) := by decide +kernel
theorem d3_6 : decode prog_4_method_2_code 6 = .ok (.lconst 0, 1) := by decide +kernel
theorem d3_7 : decode prog_4_method_2_code 7 = .ok (.lcmp, 1) := by decide +kernel
theorem d3_8 : decode prog_4_method_2_code 8 = .ok (.ifCond .ne 7, 3) := by decide +kernel
theorem d3_15 : decode prog_4_method_2_code 15 = .ok (.iconst 0, 1) := by decide +kernel
theorem d3_11 : decode prog_4_method_2_code 11 = .ok (.iconst 1, 1) := by decide +kernel
theorem d3_12 : decode prog_4_method_2_code 12 = .ok (.goto 4, 3) := by decide +kernel
theorem d3_16 : decode prog_4_method_2_code 16 = .ok (.ireturn, 1) := by decide +kernel
theorem d4_0 : decode method_2_code 0 = .ok (.iload_n 3, 1) := by decide +kernel
theorem d4_1 : decode method_2_code 1 = .ok (.ifCond .ne 5, 3) := by decide +kernel
theorem d4_6 : decode method_2_code 6 = .ok (.bipush 64, 2) := by decide +kernel
theorem d4_8 : decode method_2_code 8 = .ok (.iload_n 2, 1) := by decide +kernel
theorem d4_9 : decode method_2_code 9 = .ok (.isub, 1) := by decide +kernel
theorem d4_10 : decode method_2_code 10 = .ok (.iload_n 3, 1) := by decide +kernel
theorem d4_11 : decode method_2_code 11 = .ok (.isub, 1) := by decide +kernel
theorem d4_12 : decode method_2_code 12 = .ok (.istore 4, 2) := by decide +kernel
theorem d4_14 : decode method_2_code 14 = .ok (.lload_n 0, 1) := by decide +kernel
theorem d4_15 : decode method_2_code 15 = .ok (.iload 4, 2) := by decide +kernel
theorem d4_17 : decode method_2_code 17 = .ok (.lshl, 1) := by decide +kernel
theorem d4_18 : decode method_2_code 18 = .ok (.lstore 5, 2) := by decide +kernel
theorem d4_20 : decode method_2_code 20 = .ok (.lload 5, 2) := by decide +kernel
theorem d4_22 : decode method_2_code 22 = .ok (.bipush 64, 2) := by decide +kernel
theorem d4_24 : decode method_2_code 24 = .ok (.iload_n 3, 1) := by decide +kernel
theorem d4_25 : decode method_2_code 25 = .ok (.isub, 1) := by decide +kernel
theorem d4_26 : decode method_2_code 26 = .ok (.lushr, 1) := by decide +kernel
theorem d4_27 : decode method_2_code 27 = .ok (.lconst 0, 1) := by decide +kernel
theorem d4_28 : decode method_2_code 28 = .ok (.lcmp, 1) := by decide +kernel
theorem d4_29 : decode method_2_code 29 = .ok (.ifCond .ne 7, 3) := by decide +kernel
theorem d4_36 : decode method_2_code 36 = .ok (.iconst 0, 1) := by decide +kernel
theorem d4_32 : decode method_2_code 32 = .ok (.iconst 1, 1) := by decide +kernel
theorem d4_33 : decode method_2_code 33 = .ok (.goto 4, 3) := by decide +kernel
theorem d4_4 : decode method_2_code 4 = .ok (.iconst 1, 1) := by decide +kernel
theorem d4_5 : decode method_2_code 5 = .ok (.ireturn, 1) := by decide +kernel
theorem d4_37 : decode method_2_code 37 = .ok (.ireturn, 1) := by decide +kernel
theorem pn_1 : plainName "com/example/kinhash/kinhash/BlockTableAgreesPinLaw" = true := by first | (simp [plainName, overriddenIn]; done) | decide +kernel
theorem pd_0 : parseMethodDescriptor "(II)V" = some ⟨[.int, .int], none⟩ := by decide +kernel
theorem pd_1 : parseMethodDescriptor "(J)Z" = some ⟨[.long], some .boolean⟩ := by decide +kernel
theorem pd_2 : parseMethodDescriptor "(JII)Z" = some ⟨[.long, .int, .int], some .boolean⟩ := by decide +kernel
def Q_rmI (Z : State) (a1 : Addr) (p2 : Int32) (p3 : Int32) (h0 : Heap) (n0 : Nat) (v : Option Value) (h : Heap) (L : List Loc) : Prop := v = none ∧ Fr n0 L ∧ Keep h0 h [a1] ∧ (Exa Z h a1 "com/example/kinhash/kinhash/BlockTable") ∧ (Fld Z h a1 "com/example/kinhash/kinhash/BlockTable" "mask" "J" (.long (own_mask p2 p3)))
set_option maxRecDepth 65536 in
set_option maxHeartbeats 40000000 in
theorem rmI (l : Launch) (Z : State) (a0 : Array Value) (hw : ∀ d ∈ tables_1, d.before a0 Z = true) (ws : List Jvm.Cond) (a1 : Addr) (p2 : Int32) (p3 : Int32) (h0 : Heap) (n0 : Nat) (Z0 : n0 ≤ h0.size) (E1 : Exa Z h0 a1 "com/example/kinhash/kinhash/BlockTable") (g1 : n0 ≤ a1) (F0 : Fld Z h0 a1 "com/example/kinhash/kinhash/BlockTable" "recordBits" "I" (.int (0 : Int32))) (F1 : Fld Z h0 a1 "com/example/kinhash/kinhash/BlockTable" "mask" "J" (.long (0 : Int64))) (F2 : Fld Z h0 a1 "com/example/kinhash/kinhash/BlockTable" "lowestBit" "I" (.int (0 : Int32))) (F3 : Fld Z h0 a1 "com/example/kinhash/kinhash/BlockTable" "width" "I" (.int (0 : Int32))) (F4 : Fld Z h0 a1 "com/example/kinhash/kinhash/BlockTable" "start" "[I" .null) (F5 : Fld Z h0 a1 "com/example/kinhash/kinhash/BlockTable" "length" "[I" .null) (F6 : Fld Z h0 a1 "com/example/kinhash/kinhash/BlockTable" "room" "[I" .null) (F7 : Fld Z h0 a1 "com/example/kinhash/kinhash/BlockTable" "entries" "[I" .null) (F8 : Fld Z h0 a1 "com/example/kinhash/kinhash/BlockTable" "tags" "[B" .null) :
    MetFree l (⟨"com/example/kinhash/kinhash/BlockTable", "<init>", "(II)V"⟩ : MethodName) (head1 (Jvm.Cond.code (⟨"com/example/kinhash/kinhash/BlockTable", "<init>", "(II)V"⟩ : MethodName) prog_4_method_1_code 3 none :: ws) ({ frames := 1, cells := 5, slots := 11, locals := 12 } : Room)) (fun a U => a = #[(.ref a1), (.int p2), (.int p3)] ∧ Z.Warmed39 U.vm ∧ U.heap = h0) (fun _ _ _ _ _ => True) (fun _ U o U' => ∃ v L, o = .returned v ∧ Q_rmI Z a1 p2 p3 h0 n0 v U'.heap L ∧ FrameEnd U o U' L ({ frames := 1, cells := 5, slots := 11, locals := 12 } : Room).cells ({ frames := 1, cells := 5, slots := 11, locals := 12 } : Room).slots) := by
  refine MetFree.of_bodySF (plainFor_of_name pn_0) hisR ?_
  intro p e s m args below meth c s₁ Bd hml0 hP hK
  obtain ⟨rfl, hZ, hh⟩ := hP
  have hx := Bd.exec
  have hby := Bd.bytes
  have hml : c.maxLocals = 3 := hml0
  have hown : s.vm.findClass "com/example/kinhash/kinhash/BlockTable" = some m.cls := findClass_of_methodNamed Bd.named
  have hnm := (name_of_methodNamed Bd.named Bd.method).1
  have X0 : Stand p l e ({ frames := 1, cells := 5, slots := 11, locals := 12 } : Room) s m #[(.ref a1), (.int p2), (.int p3)] below meth c s₁ [] 0 0 := Stand.of_body Bd
  have e0 : s₁.heap = h0 := by rw [← hh, Bd.state]; rfl
  have N0 := Fr.nil n0
  have P0 : Rch p e below (s₁.setTop (entryFrame m #[(.ref a1), (.int p2), (.int p3)] 3)) (s₁.setTop (mkF m 0 #[.val (.ref a1), .val (.int p2), .val (.int p3)] [])) := fun t k => castTop (by first | (simp [entryFrame, mkF, argsToLocals, Value.category]; done) | rfl) k
  have P1 : Rch p e below (s₁.setTop (entryFrame m #[(.ref a1), (.int p2), (.int p3)] 3)) (s₁.setTop (mkF m 1 #[.val (.ref a1), .val (.int p2), .val (.int p3)] [(.ref a1)])) := fun t k => P0 t (by
    show Steps p.tables e below (s₁.setTop (mkF m 0 #[.val (.ref a1), .val (.int p2), .val (.int p3)] [])) t
    refine XS.aloadN X0.here hx rfl (hb hby d1_0) rfl rfl ?_
    exact k)
  obtain ⟨T2, X2, e2, st2⟩ := initO X0 hx hZ hown (hw _ (List.mem_of_getElem? (i := 7) rfl)) (hw _ (List.mem_of_getElem? (i := 8) rfl)) (hw _ (List.mem_of_getElem? (i := 9) rfl)) e0 (g := (mkF m 1 #[.val (.ref a1), .val (.int p2), .val (.int p3)] [(.ref a1)])) rfl (by rw [hml]; rfl) rfl (hb hby d1_1) (by decide) (W := 0) (by show 2 * 0 + _ ≤ _; exact Nat.le_of_eq rfl) (by decide)
  have P3 : Rch p e below (s₁.setTop (entryFrame m #[(.ref a1), (.int p2), (.int p3)] 3)) (T2.setTop (mkF m 4 #[.val (.ref a1), .val (.int p2), .val (.int p3)] [])) := fun t k => P1 t (st2 t k)
  have P4 : Rch p e below (s₁.setTop (entryFrame m #[(.ref a1), (.int p2), (.int p3)] 3)) (T2.setTop (mkF m 7 #[.val (.ref a1), .val (.int p2), .val (.int p3)] [(.int (16 : Int32)), (.ref a1)])) := fun t k => P3 t (by
    show Steps p.tables e below (T2.setTop (mkF m 4 #[.val (.ref a1), .val (.int p2), .val (.int p3)] [])) t
    refine XS.aloadN X2.here hx rfl (hb hby d1_4) rfl rfl ?_
    show Steps p.tables e below (T2.setTop (mkF m 5 #[.val (.ref a1), .val (.int p2), .val (.int p3)] [(.ref a1)])) t
    refine XS.bipush X2.here hx rfl (hb hby d1_5) ?_
    exact k)
  obtain ⟨T5, h5, X5, e5, W5, st5⟩ := putF X2 hx hZ hown (host := "") (Or.inl (hw _ (List.mem_of_getElem? (i := 10) rfl))) Via.refl e2 F0 E1 (Or.inl (hw _ (List.mem_of_getElem? (i := 11) rfl))) (hw _ (List.mem_of_getElem? (i := 2) rfl)) (ty := .int) (by decide) rfl rfl (g := (mkF m 7 #[.val (.ref a1), .val (.int p2), .val (.int p3)] [(.int (16 : Int32)), (.ref a1)])) rfl rfl (hb hby d1_7)
  have Fw5 := F0.same W5
  have P6 : Rch p e below (s₁.setTop (entryFrame m #[(.ref a1), (.int p2), (.int p3)] 3)) (T5.setTop (mkF m 10 #[.val (.ref a1), .val (.int p2), .val (.int p3)] [])) := fun t k => P4 t (st5 t k)
  have N5 := Fr.snoc X5 N0 g1
  have P7 : Rch p e below (s₁.setTop (entryFrame m #[(.ref a1), (.int p2), (.int p3)] 3)) (T5.setTop (mkF m 14 #[.val (.ref a1), .val (.int p2), .val (.int p3)] [(.int (64 : Int32)), (.int p3), (.ref a1)])) := fun t k => P6 t (by
    show Steps p.tables e below (T5.setTop (mkF m 10 #[.val (.ref a1), .val (.int p2), .val (.int p3)] [])) t
    refine XS.aloadN X5.here hx rfl (hb hby d1_10) rfl rfl ?_
    show Steps p.tables e below (T5.setTop (mkF m 11 #[.val (.ref a1), .val (.int p2), .val (.int p3)] [(.ref a1)])) t
    refine XS.iloadN X5.here hx rfl (hb hby d1_11) rfl ?_
    show Steps p.tables e below (T5.setTop (mkF m 12 #[.val (.ref a1), .val (.int p2), .val (.int p3)] [(.int p3), (.ref a1)])) t
    refine XS.bipush X5.here hx rfl (hb hby d1_12) ?_
    exact k)
  obtain ⟨v9, hv9, P10⟩ : ∃ (v9 : Int64), v9 = (if p3 = (64 : Int32) then (-1 : Int64) else ((((1 : Int64) <<< (p3 &&& 0x3f).toInt64) - (1 : Int64)) <<< (p2 &&& 0x3f).toInt64)) ∧ Rch p e below (s₁.setTop (entryFrame m #[(.ref a1), (.int p2), (.int p3)] 3)) (T5.setTop (mkF m 30 #[.val (.ref a1), .val (.int p2), .val (.int p3)] [(.long v9), (.ref a1)])) := by
    by_cases c8 : p3 = (64 : Int32)
    · refine ⟨(-1 : Int64), (by first | rfl | rw [if_pos c8] | simp only [if_pos c8]), fun t k => P7 t ?_⟩
      show Steps p.tables e below (T5.setTop (mkF m 14 #[.val (.ref a1), .val (.int p2), .val (.int p3)] [(.int (64 : Int32)), (.int p3), (.ref a1)])) t
      refine XS.icmpNo X5.here hx rfl (hb hby d1_14) rfl (teq c8).2 ?_
      show Steps p.tables e below (T5.setTop (mkF m 17 #[.val (.ref a1), .val (.int p2), .val (.int p3)] [(.ref a1)])) t
      refine X5.ldc2Long hx hown (mvT hZ (hw _ (List.mem_of_getElem? (i := 39) rfl))) (g := (mkF m 17 #[.val (.ref a1), .val (.int p2), .val (.int p3)] [(.ref a1)])) rfl (hb hby d1_17) _ ?_
      show Steps p.tables e below (T5.setTop (mkF m 20 #[.val (.ref a1), .val (.int p2), .val (.int p3)] [(.long (-1 : Int64)), (.ref a1)])) t
      refine XS.goto X5.here hx rfl (pc0 := 20) (pc' := 30) rfl (hb hby d1_20) (by decide) (by decide) ?_
      exact k
    · refine ⟨((((1 : Int64) <<< (p3 &&& 0x3f).toInt64) - (1 : Int64)) <<< (p2 &&& 0x3f).toInt64), (by first | rfl | rw [if_neg c8] | simp only [if_neg c8]), fun t k => P7 t ?_⟩
      show Steps p.tables e below (T5.setTop (mkF m 14 #[.val (.ref a1), .val (.int p2), .val (.int p3)] [(.int (64 : Int32)), (.int p3), (.ref a1)])) t
      refine XS.icmpYes X5.here hx rfl (pc0 := 14) (pc' := 23) rfl (hb hby d1_14) rfl (feq c8).2 (by decide) (by decide) ?_
      show Steps p.tables e below (T5.setTop (mkF m 23 #[.val (.ref a1), .val (.int p2), .val (.int p3)] [(.ref a1)])) t
      refine XS.lconst X5.here hx rfl (hb hby d1_23) ?_
      show Steps p.tables e below (T5.setTop (mkF m 24 #[.val (.ref a1), .val (.int p2), .val (.int p3)] [(.long (1 : Int64)), (.ref a1)])) t
      refine XS.iloadN X5.here hx rfl (hb hby d1_24) rfl ?_
      show Steps p.tables e below (T5.setTop (mkF m 25 #[.val (.ref a1), .val (.int p2), .val (.int p3)] [(.int p3), (.long (1 : Int64)), (.ref a1)])) t
      refine XS.lshl X5.here hx rfl (hb hby d1_25) rfl ?_
      show Steps p.tables e below (T5.setTop (mkF m 26 #[.val (.ref a1), .val (.int p2), .val (.int p3)] [(.long ((1 : Int64) <<< (p3 &&& 0x3f).toInt64)), (.ref a1)])) t
      refine XS.lconst X5.here hx rfl (hb hby d1_26) ?_
      show Steps p.tables e below (T5.setTop (mkF m 27 #[.val (.ref a1), .val (.int p2), .val (.int p3)] [(.long (1 : Int64)), (.long ((1 : Int64) <<< (p3 &&& 0x3f).toInt64)), (.ref a1)])) t
      refine XS.lsub X5.here hx rfl (hb hby d1_27) rfl ?_
      show Steps p.tables e below (T5.setTop (mkF m 28 #[.val (.ref a1), .val (.int p2), .val (.int p3)] [(.long (((1 : Int64) <<< (p3 &&& 0x3f).toInt64) - (1 : Int64))), (.ref a1)])) t
      refine XS.iloadN X5.here hx rfl (hb hby d1_28) rfl ?_
      show Steps p.tables e below (T5.setTop (mkF m 29 #[.val (.ref a1), .val (.int p2), .val (.int p3)] [(.int p2), (.long (((1 : Int64) <<< (p3 &&& 0x3f).toInt64) - (1 : Int64))), (.ref a1)])) t
      refine XS.lshl X5.here hx rfl (hb hby d1_29) rfl ?_
      exact k
  have f12 : Fld Z h5 a1 "com/example/kinhash/kinhash/BlockTable" "mask" "J" (.long (0 : Int64)) := (F1.other W5 (Or.inr (slot_ne (Or.inr (hw _ (List.mem_of_getElem? (i := 13) rfl))) (Or.inl (hw _ (List.mem_of_getElem? (i := 11) rfl))) (by decide) (t := .long) (t' := .int) (by decide) (by decide))))
  obtain ⟨T11, h11, X11, e11, W11, st11⟩ := putF X5 hx hZ hown (host := "") (Or.inl (hw _ (List.mem_of_getElem? (i := 12) rfl))) Via.refl e5 f12 (E1.wr W5) (Or.inr ⟨(hw _ (List.mem_of_getElem? (i := 13) rfl)), rfl, hnm⟩) (hw _ (List.mem_of_getElem? (i := 2) rfl)) (ty := .long) (by decide) rfl rfl (g := (mkF m 30 #[.val (.ref a1), .val (.int p2), .val (.int p3)] [(.long v9), (.ref a1)])) rfl rfl (hb hby d1_30)
  have Fw11 := f12.same W11
  have P13 : Rch p e below (s₁.setTop (entryFrame m #[(.ref a1), (.int p2), (.int p3)] 3)) (T11.setTop (mkF m 33 #[.val (.ref a1), .val (.int p2), .val (.int p3)] [])) := fun t k => P10 t (st11 t k)
  have N11 := Fr.snoc X11 N5 g1
  have P14 : Rch p e below (s₁.setTop (entryFrame m #[(.ref a1), (.int p2), (.int p3)] 3)) (T11.setTop (mkF m 35 #[.val (.ref a1), .val (.int p2), .val (.int p3)] [(.int p2), (.ref a1)])) := fun t k => P13 t (by
    show Steps p.tables e below (T11.setTop (mkF m 33 #[.val (.ref a1), .val (.int p2), .val (.int p3)] [])) t
    refine XS.aloadN X11.here hx rfl (hb hby d1_33) rfl rfl ?_
    show Steps p.tables e below (T11.setTop (mkF m 34 #[.val (.ref a1), .val (.int p2), .val (.int p3)] [(.ref a1)])) t
    refine XS.iloadN X11.here hx rfl (hb hby d1_34) rfl ?_
    exact k)
  have f16 : Fld Z h11 a1 "com/example/kinhash/kinhash/BlockTable" "lowestBit" "I" (.int (0 : Int32)) := ((F2.other W5 (Or.inr (slot_ne (Or.inr (hw _ (List.mem_of_getElem? (i := 15) rfl))) (Or.inl (hw _ (List.mem_of_getElem? (i := 11) rfl))) (by decide) (t := .int) (t' := .int) (by decide) (by decide)))).other W11 (Or.inr (slot_ne (Or.inr (hw _ (List.mem_of_getElem? (i := 15) rfl))) (Or.inr (hw _ (List.mem_of_getElem? (i := 13) rfl))) (by decide) (t := .int) (t' := .long) (by decide) (by decide))))
  obtain ⟨T15, h15, X15, e15, W15, st15⟩ := putF X11 hx hZ hown (host := "") (Or.inl (hw _ (List.mem_of_getElem? (i := 14) rfl))) Via.refl e11 f16 ((E1.wr W5).wr W11) (Or.inr ⟨(hw _ (List.mem_of_getElem? (i := 15) rfl)), rfl, hnm⟩) (hw _ (List.mem_of_getElem? (i := 2) rfl)) (ty := .int) (by decide) rfl rfl (g := (mkF m 35 #[.val (.ref a1), .val (.int p2), .val (.int p3)] [(.int p2), (.ref a1)])) rfl rfl (hb hby d1_35)
  have Fw15 := f16.same W15
  have P17 : Rch p e below (s₁.setTop (entryFrame m #[(.ref a1), (.int p2), (.int p3)] 3)) (T15.setTop (mkF m 38 #[.val (.ref a1), .val (.int p2), .val (.int p3)] [])) := fun t k => P14 t (st15 t k)
  have N15 := Fr.snoc X15 N11 g1
  have P18 : Rch p e below (s₁.setTop (entryFrame m #[(.ref a1), (.int p2), (.int p3)] 3)) (T15.setTop (mkF m 40 #[.val (.ref a1), .val (.int p2), .val (.int p3)] [(.int p3), (.ref a1)])) := fun t k => P17 t (by
    show Steps p.tables e below (T15.setTop (mkF m 38 #[.val (.ref a1), .val (.int p2), .val (.int p3)] [])) t
    refine XS.aloadN X15.here hx rfl (hb hby d1_38) rfl rfl ?_
    show Steps p.tables e below (T15.setTop (mkF m 39 #[.val (.ref a1), .val (.int p2), .val (.int p3)] [(.ref a1)])) t
    refine XS.iloadN X15.here hx rfl (hb hby d1_39) rfl ?_
    exact k)
  have f20 : Fld Z h15 a1 "com/example/kinhash/kinhash/BlockTable" "width" "I" (.int (0 : Int32)) := (((F3.other W5 (Or.inr (slot_ne (Or.inr (hw _ (List.mem_of_getElem? (i := 17) rfl))) (Or.inl (hw _ (List.mem_of_getElem? (i := 11) rfl))) (by decide) (t := .int) (t' := .int) (by decide) (by decide)))).other W11 (Or.inr (slot_ne (Or.inr (hw _ (List.mem_of_getElem? (i := 17) rfl))) (Or.inr (hw _ (List.mem_of_getElem? (i := 13) rfl))) (by decide) (t := .int) (t' := .long) (by decide) (by decide)))).other W15 (Or.inr (slot_ne (Or.inr (hw _ (List.mem_of_getElem? (i := 17) rfl))) (Or.inr (hw _ (List.mem_of_getElem? (i := 15) rfl))) (by decide) (t := .int) (t' := .int) (by decide) (by decide))))
  obtain ⟨T19, h19, X19, e19, W19, st19⟩ := putF X15 hx hZ hown (host := "") (Or.inl (hw _ (List.mem_of_getElem? (i := 16) rfl))) Via.refl e15 f20 (((E1.wr W5).wr W11).wr W15) (Or.inr ⟨(hw _ (List.mem_of_getElem? (i := 17) rfl)), rfl, hnm⟩) (hw _ (List.mem_of_getElem? (i := 2) rfl)) (ty := .int) (by decide) rfl rfl (g := (mkF m 40 #[.val (.ref a1), .val (.int p2), .val (.int p3)] [(.int p3), (.ref a1)])) rfl rfl (hb hby d1_40)
  have Fw19 := f20.same W19
  have P21 : Rch p e below (s₁.setTop (entryFrame m #[(.ref a1), (.int p2), (.int p3)] 3)) (T19.setTop (mkF m 43 #[.val (.ref a1), .val (.int p2), .val (.int p3)] [])) := fun t k => P18 t (st19 t k)
  have N19 := Fr.snoc X19 N15 g1
  have P22 : Rch p e below (s₁.setTop (entryFrame m #[(.ref a1), (.int p2), (.int p3)] 3)) (T19.setTop (mkF m 45 #[.val (.ref a1), .val (.int p2), .val (.int p3)] [(.int (1 : Int32)), (.ref a1)])) := fun t k => P21 t (by
    show Steps p.tables e below (T19.setTop (mkF m 43 #[.val (.ref a1), .val (.int p2), .val (.int p3)] [])) t
    refine XS.aloadN X19.here hx rfl (hb hby d1_43) rfl rfl ?_
    show Steps p.tables e below (T19.setTop (mkF m 44 #[.val (.ref a1), .val (.int p2), .val (.int p3)] [(.ref a1)])) t
    refine XS.iconst X19.here hx rfl (hb hby d1_44) ?_
    exact k)
  have f24 : n0 ≤ h19.size := (Nat.le_trans (Nat.le_trans (Nat.le_trans (Nat.le_trans Z0 (Keep.of_wr W5).1) (Keep.of_wr W11).1) (Keep.of_wr W15).1) (Keep.of_wr W19).1)
  have f25 : Keep h0 h19 [a1] := (((((Keep.refl h0 [a1]).wr W5 (Or.inl (List.mem_of_getElem? (i := 0) rfl))).wr W11 (Or.inl (List.mem_of_getElem? (i := 0) rfl))).wr W15 (Or.inl (List.mem_of_getElem? (i := 0) rfl))).wr W19 (Or.inl (List.mem_of_getElem? (i := 0) rfl)))
  obtain ⟨T23, h23, k23, X23, e23, E23, A23, st23⟩ := newP X19 hx hZ (hw _ (List.mem_of_getElem? (i := 18) rfl)) e19 (g := (mkF m 45 #[.val (.ref a1), .val (.int p2), .val (.int p3)] [(.int (1 : Int32)), (.ref a1)])) rfl (hb hby d1_45) rfl (by decide) (cap := 1) (by decide) (by decide) (by decide) (by decide)
  obtain ⟨b23, g23⟩ : ∃ z, z = h19.size := ⟨_, rfl⟩
  rw [← g23] at A23 st23
  have g_b23 : n0 ≤ b23 := Nat.le_trans f24 (Nat.le_of_eq g23.symm)
  have sz_b23 : h0.size ≤ b23 := Nat.le_trans f25.1 (Nat.le_of_eq g23.symm)
  have ne_a1_b23 : a1 ≠ b23 := Nat.ne_of_lt (Nat.lt_of_lt_of_le ((((E1.wr W5).wr W11).wr W15).wr W19).lt (Nat.le_of_eq g23.symm))
  have V23 : Arv Z h23 b23 k23 .int (1 : Int32) [(.int (0 : Int32))] (.int (0 : Int32)) := (Arv.new A23 (by decide)).pad (pad_rep [] (.int (0 : Int32)) 1)
  have P26 : Rch p e below (s₁.setTop (entryFrame m #[(.ref a1), (.int p2), (.int p3)] 3)) (T23.setTop (mkF m 47 #[.val (.ref a1), .val (.int p2), .val (.int p3)] [(.ref b23), (.ref a1)])) := fun t k => P22 t (st23 t k)
  have f28 : Fld Z h23 a1 "com/example/kinhash/kinhash/BlockTable" "start" "[I" .null := (((((F4.other W5 (Or.inr (slot_ne (Or.inl (hw _ (List.mem_of_getElem? (i := 20) rfl))) (Or.inl (hw _ (List.mem_of_getElem? (i := 11) rfl))) (by decide) (t := (.array .int)) (t' := .int) (by decide) (by decide)))).other W11 (Or.inr (slot_ne (Or.inl (hw _ (List.mem_of_getElem? (i := 20) rfl))) (Or.inr (hw _ (List.mem_of_getElem? (i := 13) rfl))) (by decide) (t := (.array .int)) (t' := .long) (by decide) (by decide)))).other W15 (Or.inr (slot_ne (Or.inl (hw _ (List.mem_of_getElem? (i := 20) rfl))) (Or.inr (hw _ (List.mem_of_getElem? (i := 15) rfl))) (by decide) (t := (.array .int)) (t' := .int) (by decide) (by decide)))).other W19 (Or.inr (slot_ne (Or.inl (hw _ (List.mem_of_getElem? (i := 20) rfl))) (Or.inr (hw _ (List.mem_of_getElem? (i := 17) rfl))) (by decide) (t := (.array .int)) (t' := .int) (by decide) (by decide)))).ext E23)
  obtain ⟨T27, h27, X27, e27, W27, st27⟩ := putF X23 hx hZ hown (host := "") (Or.inl (hw _ (List.mem_of_getElem? (i := 19) rfl))) Via.refl e23 f28 (((((E1.wr W5).wr W11).wr W15).wr W19).ext E23) (Or.inl (hw _ (List.mem_of_getElem? (i := 20) rfl))) (hw _ (List.mem_of_getElem? (i := 2) rfl)) (ty := (.array .int)) (by decide) rfl rfl (g := (mkF m 47 #[.val (.ref a1), .val (.int p2), .val (.int p3)] [(.ref b23), (.ref a1)])) rfl rfl (hb hby d1_47)
  have Fw27 := f28.same W27
  have P29 : Rch p e below (s₁.setTop (entryFrame m #[(.ref a1), (.int p2), (.int p3)] 3)) (T27.setTop (mkF m 50 #[.val (.ref a1), .val (.int p2), .val (.int p3)] [])) := fun t k => P26 t (st27 t k)
  have N27 := Fr.snoc X27 N19 g1
  have P30 : Rch p e below (s₁.setTop (entryFrame m #[(.ref a1), (.int p2), (.int p3)] 3)) (T27.setTop (mkF m 52 #[.val (.ref a1), .val (.int p2), .val (.int p3)] [(.int (1 : Int32)), (.ref a1)])) := fun t k => P29 t (by
    show Steps p.tables e below (T27.setTop (mkF m 50 #[.val (.ref a1), .val (.int p2), .val (.int p3)] [])) t
    refine XS.aloadN X27.here hx rfl (hb hby d1_50) rfl rfl ?_
    show Steps p.tables e below (T27.setTop (mkF m 51 #[.val (.ref a1), .val (.int p2), .val (.int p3)] [(.ref a1)])) t
    refine XS.iconst X27.here hx rfl (hb hby d1_51) ?_
    exact k)
  have f32 : n0 ≤ h27.size := (Nat.le_trans (Nat.le_trans f24 E23.1) (Keep.of_wr W27).1)
  have f33 : Keep h0 h27 [a1] := ((f25.ext E23).wr W27 (Or.inl (List.mem_of_getElem? (i := 0) rfl)))
  obtain ⟨T31, h31, k31, X31, e31, E31, A31, st31⟩ := newP X27 hx hZ (hw _ (List.mem_of_getElem? (i := 18) rfl)) e27 (g := (mkF m 52 #[.val (.ref a1), .val (.int p2), .val (.int p3)] [(.int (1 : Int32)), (.ref a1)])) rfl (hb hby d1_52) rfl (by decide) (cap := 1) (by decide) (by decide) (by decide) (by decide)
  obtain ⟨b31, g31⟩ : ∃ z, z = h27.size := ⟨_, rfl⟩
  rw [← g31] at A31 st31
  have g_b31 : n0 ≤ b31 := Nat.le_trans f32 (Nat.le_of_eq g31.symm)
  have sz_b31 : h0.size ≤ b31 := Nat.le_trans f33.1 (Nat.le_of_eq g31.symm)
  have ne_a1_b31 : a1 ≠ b31 := Nat.ne_of_lt (Nat.lt_of_lt_of_le ((((((E1.wr W5).wr W11).wr W15).wr W19).ext E23).wr W27).lt (Nat.le_of_eq g31.symm))
  have ne_b23_b31 : b23 ≠ b31 := Nat.ne_of_lt (Nat.lt_of_lt_of_le (V23.other W27 (Ne.symm ne_a1_b23)).lt (Nat.le_of_eq g31.symm))
  have V31 : Arv Z h31 b31 k31 .int (1 : Int32) [(.int (0 : Int32))] (.int (0 : Int32)) := (Arv.new A31 (by decide)).pad (pad_rep [] (.int (0 : Int32)) 1)
  have P34 : Rch p e below (s₁.setTop (entryFrame m #[(.ref a1), (.int p2), (.int p3)] 3)) (T31.setTop (mkF m 54 #[.val (.ref a1), .val (.int p2), .val (.int p3)] [(.ref b31), (.ref a1)])) := fun t k => P30 t (st31 t k)
  have f36 : Exa Z h31 a1 "com/example/kinhash/kinhash/BlockTable" := (((((((E1.wr W5).wr W11).wr W15).wr W19).ext E23).wr W27).ext E31)
  have f37 : Fld Z h31 a1 "com/example/kinhash/kinhash/BlockTable" "length" "[I" .null := (((((((F5.other W5 (Or.inr (slot_ne (Or.inl (hw _ (List.mem_of_getElem? (i := 22) rfl))) (Or.inl (hw _ (List.mem_of_getElem? (i := 11) rfl))) (by decide) (t := (.array .int)) (t' := .int) (by decide) (by decide)))).other W11 (Or.inr (slot_ne (Or.inl (hw _ (List.mem_of_getElem? (i := 22) rfl))) (Or.inr (hw _ (List.mem_of_getElem? (i := 13) rfl))) (by decide) (t := (.array .int)) (t' := .long) (by decide) (by decide)))).other W15 (Or.inr (slot_ne (Or.inl (hw _ (List.mem_of_getElem? (i := 22) rfl))) (Or.inr (hw _ (List.mem_of_getElem? (i := 15) rfl))) (by decide) (t := (.array .int)) (t' := .int) (by decide) (by decide)))).other W19 (Or.inr (slot_ne (Or.inl (hw _ (List.mem_of_getElem? (i := 22) rfl))) (Or.inr (hw _ (List.mem_of_getElem? (i := 17) rfl))) (by decide) (t := (.array .int)) (t' := .int) (by decide) (by decide)))).ext E23).other W27 (Or.inr (slot_ne (Or.inl (hw _ (List.mem_of_getElem? (i := 22) rfl))) (Or.inl (hw _ (List.mem_of_getElem? (i := 20) rfl))) (by decide) (t := (.array .int)) (t' := (.array .int)) (by decide) (by decide)))).ext E31)
  obtain ⟨T35, h35, X35, e35, W35, st35⟩ := putF X31 hx hZ hown (host := "") (Or.inl (hw _ (List.mem_of_getElem? (i := 21) rfl))) Via.refl e31 f37 f36 (Or.inl (hw _ (List.mem_of_getElem? (i := 22) rfl))) (hw _ (List.mem_of_getElem? (i := 2) rfl)) (ty := (.array .int)) (by decide) rfl rfl (g := (mkF m 54 #[.val (.ref a1), .val (.int p2), .val (.int p3)] [(.ref b31), (.ref a1)])) rfl rfl (hb hby d1_54)
  have Fw35 := f37.same W35
  have P38 : Rch p e below (s₁.setTop (entryFrame m #[(.ref a1), (.int p2), (.int p3)] 3)) (T35.setTop (mkF m 57 #[.val (.ref a1), .val (.int p2), .val (.int p3)] [])) := fun t k => P34 t (st35 t k)
  have N35 := Fr.snoc X35 N27 g1
  have P39 : Rch p e below (s₁.setTop (entryFrame m #[(.ref a1), (.int p2), (.int p3)] 3)) (T35.setTop (mkF m 59 #[.val (.ref a1), .val (.int p2), .val (.int p3)] [(.int (1 : Int32)), (.ref a1)])) := fun t k => P38 t (by
    show Steps p.tables e below (T35.setTop (mkF m 57 #[.val (.ref a1), .val (.int p2), .val (.int p3)] [])) t
    refine XS.aloadN X35.here hx rfl (hb hby d1_57) rfl rfl ?_
    show Steps p.tables e below (T35.setTop (mkF m 58 #[.val (.ref a1), .val (.int p2), .val (.int p3)] [(.ref a1)])) t
    refine XS.iconst X35.here hx rfl (hb hby d1_58) ?_
    exact k)
  have f41 : Arv Z h35 b23 k23 .int (1 : Int32) [(.int (0 : Int32))] (.int (0 : Int32)) := (((V23.other W27 (Ne.symm ne_a1_b23)).ext E31).other W35 (Ne.symm ne_a1_b23))
  have f42 : n0 ≤ h35.size := (Nat.le_trans (Nat.le_trans f32 E31.1) (Keep.of_wr W35).1)
  have f43 : Keep h0 h35 [a1] := ((f33.ext E31).wr W35 (Or.inl (List.mem_of_getElem? (i := 0) rfl)))
  obtain ⟨T40, h40, k40, X40, e40, E40, A40, st40⟩ := newP X35 hx hZ (hw _ (List.mem_of_getElem? (i := 18) rfl)) e35 (g := (mkF m 59 #[.val (.ref a1), .val (.int p2), .val (.int p3)] [(.int (1 : Int32)), (.ref a1)])) rfl (hb hby d1_59) rfl (by decide) (cap := 1) (by decide) (by decide) (by decide) (by decide)
  obtain ⟨b40, g40⟩ : ∃ z, z = h35.size := ⟨_, rfl⟩
  rw [← g40] at A40 st40
  have g_b40 : n0 ≤ b40 := Nat.le_trans f42 (Nat.le_of_eq g40.symm)
  have sz_b40 : h0.size ≤ b40 := Nat.le_trans f43.1 (Nat.le_of_eq g40.symm)
  have ne_a1_b40 : a1 ≠ b40 := Nat.ne_of_lt (Nat.lt_of_lt_of_le (f36.wr W35).lt (Nat.le_of_eq g40.symm))
  have ne_b23_b40 : b23 ≠ b40 := Nat.ne_of_lt (Nat.lt_of_lt_of_le f41.lt (Nat.le_of_eq g40.symm))
  have ne_b31_b40 : b31 ≠ b40 := Nat.ne_of_lt (Nat.lt_of_lt_of_le (V31.other W35 (Ne.symm ne_a1_b31)).lt (Nat.le_of_eq g40.symm))
  have V40 : Arv Z h40 b40 k40 .int (1 : Int32) [(.int (0 : Int32))] (.int (0 : Int32)) := (Arv.new A40 (by decide)).pad (pad_rep [] (.int (0 : Int32)) 1)
  have P44 : Rch p e below (s₁.setTop (entryFrame m #[(.ref a1), (.int p2), (.int p3)] 3)) (T40.setTop (mkF m 61 #[.val (.ref a1), .val (.int p2), .val (.int p3)] [(.ref b40), (.ref a1)])) := fun t k => P39 t (st40 t k)
  have f46 : Fld Z h40 a1 "com/example/kinhash/kinhash/BlockTable" "room" "[I" .null := (((((((((F6.other W5 (Or.inr (slot_ne (Or.inl (hw _ (List.mem_of_getElem? (i := 24) rfl))) (Or.inl (hw _ (List.mem_of_getElem? (i := 11) rfl))) (by decide) (t := (.array .int)) (t' := .int) (by decide) (by decide)))).other W11 (Or.inr (slot_ne (Or.inl (hw _ (List.mem_of_getElem? (i := 24) rfl))) (Or.inr (hw _ (List.mem_of_getElem? (i := 13) rfl))) (by decide) (t := (.array .int)) (t' := .long) (by decide) (by decide)))).other W15 (Or.inr (slot_ne (Or.inl (hw _ (List.mem_of_getElem? (i := 24) rfl))) (Or.inr (hw _ (List.mem_of_getElem? (i := 15) rfl))) (by decide) (t := (.array .int)) (t' := .int) (by decide) (by decide)))).other W19 (Or.inr (slot_ne (Or.inl (hw _ (List.mem_of_getElem? (i := 24) rfl))) (Or.inr (hw _ (List.mem_of_getElem? (i := 17) rfl))) (by decide) (t := (.array .int)) (t' := .int) (by decide) (by decide)))).ext E23).other W27 (Or.inr (slot_ne (Or.inl (hw _ (List.mem_of_getElem? (i := 24) rfl))) (Or.inl (hw _ (List.mem_of_getElem? (i := 20) rfl))) (by decide) (t := (.array .int)) (t' := (.array .int)) (by decide) (by decide)))).ext E31).other W35 (Or.inr (slot_ne (Or.inl (hw _ (List.mem_of_getElem? (i := 24) rfl))) (Or.inl (hw _ (List.mem_of_getElem? (i := 22) rfl))) (by decide) (t := (.array .int)) (t' := (.array .int)) (by decide) (by decide)))).ext E40)
  obtain ⟨T45, h45, X45, e45, W45, st45⟩ := putF X40 hx hZ hown (host := "") (Or.inl (hw _ (List.mem_of_getElem? (i := 23) rfl))) Via.refl e40 f46 ((f36.wr W35).ext E40) (Or.inl (hw _ (List.mem_of_getElem? (i := 24) rfl))) (hw _ (List.mem_of_getElem? (i := 2) rfl)) (ty := (.array .int)) (by decide) rfl rfl (g := (mkF m 61 #[.val (.ref a1), .val (.int p2), .val (.int p3)] [(.ref b40), (.ref a1)])) rfl rfl (hb hby d1_61)
  have Fw45 := f46.same W45
  have P47 : Rch p e below (s₁.setTop (entryFrame m #[(.ref a1), (.int p2), (.int p3)] 3)) (T45.setTop (mkF m 64 #[.val (.ref a1), .val (.int p2), .val (.int p3)] [])) := fun t k => P44 t (st45 t k)
  have N45 := Fr.snoc X45 N35 g1
  have P48 : Rch p e below (s₁.setTop (entryFrame m #[(.ref a1), (.int p2), (.int p3)] 3)) (T45.setTop (mkF m 66 #[.val (.ref a1), .val (.int p2), .val (.int p3)] [(.int (4 : Int32)), (.ref a1)])) := fun t k => P47 t (by
    show Steps p.tables e below (T45.setTop (mkF m 64 #[.val (.ref a1), .val (.int p2), .val (.int p3)] [])) t
    refine XS.aloadN X45.here hx rfl (hb hby d1_64) rfl rfl ?_
    show Steps p.tables e below (T45.setTop (mkF m 65 #[.val (.ref a1), .val (.int p2), .val (.int p3)] [(.ref a1)])) t
    refine XS.iconst X45.here hx rfl (hb hby d1_65) ?_
    exact k)
  have f50 : Arv Z h45 b31 k31 .int (1 : Int32) [(.int (0 : Int32))] (.int (0 : Int32)) := (((V31.other W35 (Ne.symm ne_a1_b31)).ext E40).other W45 (Ne.symm ne_a1_b31))
  have f51 : n0 ≤ h45.size := (Nat.le_trans (Nat.le_trans f42 E40.1) (Keep.of_wr W45).1)
  have f52 : Keep h0 h45 [a1] := ((f43.ext E40).wr W45 (Or.inl (List.mem_of_getElem? (i := 0) rfl)))
  obtain ⟨T49, h49, k49, X49, e49, E49, A49, st49⟩ := newP X45 hx hZ (hw _ (List.mem_of_getElem? (i := 18) rfl)) e45 (g := (mkF m 66 #[.val (.ref a1), .val (.int p2), .val (.int p3)] [(.int (4 : Int32)), (.ref a1)])) rfl (hb hby d1_66) rfl (by decide) (cap := 4) (by decide) (by decide) (by decide) (by decide)
  obtain ⟨b49, g49⟩ : ∃ z, z = h45.size := ⟨_, rfl⟩
  rw [← g49] at A49 st49
  have g_b49 : n0 ≤ b49 := Nat.le_trans f51 (Nat.le_of_eq g49.symm)
  have sz_b49 : h0.size ≤ b49 := Nat.le_trans f52.1 (Nat.le_of_eq g49.symm)
  have ne_a1_b49 : a1 ≠ b49 := Nat.ne_of_lt (Nat.lt_of_lt_of_le (((f36.wr W35).ext E40).wr W45).lt (Nat.le_of_eq g49.symm))
  have ne_b23_b49 : b23 ≠ b49 := Nat.ne_of_lt (Nat.lt_of_lt_of_le ((f41.ext E40).other W45 (Ne.symm ne_a1_b23)).lt (Nat.le_of_eq g49.symm))
  have ne_b31_b49 : b31 ≠ b49 := Nat.ne_of_lt (Nat.lt_of_lt_of_le f50.lt (Nat.le_of_eq g49.symm))
  have ne_b40_b49 : b40 ≠ b49 := Nat.ne_of_lt (Nat.lt_of_lt_of_le (V40.other W45 (Ne.symm ne_a1_b40)).lt (Nat.le_of_eq g49.symm))
  have V49 : Arv Z h49 b49 k49 .int (4 : Int32) [(.int (0 : Int32)), (.int (0 : Int32)), (.int (0 : Int32)), (.int (0 : Int32))] (.int (0 : Int32)) := (Arv.new A49 (by decide)).pad (pad_rep [] (.int (0 : Int32)) 4)
  have P53 : Rch p e below (s₁.setTop (entryFrame m #[(.ref a1), (.int p2), (.int p3)] 3)) (T49.setTop (mkF m 68 #[.val (.ref a1), .val (.int p2), .val (.int p3)] [(.ref b49), (.ref a1)])) := fun t k => P48 t (st49 t k)
  have f55 : Fld Z h49 a1 "com/example/kinhash/kinhash/BlockTable" "entries" "[I" .null := (((((((((((F7.other W5 (Or.inr (slot_ne (Or.inl (hw _ (List.mem_of_getElem? (i := 26) rfl))) (Or.inl (hw _ (List.mem_of_getElem? (i := 11) rfl))) (by decide) (t := (.array .int)) (t' := .int) (by decide) (by decide)))).other W11 (Or.inr (slot_ne (Or.inl (hw _ (List.mem_of_getElem? (i := 26) rfl))) (Or.inr (hw _ (List.mem_of_getElem? (i := 13) rfl))) (by decide) (t := (.array .int)) (t' := .long) (by decide) (by decide)))).other W15 (Or.inr (slot_ne (Or.inl (hw _ (List.mem_of_getElem? (i := 26) rfl))) (Or.inr (hw _ (List.mem_of_getElem? (i := 15) rfl))) (by decide) (t := (.array .int)) (t' := .int) (by decide) (by decide)))).other W19 (Or.inr (slot_ne (Or.inl (hw _ (List.mem_of_getElem? (i := 26) rfl))) (Or.inr (hw _ (List.mem_of_getElem? (i := 17) rfl))) (by decide) (t := (.array .int)) (t' := .int) (by decide) (by decide)))).ext E23).other W27 (Or.inr (slot_ne (Or.inl (hw _ (List.mem_of_getElem? (i := 26) rfl))) (Or.inl (hw _ (List.mem_of_getElem? (i := 20) rfl))) (by decide) (t := (.array .int)) (t' := (.array .int)) (by decide) (by decide)))).ext E31).other W35 (Or.inr (slot_ne (Or.inl (hw _ (List.mem_of_getElem? (i := 26) rfl))) (Or.inl (hw _ (List.mem_of_getElem? (i := 22) rfl))) (by decide) (t := (.array .int)) (t' := (.array .int)) (by decide) (by decide)))).ext E40).other W45 (Or.inr (slot_ne (Or.inl (hw _ (List.mem_of_getElem? (i := 26) rfl))) (Or.inl (hw _ (List.mem_of_getElem? (i := 24) rfl))) (by decide) (t := (.array .int)) (t' := (.array .int)) (by decide) (by decide)))).ext E49)
  obtain ⟨T54, h54, X54, e54, W54, st54⟩ := putF X49 hx hZ hown (host := "") (Or.inl (hw _ (List.mem_of_getElem? (i := 25) rfl))) Via.refl e49 f55 ((((f36.wr W35).ext E40).wr W45).ext E49) (Or.inl (hw _ (List.mem_of_getElem? (i := 26) rfl))) (hw _ (List.mem_of_getElem? (i := 2) rfl)) (ty := (.array .int)) (by decide) rfl rfl (g := (mkF m 68 #[.val (.ref a1), .val (.int p2), .val (.int p3)] [(.ref b49), (.ref a1)])) rfl rfl (hb hby d1_68)
  have Fw54 := f55.same W54
  have P56 : Rch p e below (s₁.setTop (entryFrame m #[(.ref a1), (.int p2), (.int p3)] 3)) (T54.setTop (mkF m 71 #[.val (.ref a1), .val (.int p2), .val (.int p3)] [])) := fun t k => P53 t (st54 t k)
  have N54 := Fr.snoc X54 N45 g1
  have P57 : Rch p e below (s₁.setTop (entryFrame m #[(.ref a1), (.int p2), (.int p3)] 3)) (T54.setTop (mkF m 73 #[.val (.ref a1), .val (.int p2), .val (.int p3)] [(.int (4 : Int32)), (.ref a1)])) := fun t k => P56 t (by
    show Steps p.tables e below (T54.setTop (mkF m 71 #[.val (.ref a1), .val (.int p2), .val (.int p3)] [])) t
    refine XS.aloadN X54.here hx rfl (hb hby d1_71) rfl rfl ?_
    show Steps p.tables e below (T54.setTop (mkF m 72 #[.val (.ref a1), .val (.int p2), .val (.int p3)] [(.ref a1)])) t
    refine XS.iconst X54.here hx rfl (hb hby d1_72) ?_
    exact k)
  have f59 : Arv Z h54 b23 k23 .int (1 : Int32) [(.int (0 : Int32))] (.int (0 : Int32)) := ((((f41.ext E40).other W45 (Ne.symm ne_a1_b23)).ext E49).other W54 (Ne.symm ne_a1_b23))
  have f60 : Arv Z h54 b40 k40 .int (1 : Int32) [(.int (0 : Int32))] (.int (0 : Int32)) := (((V40.other W45 (Ne.symm ne_a1_b40)).ext E49).other W54 (Ne.symm ne_a1_b40))
  have f61 : n0 ≤ h54.size := (Nat.le_trans (Nat.le_trans f51 E49.1) (Keep.of_wr W54).1)
  have f62 : Keep h0 h54 [a1] := ((f52.ext E49).wr W54 (Or.inl (List.mem_of_getElem? (i := 0) rfl)))
  obtain ⟨T58, h58, k58, X58, e58, E58, A58, st58⟩ := newP X54 hx hZ (hw _ (List.mem_of_getElem? (i := 27) rfl)) e54 (g := (mkF m 73 #[.val (.ref a1), .val (.int p2), .val (.int p3)] [(.int (4 : Int32)), (.ref a1)])) rfl (hb hby d1_73) rfl (by decide) (cap := 4) (by decide) (by decide) (by decide) (by decide)
  obtain ⟨b58, g58⟩ : ∃ z, z = h54.size := ⟨_, rfl⟩
  rw [← g58] at A58 st58
  have g_b58 : n0 ≤ b58 := Nat.le_trans f61 (Nat.le_of_eq g58.symm)
  have sz_b58 : h0.size ≤ b58 := Nat.le_trans f62.1 (Nat.le_of_eq g58.symm)
  have ne_a1_b58 : a1 ≠ b58 := Nat.ne_of_lt (Nat.lt_of_lt_of_le (((((f36.wr W35).ext E40).wr W45).ext E49).wr W54).lt (Nat.le_of_eq g58.symm))
  have ne_b23_b58 : b23 ≠ b58 := Nat.ne_of_lt (Nat.lt_of_lt_of_le f59.lt (Nat.le_of_eq g58.symm))
  have ne_b31_b58 : b31 ≠ b58 := Nat.ne_of_lt (Nat.lt_of_lt_of_le ((f50.ext E49).other W54 (Ne.symm ne_a1_b31)).lt (Nat.le_of_eq g58.symm))
  have ne_b40_b58 : b40 ≠ b58 := Nat.ne_of_lt (Nat.lt_of_lt_of_le f60.lt (Nat.le_of_eq g58.symm))
  have ne_b49_b58 : b49 ≠ b58 := Nat.ne_of_lt (Nat.lt_of_lt_of_le (V49.other W54 (Ne.symm ne_a1_b49)).lt (Nat.le_of_eq g58.symm))
  have V58 : Arv Z h58 b58 k58 .byte (4 : Int32) [(.int (0 : Int32)), (.int (0 : Int32)), (.int (0 : Int32)), (.int (0 : Int32))] (.int (0 : Int32)) := (Arv.new A58 (by decide)).pad (pad_rep [] (.int (0 : Int32)) 4)
  have P63 : Rch p e below (s₁.setTop (entryFrame m #[(.ref a1), (.int p2), (.int p3)] 3)) (T58.setTop (mkF m 75 #[.val (.ref a1), .val (.int p2), .val (.int p3)] [(.ref b58), (.ref a1)])) := fun t k => P57 t (st58 t k)
  have f65 : Fld Z h58 a1 "com/example/kinhash/kinhash/BlockTable" "tags" "[B" .null := (((((((((((((F8.other W5 (Or.inr (slot_ne (Or.inl (hw _ (List.mem_of_getElem? (i := 29) rfl))) (Or.inl (hw _ (List.mem_of_getElem? (i := 11) rfl))) (by decide) (t := (.array .byte)) (t' := .int) (by decide) (by decide)))).other W11 (Or.inr (slot_ne (Or.inl (hw _ (List.mem_of_getElem? (i := 29) rfl))) (Or.inr (hw _ (List.mem_of_getElem? (i := 13) rfl))) (by decide) (t := (.array .byte)) (t' := .long) (by decide) (by decide)))).other W15 (Or.inr (slot_ne (Or.inl (hw _ (List.mem_of_getElem? (i := 29) rfl))) (Or.inr (hw _ (List.mem_of_getElem? (i := 15) rfl))) (by decide) (t := (.array .byte)) (t' := .int) (by decide) (by decide)))).other W19 (Or.inr (slot_ne (Or.inl (hw _ (List.mem_of_getElem? (i := 29) rfl))) (Or.inr (hw _ (List.mem_of_getElem? (i := 17) rfl))) (by decide) (t := (.array .byte)) (t' := .int) (by decide) (by decide)))).ext E23).other W27 (Or.inr (slot_ne (Or.inl (hw _ (List.mem_of_getElem? (i := 29) rfl))) (Or.inl (hw _ (List.mem_of_getElem? (i := 20) rfl))) (by decide) (t := (.array .byte)) (t' := (.array .int)) (by decide) (by decide)))).ext E31).other W35 (Or.inr (slot_ne (Or.inl (hw _ (List.mem_of_getElem? (i := 29) rfl))) (Or.inl (hw _ (List.mem_of_getElem? (i := 22) rfl))) (by decide) (t := (.array .byte)) (t' := (.array .int)) (by decide) (by decide)))).ext E40).other W45 (Or.inr (slot_ne (Or.inl (hw _ (List.mem_of_getElem? (i := 29) rfl))) (Or.inl (hw _ (List.mem_of_getElem? (i := 24) rfl))) (by decide) (t := (.array .byte)) (t' := (.array .int)) (by decide) (by decide)))).ext E49).other W54 (Or.inr (slot_ne (Or.inl (hw _ (List.mem_of_getElem? (i := 29) rfl))) (Or.inl (hw _ (List.mem_of_getElem? (i := 26) rfl))) (by decide) (t := (.array .byte)) (t' := (.array .int)) (by decide) (by decide)))).ext E58)
  obtain ⟨T64, h64, X64, e64, W64, st64⟩ := putF X58 hx hZ hown (host := "") (Or.inl (hw _ (List.mem_of_getElem? (i := 28) rfl))) Via.refl e58 f65 ((((((f36.wr W35).ext E40).wr W45).ext E49).wr W54).ext E58) (Or.inl (hw _ (List.mem_of_getElem? (i := 29) rfl))) (hw _ (List.mem_of_getElem? (i := 2) rfl)) (ty := (.array .byte)) (by decide) rfl rfl (g := (mkF m 75 #[.val (.ref a1), .val (.int p2), .val (.int p3)] [(.ref b58), (.ref a1)])) rfl rfl (hb hby d1_75)
  have Fw64 := f65.same W64
  have P66 : Rch p e below (s₁.setTop (entryFrame m #[(.ref a1), (.int p2), (.int p3)] 3)) (T64.setTop (mkF m 78 #[.val (.ref a1), .val (.int p2), .val (.int p3)] [])) := fun t k => P63 t (st64 t k)
  have N64 := Fr.snoc X64 N54 g1
  obtain ⟨fs, hr, hrun, hended, hW, hsame⟩ := X64.leave (v := none) (fun _ => rfl)
  refine ⟨_, _, P66 _ ?_, hrun, hended, _, _, rfl, ?_, ⟨_, rfl⟩, hW, hsame.mono (by decide) (by decide)⟩
  · exact X64.returnOut hx Bd.returns (hb hby d1_78) hr
  · show Q_rmI Z a1 p2 p3 h0 n0 _ T64.heap _
    rw [e64]
    have f67 : Fld Z h64 a1 "com/example/kinhash/kinhash/BlockTable" "mask" "J" (.long v9) := ((((((((((((Fw11.other W15 (Or.inr (slot_ne (Or.inr (hw _ (List.mem_of_getElem? (i := 13) rfl))) (Or.inr (hw _ (List.mem_of_getElem? (i := 15) rfl))) (by decide) (t := .long) (t' := .int) (by decide) (by decide)))).other W19 (Or.inr (slot_ne (Or.inr (hw _ (List.mem_of_getElem? (i := 13) rfl))) (Or.inr (hw _ (List.mem_of_getElem? (i := 17) rfl))) (by decide) (t := .long) (t' := .int) (by decide) (by decide)))).ext E23).other W27 (Or.inr (slot_ne (Or.inr (hw _ (List.mem_of_getElem? (i := 13) rfl))) (Or.inl (hw _ (List.mem_of_getElem? (i := 20) rfl))) (by decide) (t := .long) (t' := (.array .int)) (by decide) (by decide)))).ext E31).other W35 (Or.inr (slot_ne (Or.inr (hw _ (List.mem_of_getElem? (i := 13) rfl))) (Or.inl (hw _ (List.mem_of_getElem? (i := 22) rfl))) (by decide) (t := .long) (t' := (.array .int)) (by decide) (by decide)))).ext E40).other W45 (Or.inr (slot_ne (Or.inr (hw _ (List.mem_of_getElem? (i := 13) rfl))) (Or.inl (hw _ (List.mem_of_getElem? (i := 24) rfl))) (by decide) (t := .long) (t' := (.array .int)) (by decide) (by decide)))).ext E49).other W54 (Or.inr (slot_ne (Or.inr (hw _ (List.mem_of_getElem? (i := 13) rfl))) (Or.inl (hw _ (List.mem_of_getElem? (i := 26) rfl))) (by decide) (t := .long) (t' := (.array .int)) (by decide) (by decide)))).ext E58).other W64 (Or.inr (slot_ne (Or.inr (hw _ (List.mem_of_getElem? (i := 13) rfl))) (Or.inl (hw _ (List.mem_of_getElem? (i := 29) rfl))) (by decide) (t := .long) (t' := (.array .byte)) (by decide) (by decide))))
    have hm_ : own_mask p2 p3 = v9 := hv9.symm
    have f68 : Keep h0 h64 [a1] := ((f62.ext E58).wr W64 (Or.inl (List.mem_of_getElem? (i := 0) rfl)))
    have f69 : Exa Z h64 a1 "com/example/kinhash/kinhash/BlockTable" := (((((((f36.wr W35).ext E40).wr W45).ext E49).wr W54).ext E58).wr W64)
    exact ⟨rfl, N64, f68, f69, (by rw [hm_]; exact f67)⟩
def own_agr (q2 : Int64) (w3 : Int64) : Int32 := (if (q2 &&& w3) = (0 : Int64) then (1 : Int32) else (0 : Int32))
def Q_rmA (Z : State) (a1 : Addr) (q2 : Int64) (w3 : Int64) (h0 : Heap) (n0 : Nat) (v : Option Value) (h : Heap) (L : List Loc) : Prop := v = some (.int (own_agr q2 w3)) ∧ Fr n0 L ∧ h = h0
set_option maxRecDepth 65536 in
set_option maxHeartbeats 40000000 in
theorem rmA (l : Launch) (Z : State) (a0 : Array Value) (hw : ∀ d ∈ tables_1, d.before a0 Z = true) (ws : List Jvm.Cond) (a1 : Addr) (q2 : Int64) (w3 : Int64) (h0 : Heap) (n0 : Nat) (Z0 : n0 ≤ h0.size) (F1 : Fld Z h0 a1 "com/example/kinhash/kinhash/BlockTable" "mask" "J" (.long w3)) :
    MetFree l (⟨"com/example/kinhash/kinhash/BlockTable", "agrees", "(J)Z"⟩ : MethodName) (head1 (Jvm.Cond.code (⟨"com/example/kinhash/kinhash/BlockTable", "agrees", "(J)Z"⟩ : MethodName) prog_4_method_2_code 3 (some .boolean) :: ws) ({ frames := 0, cells := 0, slots := 0, locals := 0 } : Room)) (fun a U => a = #[(.ref a1), (.long q2)] ∧ Z.Warmed39 U.vm ∧ U.heap = h0) (fun _ _ _ _ _ => True) (fun _ U o U' => ∃ v L, o = .returned v ∧ Q_rmA Z a1 q2 w3 h0 n0 v U'.heap L ∧ FrameEnd U o U' L ({ frames := 0, cells := 0, slots := 0, locals := 0 } : Room).cells ({ frames := 0, cells := 0, slots := 0, locals := 0 } : Room).slots) := by
  refine MetFree.of_bodySF (plainFor_of_name pn_0) hisR ?_
  intro p e s m args below meth c s₁ Bd hml0 hP hK
  obtain ⟨rfl, hZ, hh⟩ := hP
  have hx := Bd.exec
  have hby := Bd.bytes
  have hml : c.maxLocals = 3 := hml0
  have hown : s.vm.findClass "com/example/kinhash/kinhash/BlockTable" = some m.cls := findClass_of_methodNamed Bd.named
  have hnm := (name_of_methodNamed Bd.named Bd.method).1
  have X0 : Stand p l e ({ frames := 0, cells := 0, slots := 0, locals := 0 } : Room) s m #[(.ref a1), (.long q2)] below meth c s₁ [] 0 0 := Stand.of_body Bd
  have e0 : s₁.heap = h0 := by rw [← hh, Bd.state]; rfl
  have N0 := Fr.nil n0
  have P0 : Rch p e below (s₁.setTop (entryFrame m #[(.ref a1), (.long q2)] 3)) (s₁.setTop (mkF m 0 #[.val (.ref a1), .val (.long q2), .second] [])) := fun t k => castTop (by first | (simp [entryFrame, mkF, argsToLocals, Value.category]; done) | rfl) k
  have P1 : Rch p e below (s₁.setTop (entryFrame m #[(.ref a1), (.long q2)] 3)) (s₁.setTop (mkF m 2 #[.val (.ref a1), .val (.long q2), .second] [(.ref a1), (.long q2)])) := fun t k => P0 t (by
    show Steps p.tables e below (s₁.setTop (mkF m 0 #[.val (.ref a1), .val (.long q2), .second] [])) t
    refine XS.lloadN X0.here hx rfl (hb hby d3_0) rfl ?_
    show Steps p.tables e below (s₁.setTop (mkF m 1 #[.val (.ref a1), .val (.long q2), .second] [(.long q2)])) t
    refine XS.aloadN X0.here hx rfl (hb hby d3_1) rfl rfl ?_
    exact k)
  obtain ⟨T2, X2, e2, st2⟩ := getF X0 hx hZ hown (host := "") (Or.inl (hw _ (List.mem_of_getElem? (i := 12) rfl))) Via.refl e0 F1 (g := (mkF m 2 #[.val (.ref a1), .val (.long q2), .second] [(.ref a1), (.long q2)])) rfl rfl (hb hby d3_2)
  have P3 : Rch p e below (s₁.setTop (entryFrame m #[(.ref a1), (.long q2)] 3)) (T2.setTop (mkF m 5 #[.val (.ref a1), .val (.long q2), .second] [(.long w3), (.long q2)])) := fun t k => P1 t (st2 t k)
  obtain ⟨y4, hy4⟩ : ∃ z : Int64, z = (q2 &&& w3) := ⟨_, rfl⟩
  have P5 : Rch p e below (s₁.setTop (entryFrame m #[(.ref a1), (.long q2)] 3)) (T2.setTop (mkF m 8 #[.val (.ref a1), .val (.long q2), .second] [(.int (lcmpW y4 (0 : Int64)))])) := fun t k => P3 t (by
    subst hy4
    show Steps p.tables e below (T2.setTop (mkF m 5 #[.val (.ref a1), .val (.long q2), .second] [(.long w3), (.long q2)])) t
    refine XS.land X2.here hx rfl (hb hby d3_5) rfl ?_
    show Steps p.tables e below (T2.setTop (mkF m 6 #[.val (.ref a1), .val (.long q2), .second] [(.long (q2 &&& w3))])) t
    refine XS.lconst X2.here hx rfl (hb hby d3_6) ?_
    show Steps p.tables e below (T2.setTop (mkF m 7 #[.val (.ref a1), .val (.long q2), .second] [(.long (0 : Int64)), (.long (q2 &&& w3))])) t
    refine XS.lcmp X2.here hx rfl (hb hby d3_7) rfl ?_
    exact k)
  obtain ⟨v7, hv7, P8⟩ : ∃ (v7 : Int32), v7 = (if y4 = (0 : Int64) then (1 : Int32) else (0 : Int32)) ∧ Rch p e below (s₁.setTop (entryFrame m #[(.ref a1), (.long q2)] 3)) (T2.setTop (mkF m 16 #[.val (.ref a1), .val (.long q2), .second] [(.int v7)])) := by
    by_cases c6 : y4 = (0 : Int64)
    · refine ⟨(1 : Int32), (by first | rfl | rw [if_pos c6] | simp only [if_pos c6]), fun t k => P5 t ?_⟩
      show Steps p.tables e below (T2.setTop (mkF m 8 #[.val (.ref a1), .val (.long q2), .second] [(.int (lcmpW y4 (0 : Int64)))])) t
      refine XS.ifNo X2.here hx rfl (hb hby d3_8) rfl ((if0 _ _).trans (teq ((lw_eq y4 (0 : Int64)).mpr c6)).2) ?_
      show Steps p.tables e below (T2.setTop (mkF m 11 #[.val (.ref a1), .val (.long q2), .second] [])) t
      refine XS.iconst X2.here hx rfl (hb hby d3_11) ?_
      show Steps p.tables e below (T2.setTop (mkF m 12 #[.val (.ref a1), .val (.long q2), .second] [(.int (1 : Int32))])) t
      refine XS.goto X2.here hx rfl (pc0 := 12) (pc' := 16) rfl (hb hby d3_12) (by decide) (by decide) ?_
      exact k
    · refine ⟨(0 : Int32), (by first | rfl | rw [if_neg c6] | simp only [if_neg c6]), fun t k => P5 t ?_⟩
      show Steps p.tables e below (T2.setTop (mkF m 8 #[.val (.ref a1), .val (.long q2), .second] [(.int (lcmpW y4 (0 : Int64)))])) t
      refine XS.ifYes X2.here hx rfl (pc0 := 8) (pc' := 15) rfl (hb hby d3_8) rfl ((if0 _ _).trans (feq (fun q_ => c6 ((lw_eq y4 (0 : Int64)).mp q_))).2) (by decide) (by decide) ?_
      show Steps p.tables e below (T2.setTop (mkF m 15 #[.val (.ref a1), .val (.long q2), .second] [])) t
      refine XS.iconst X2.here hx rfl (hb hby d3_15) ?_
      exact k
  have hz9 : nar .boolean v7 = v7 := by rw [hv7]; (repeat' split) <;> rfl
  obtain ⟨fs, hr, hrun, hended, hW, hsame⟩ := X2.leave (v := some (.int (nar .boolean v7))) (fun h => by rw [Bd.returns] at h; cases h)
  refine ⟨_, _, P8 _ ?_, hrun, hended, _, _, rfl, ?_, ⟨_, rfl⟩, hW, hsame.mono (by decide) (by decide)⟩
  · exact retN X2 hx (t := .boolean) Bd.returns (by simp) (hb hby d3_16) hr
  · show Q_rmA Z a1 q2 w3 h0 n0 _ T2.heap _
    rw [e2]
    exact ⟨(by rw [hz9]; unfold own_agr; subst hv7 hy4; first | rfl | rw [] | simp only [] | simp [*]), N0, rfl⟩
def own_bbz (q1 : Int64) (p2 : Int32) (p3 : Int32) : Int32 := (if p3 = (0 : Int32) then (1 : Int32) else (if (((q1 <<< ((((64 : Int32) - p2) - p3) &&& 0x3f).toInt64).toUInt64 >>> (((64 : Int32) - p3) &&& 0x3f).toInt64.toUInt64).toInt64) = (0 : Int64) then (1 : Int32) else (0 : Int32)))
def Q_rmZ (Z : State) (q1 : Int64) (p2 : Int32) (p3 : Int32) (h0 : Heap) (n0 : Nat) (v : Option Value) (h : Heap) (L : List Loc) : Prop := v = some (.int (own_bbz q1 p2 p3)) ∧ Fr n0 L ∧ h = h0
set_option maxRecDepth 65536 in
set_option maxHeartbeats 40000000 in
theorem rmZ (l : Launch) (Z : State) (a0 : Array Value) (hw : ∀ d ∈ tables_1, d.before a0 Z = true) (ws : List Jvm.Cond) (q1 : Int64) (p2 : Int32) (p3 : Int32) (h0 : Heap) (n0 : Nat) (Z0 : n0 ≤ h0.size) :
    MetFree l (⟨"com/example/kinhash/kinhash/BlockTableAgreesPinLaw", "blockBitsZero", "(JII)Z"⟩ : MethodName) (head1 (Jvm.Cond.code (⟨"com/example/kinhash/kinhash/BlockTableAgreesPinLaw", "blockBitsZero", "(JII)Z"⟩ : MethodName) method_2_code 7 (some .boolean) :: ws) ({ frames := 0, cells := 0, slots := 0, locals := 0 } : Room)) (fun a U => a = #[(.long q1), (.int p2), (.int p3)] ∧ Z.Warmed39 U.vm ∧ U.heap = h0) (fun _ _ _ _ _ => True) (fun _ U o U' => ∃ v L, o = .returned v ∧ Q_rmZ Z q1 p2 p3 h0 n0 v U'.heap L ∧ FrameEnd U o U' L ({ frames := 0, cells := 0, slots := 0, locals := 0 } : Room).cells ({ frames := 0, cells := 0, slots := 0, locals := 0 } : Room).slots) := by
  refine MetFree.of_bodySF (plainFor_of_name pn_1) hisR ?_
  intro p e s m args below meth c s₁ Bd hml0 hP hK
  obtain ⟨rfl, hZ, hh⟩ := hP
  have hx := Bd.exec
  have hby := Bd.bytes
  have hml : c.maxLocals = 7 := hml0
  have hown : s.vm.findClass "com/example/kinhash/kinhash/BlockTableAgreesPinLaw" = some m.cls := findClass_of_methodNamed Bd.named
  have hnm := (name_of_methodNamed Bd.named Bd.method).1
  have X0 : Stand p l e ({ frames := 0, cells := 0, slots := 0, locals := 0 } : Room) s m #[(.long q1), (.int p2), (.int p3)] below meth c s₁ [] 0 0 := Stand.of_body Bd
  have e0 : s₁.heap = h0 := by rw [← hh, Bd.state]; rfl
  have N0 := Fr.nil n0
  have P0 : Rch p e below (s₁.setTop (entryFrame m #[(.long q1), (.int p2), (.int p3)] 7)) (s₁.setTop (mkF m 0 #[.val (.long q1), .second, .val (.int p2), .val (.int p3), .unset, .unset, .unset] [])) := fun t k => castTop (by first | (simp [entryFrame, mkF, argsToLocals, Value.category]; done) | rfl) k
  have P1 : Rch p e below (s₁.setTop (entryFrame m #[(.long q1), (.int p2), (.int p3)] 7)) (s₁.setTop (mkF m 1 #[.val (.long q1), .second, .val (.int p2), .val (.int p3), .unset, .unset, .unset] [(.int p3)])) := fun t k => P0 t (by
    show Steps p.tables e below (s₁.setTop (mkF m 0 #[.val (.long q1), .second, .val (.int p2), .val (.int p3), .unset, .unset, .unset] [])) t
    refine XS.iloadN X0.here hx rfl (hb hby d4_0) rfl ?_
    exact k)
  by_cases c2 : p3 = (0 : Int32)
  · have P3 : Rch p e below (s₁.setTop (entryFrame m #[(.long q1), (.int p2), (.int p3)] 7)) (s₁.setTop (mkF m 5 #[.val (.long q1), .second, .val (.int p2), .val (.int p3), .unset, .unset, .unset] [(.int (1 : Int32))])) := fun t k => P1 t (by
      show Steps p.tables e below (s₁.setTop (mkF m 1 #[.val (.long q1), .second, .val (.int p2), .val (.int p3), .unset, .unset, .unset] [(.int p3)])) t
      refine XS.ifNo X0.here hx rfl (hb hby d4_1) rfl ((if0 _ _).trans (teq c2).2) ?_
      show Steps p.tables e below (s₁.setTop (mkF m 4 #[.val (.long q1), .second, .val (.int p2), .val (.int p3), .unset, .unset, .unset] [])) t
      refine XS.iconst X0.here hx rfl (hb hby d4_4) ?_
      exact k)
    obtain ⟨fs, hr, hrun, hended, hW, hsame⟩ := X0.leave (v := some (.int (1 : Int32))) (fun h => by rw [Bd.returns] at h; cases h)
    refine ⟨_, _, P3 _ ?_, hrun, hended, _, _, rfl, ?_, ⟨_, rfl⟩, hW, hsame.mono (by decide) (by decide)⟩
    · exact retN X0 hx (t := .boolean) Bd.returns (by simp) (hb hby d4_5) hr
    · show Q_rmZ Z q1 p2 p3 h0 n0 _ s₁.heap _
      rw [e0]
      exact ⟨(by unfold own_bbz; first | rfl | rw [if_pos c2] | simp only [if_pos c2] | simp [*]), N0, rfl⟩
  · obtain ⟨x4, hx4⟩ : ∃ z : Int32, z = (((64 : Int32) - p2) - p3) := ⟨_, rfl⟩
    obtain ⟨y5, hy5⟩ : ∃ z : Int64, z = (q1 <<< ((((64 : Int32) - p2) - p3) &&& 0x3f).toInt64) := ⟨_, rfl⟩
    have P6 : Rch p e below (s₁.setTop (entryFrame m #[(.long q1), (.int p2), (.int p3)] 7)) (s₁.setTop (mkF m 20 #[.val (.long q1), .second, .val (.int p2), .val (.int p3), .val (.int x4), .val (.long y5), .second] [])) := fun t k => P1 t (by
      subst hx4 hy5
      show Steps p.tables e below (s₁.setTop (mkF m 1 #[.val (.long q1), .second, .val (.int p2), .val (.int p3), .unset, .unset, .unset] [(.int p3)])) t
      refine XS.ifYes X0.here hx rfl (pc0 := 1) (pc' := 6) rfl (hb hby d4_1) rfl ((if0 _ _).trans (feq c2).2) (by decide) (by decide) ?_
      show Steps p.tables e below (s₁.setTop (mkF m 6 #[.val (.long q1), .second, .val (.int p2), .val (.int p3), .unset, .unset, .unset] [])) t
      refine XS.bipush X0.here hx rfl (hb hby d4_6) ?_
      show Steps p.tables e below (s₁.setTop (mkF m 8 #[.val (.long q1), .second, .val (.int p2), .val (.int p3), .unset, .unset, .unset] [(.int (64 : Int32))])) t
      refine XS.iloadN X0.here hx rfl (hb hby d4_8) rfl ?_
      show Steps p.tables e below (s₁.setTop (mkF m 9 #[.val (.long q1), .second, .val (.int p2), .val (.int p3), .unset, .unset, .unset] [(.int p2), (.int (64 : Int32))])) t
      refine XS.isub X0.here hx rfl (hb hby d4_9) rfl ?_
      show Steps p.tables e below (s₁.setTop (mkF m 10 #[.val (.long q1), .second, .val (.int p2), .val (.int p3), .unset, .unset, .unset] [(.int ((64 : Int32) - p2))])) t
      refine XS.iloadN X0.here hx rfl (hb hby d4_10) rfl ?_
      show Steps p.tables e below (s₁.setTop (mkF m 11 #[.val (.long q1), .second, .val (.int p2), .val (.int p3), .unset, .unset, .unset] [(.int p3), (.int ((64 : Int32) - p2))])) t
      refine XS.isub X0.here hx rfl (hb hby d4_11) rfl ?_
      show Steps p.tables e below (s₁.setTop (mkF m 12 #[.val (.long q1), .second, .val (.int p2), .val (.int p3), .unset, .unset, .unset] [(.int (((64 : Int32) - p2) - p3))])) t
      refine XS.istore X0.here hx rfl (hb hby d4_12) rfl (l' := #[.val (.long q1), .second, .val (.int p2), .val (.int p3), .val (.int (((64 : Int32) - p2) - p3)), .unset, .unset]) rfl ?_
      show Steps p.tables e below (s₁.setTop (mkF m 14 #[.val (.long q1), .second, .val (.int p2), .val (.int p3), .val (.int (((64 : Int32) - p2) - p3)), .unset, .unset] [])) t
      refine XS.lloadN X0.here hx rfl (hb hby d4_14) rfl ?_
      show Steps p.tables e below (s₁.setTop (mkF m 15 #[.val (.long q1), .second, .val (.int p2), .val (.int p3), .val (.int (((64 : Int32) - p2) - p3)), .unset, .unset] [(.long q1)])) t
      refine XS.iload X0.here hx rfl (hb hby d4_15) rfl ?_
      show Steps p.tables e below (s₁.setTop (mkF m 17 #[.val (.long q1), .second, .val (.int p2), .val (.int p3), .val (.int (((64 : Int32) - p2) - p3)), .unset, .unset] [(.int (((64 : Int32) - p2) - p3)), (.long q1)])) t
      refine XS.lshl X0.here hx rfl (hb hby d4_17) rfl ?_
      show Steps p.tables e below (s₁.setTop (mkF m 18 #[.val (.long q1), .second, .val (.int p2), .val (.int p3), .val (.int (((64 : Int32) - p2) - p3)), .unset, .unset] [(.long (q1 <<< ((((64 : Int32) - p2) - p3) &&& 0x3f).toInt64))])) t
      refine XS.lstore X0.here hx rfl (hb hby d4_18) rfl (l' := #[.val (.long q1), .second, .val (.int p2), .val (.int p3), .val (.int (((64 : Int32) - p2) - p3)), .val (.long (q1 <<< ((((64 : Int32) - p2) - p3) &&& 0x3f).toInt64)), .second]) rfl ?_
      exact k)
    obtain ⟨y7, hy7⟩ : ∃ z : Int64, z = ((y5.toUInt64 >>> (((64 : Int32) - p3) &&& 0x3f).toInt64.toUInt64).toInt64) := ⟨_, rfl⟩
    have P8 : Rch p e below (s₁.setTop (entryFrame m #[(.long q1), (.int p2), (.int p3)] 7)) (s₁.setTop (mkF m 29 #[.val (.long q1), .second, .val (.int p2), .val (.int p3), .val (.int x4), .val (.long y5), .second] [(.int (lcmpW y7 (0 : Int64)))])) := fun t k => P6 t (by
      subst hy7
      show Steps p.tables e below (s₁.setTop (mkF m 20 #[.val (.long q1), .second, .val (.int p2), .val (.int p3), .val (.int x4), .val (.long y5), .second] [])) t
      refine XS.lload X0.here hx rfl (hb hby d4_20) rfl ?_
      show Steps p.tables e below (s₁.setTop (mkF m 22 #[.val (.long q1), .second, .val (.int p2), .val (.int p3), .val (.int x4), .val (.long y5), .second] [(.long y5)])) t
      refine XS.bipush X0.here hx rfl (hb hby d4_22) ?_
      show Steps p.tables e below (s₁.setTop (mkF m 24 #[.val (.long q1), .second, .val (.int p2), .val (.int p3), .val (.int x4), .val (.long y5), .second] [(.int (64 : Int32)), (.long y5)])) t
      refine XS.iloadN X0.here hx rfl (hb hby d4_24) rfl ?_
      show Steps p.tables e below (s₁.setTop (mkF m 25 #[.val (.long q1), .second, .val (.int p2), .val (.int p3), .val (.int x4), .val (.long y5), .second] [(.int p3), (.int (64 : Int32)), (.long y5)])) t
      refine XS.isub X0.here hx rfl (hb hby d4_25) rfl ?_
      show Steps p.tables e below (s₁.setTop (mkF m 26 #[.val (.long q1), .second, .val (.int p2), .val (.int p3), .val (.int x4), .val (.long y5), .second] [(.int ((64 : Int32) - p3)), (.long y5)])) t
      refine XS.lushr X0.here hx rfl (hb hby d4_26) rfl ?_
      show Steps p.tables e below (s₁.setTop (mkF m 27 #[.val (.long q1), .second, .val (.int p2), .val (.int p3), .val (.int x4), .val (.long y5), .second] [(.long ((y5.toUInt64 >>> (((64 : Int32) - p3) &&& 0x3f).toInt64.toUInt64).toInt64))])) t
      refine XS.lconst X0.here hx rfl (hb hby d4_27) ?_
      show Steps p.tables e below (s₁.setTop (mkF m 28 #[.val (.long q1), .second, .val (.int p2), .val (.int p3), .val (.int x4), .val (.long y5), .second] [(.long (0 : Int64)), (.long ((y5.toUInt64 >>> (((64 : Int32) - p3) &&& 0x3f).toInt64.toUInt64).toInt64))])) t
      refine XS.lcmp X0.here hx rfl (hb hby d4_28) rfl ?_
      exact k)
    obtain ⟨v10, hv10, P11⟩ : ∃ (v10 : Int32), v10 = (if y7 = (0 : Int64) then (1 : Int32) else (0 : Int32)) ∧ Rch p e below (s₁.setTop (entryFrame m #[(.long q1), (.int p2), (.int p3)] 7)) (s₁.setTop (mkF m 37 #[.val (.long q1), .second, .val (.int p2), .val (.int p3), .val (.int x4), .val (.long y5), .second] [(.int v10)])) := by
      by_cases c9 : y7 = (0 : Int64)
      · refine ⟨(1 : Int32), (by first | rfl | rw [if_pos c9] | simp only [if_pos c9]), fun t k => P8 t ?_⟩
        show Steps p.tables e below (s₁.setTop (mkF m 29 #[.val (.long q1), .second, .val (.int p2), .val (.int p3), .val (.int x4), .val (.long y5), .second] [(.int (lcmpW y7 (0 : Int64)))])) t
        refine XS.ifNo X0.here hx rfl (hb hby d4_29) rfl ((if0 _ _).trans (teq ((lw_eq y7 (0 : Int64)).mpr c9)).2) ?_
        show Steps p.tables e below (s₁.setTop (mkF m 32 #[.val (.long q1), .second, .val (.int p2), .val (.int p3), .val (.int x4), .val (.long y5), .second] [])) t
        refine XS.iconst X0.here hx rfl (hb hby d4_32) ?_
        show Steps p.tables e below (s₁.setTop (mkF m 33 #[.val (.long q1), .second, .val (.int p2), .val (.int p3), .val (.int x4), .val (.long y5), .second] [(.int (1 : Int32))])) t
        refine XS.goto X0.here hx rfl (pc0 := 33) (pc' := 37) rfl (hb hby d4_33) (by decide) (by decide) ?_
        exact k
      · refine ⟨(0 : Int32), (by first | rfl | rw [if_neg c9] | simp only [if_neg c9]), fun t k => P8 t ?_⟩
        show Steps p.tables e below (s₁.setTop (mkF m 29 #[.val (.long q1), .second, .val (.int p2), .val (.int p3), .val (.int x4), .val (.long y5), .second] [(.int (lcmpW y7 (0 : Int64)))])) t
        refine XS.ifYes X0.here hx rfl (pc0 := 29) (pc' := 36) rfl (hb hby d4_29) rfl ((if0 _ _).trans (feq (fun q_ => c9 ((lw_eq y7 (0 : Int64)).mp q_))).2) (by decide) (by decide) ?_
        show Steps p.tables e below (s₁.setTop (mkF m 36 #[.val (.long q1), .second, .val (.int p2), .val (.int p3), .val (.int x4), .val (.long y5), .second] [])) t
        refine XS.iconst X0.here hx rfl (hb hby d4_36) ?_
        exact k
    have hz12 : nar .boolean v10 = v10 := by rw [hv10]; (repeat' split) <;> rfl
    obtain ⟨fs, hr, hrun, hended, hW, hsame⟩ := X0.leave (v := some (.int (nar .boolean v10))) (fun h => by rw [Bd.returns] at h; cases h)
    refine ⟨_, _, P11 _ ?_, hrun, hended, _, _, rfl, ?_, ⟨_, rfl⟩, hW, hsame.mono (by decide) (by decide)⟩
    · exact retN X0 hx (t := .boolean) Bd.returns (by simp) (hb hby d4_37) hr
    · show Q_rmZ Z q1 p2 p3 h0 n0 _ s₁.heap _
      rw [e0]
      exact ⟨(by rw [hz12]; unfold own_bbz; subst hv10 hy7 hy5 hx4; first | rfl | rw [if_neg c2] | simp only [if_neg c2] | simp [*]), N0, rfl⟩
theorem own_lb (a : Int32) : 0 ≤ ((a &&& (2147483647 : Int32)) % (65 : Int32)).toInt ∧ ((a &&& (2147483647 : Int32)) % (65 : Int32)).toInt ≤ 64 := by
  have m := c_mask a 2147483647 31 (by decide) (by decide)
  have q := (c_irem (a &&& 2147483647) 65 65 rfl).1 (by omega)
  omega
theorem own_dv (x : Int32) (h0 : 0 ≤ x.toInt) (h1 : x.toInt ≤ 64) : ((65 : Int32) - x).toInt = 65 - x.toInt := by
  have s := c_isub 65 x
  have r := rng32 (65 - x)
  have e : (65 : Int32).toInt = 65 := rfl
  omega
theorem own_nz (x : Int32) (h : 0 < x.toInt) : ¬ (x = 0) := by rintro rfl; exact absurd h (by decide)
theorem own_wd (b x d : Int32) (hd : d.toInt = 65 - x.toInt) (h0 : 0 ≤ x.toInt) (h1 : x.toInt ≤ 64) : 0 ≤ ((b &&& (2147483647 : Int32)) % d).toInt ∧ ((b &&& (2147483647 : Int32)) % d).toInt ≤ 64 - x.toInt := by
  have m := c_mask b 2147483647 31 (by decide) (by decide)
  have q := (c_iremV (b &&& 2147483647) d).1 (by omega) (by omega)
  omega
theorem own_shl (x : Int64) (q : Int32) (k : Nat) (hk : q.toBitVec.toNat % 64 = k) : (x <<< (q &&& 0x3f).toInt64).toBitVec = x.toBitVec <<< k := by
  show (x.toBitVec <<< ((q &&& 0x3f).toInt64.toBitVec.smod 64)) = _
  rw [BitVec.shiftLeft_eq', (sm64 q k hk).1, smod64 k (sm64 q k hk).2]
theorem own_ushr (x : Int64) (q : Int32) (k : Nat) (hk : q.toBitVec.toNat % 64 = k) : ((x.toUInt64 >>> (q &&& 0x3f).toInt64.toUInt64).toInt64).toBitVec = x.toBitVec >>> k := by
  show (x.toBitVec >>> ((q &&& 0x3f).toInt64.toBitVec % 64)) = _
  have h := (sm64 q k hk).2
  rw [BitVec.ushiftRight_eq', BitVec.toNat_umod, (sm64 q k hk).1, BitVec.toNat_ofNat]
  congr 1
  show k % 2 ^ 64 % 64 = k
  omega
theorem own_nat (x : Int32) (h0 : 0 ≤ x.toInt) : x.toBitVec.toNat = x.toInt.toNat := by
  have h : x.toInt = x.toBitVec.toInt := rfl
  rw [BitVec.toInt_eq_toNat_cond] at h
  have := x.toBitVec.isLt
  split at h <;> omega
theorem own_ones (k : Nat) (hk : k < 64) (i : Nat) : (((1#64) <<< k) - 1#64).getLsbD i = decide (i < k) := by
  have e : (((1#64) <<< k) - 1#64) = BitVec.ofNat 64 (2 ^ k - 1) := by
    apply BitVec.eq_of_toNat_eq
    have h1 : 2 ^ k < 2 ^ 64 := Nat.pow_lt_pow_right (by decide) hk
    have h2 : 0 < 2 ^ k := Nat.two_pow_pos k
    rw [BitVec.toNat_sub, BitVec.toNat_shiftLeft, BitVec.toNat_ofNat, BitVec.toNat_ofNat, Nat.shiftLeft_eq]
    generalize 2 ^ k = P at *
    omega
  rw [e, BitVec.getLsbD_ofNat, Nat.testBit_two_pow_sub_one]
  by_cases c : i < k
  · simp [c, show i < 64 by omega]
  · simp [c]
theorem own_iff (d M : BitVec 64) (n k h : Nat) (hM : ∀ i, i < 64 → M.getLsbD i = decide (n ≤ i ∧ i < n + k)) (hnk : n + k ≤ 64) (hk : 0 < k) (hh : h = 64 - n - k) : (d &&& M = 0#64) ↔ ((d <<< h) >>> (64 - k) = 0#64) := by
  constructor
  · intro H
    apply BitVec.eq_of_getLsbD_eq
    intro i hi
    simp only [BitVec.getLsbD_ushiftRight, BitVec.getLsbD_shiftLeft, BitVec.getLsbD_zero]
    by_cases c : i < k
    · have e : 64 - k + i - h = n + i := by omega
      have t := congrArg (fun z => BitVec.getLsbD z (n + i)) H
      simp only [BitVec.getLsbD_and, hM (n + i) (by omega), BitVec.getLsbD_zero] at t
      rw [e]
      simp [c] at t
      simp [t]
    · simp [show ¬ (64 - k + i < 64) by omega]
  · intro H
    apply BitVec.eq_of_getLsbD_eq
    intro i hi
    simp only [BitVec.getLsbD_and, BitVec.getLsbD_zero, hM i hi]
    by_cases c : n ≤ i ∧ i < n + k
    · have t := congrArg (fun z => BitVec.getLsbD z (i - n)) H
      simp only [BitVec.getLsbD_ushiftRight, BitVec.getLsbD_shiftLeft, BitVec.getLsbD_zero] at t
      have e : 64 - k + (i - n) - h = i := by omega
      rw [e] at t
      have a1 : 64 - k + (i - n) < 64 := by omega
      have a2 : ¬ 64 - k + (i - n) < h := by omega
      simp [a1, a2] at t
      simp [t]
    · simp [c]
theorem own_z (x : Int64) : x = 0 ↔ x.toBitVec = 0#64 := ⟨fun h => by rw [h]; rfl, fun h => Int64.toBitVec_inj.mp h⟩
theorem own_core (lb wd : Int32) (h0 : 0 ≤ lb.toInt) (h1 : lb.toInt ≤ 64) (h2 : 0 ≤ wd.toInt) (h3 : wd.toInt ≤ 64 - lb.toInt) (d : Int64) : own_agr d (own_mask lb wd) = own_bbz d lb wd := by
  have nl := own_nat lb h0
  have nw := own_nat wd h2
  by_cases k0 : wd = 0
  · subst k0
    have e : own_mask lb 0 = 0 := by
      unfold own_mask
      rw [if_neg (by decide)]
      have : ((1 : Int64) <<< ((0 : Int32) &&& 0x3f).toInt64) - (1 : Int64) = 0 := by decide
      rw [this, own_z, own_shl _ _ _ rfl]
      show (0#64) <<< _ = 0#64
      simp
    unfold own_agr own_bbz
    rw [e, if_pos rfl, if_pos (by simp)]
  · have k1 : 0 < wd.toInt := by
      have : wd.toInt ≠ 0 := fun q => k0 (Int32.toInt_inj.mp q)
      omega
    unfold own_agr own_bbz
    rw [if_neg k0]
    have s1 := c_isub 64 lb
    have s2 := c_isub (64 - lb) wd
    have s3 := c_isub 64 wd
    have r1 := rng32 (64 - lb)
    have r2 := rng32 (64 - lb - wd)
    have r3 := rng32 (64 - wd)
    have e64 : (64 : Int32).toInt = 64 := rfl
    have nh := own_nat (64 - lb - wd) (by omega)
    have nq := own_nat (64 - wd) (by omega)
    have key : (d &&& own_mask lb wd) = (0 : Int64) ↔ ((((d <<< (((64 : Int32) - lb - wd) &&& 0x3f).toInt64).toUInt64 >>> (((64 : Int32) - wd) &&& 0x3f).toInt64.toUInt64).toInt64) = (0 : Int64)) := by
      rw [own_z, own_z, own_ushr _ _ (64 - wd.toInt.toNat) (by omega), own_shl _ _ (64 - lb.toInt.toNat - wd.toInt.toNat) (by omega), Int64.toBitVec_and]
      refine own_iff _ _ lb.toInt.toNat wd.toInt.toNat _ (fun i hi => ?_) (by omega) (by omega) rfl
      unfold own_mask
      by_cases w64 : wd = 64
      · subst w64
        rw [if_pos rfl]
        have a : lb.toInt.toNat = 0 := by omega
        rw [a, e64]
        have q : (BitVec.allOnes 64).getLsbD i = decide (i < 64) := BitVec.getLsbD_allOnes
        refine (show (BitVec.allOnes 64).getLsbD i = _ from q).trans ?_
        simp [hi]
      · rw [if_neg w64]
        have w1 : wd.toInt ≠ 64 := fun q => w64 (Int32.toInt_inj.mp (q.trans e64.symm))
        rw [own_shl _ lb lb.toInt.toNat (by omega), Int64.toBitVec_sub, own_shl _ wd wd.toInt.toNat (by omega)]
        show ((((1#64) <<< wd.toInt.toNat) - 1#64) <<< lb.toInt.toNat).getLsbD i = _
        rw [BitVec.getLsbD_shiftLeft, own_ones _ (by omega)]
        have hnk : lb.toInt.toNat + wd.toInt.toNat ≤ 64 := by omega
        generalize lb.toInt.toNat = n at *
        generalize wd.toInt.toNat = k at *
        by_cases c : n ≤ i
        · by_cases c2 : i < n + k
          · simp [hi, c, c2, show ¬ i < n by omega, show i - n < k by omega]
          · simp [hi, c, c2, show ¬ (i - n < k) by omega]
        · simp [hi, c, show i < n by omega]
    by_cases q : (d &&& own_mask lb wd) = (0 : Int64)
    · rw [if_pos q, if_pos (key.mp q)]
    · rw [if_neg q, if_neg (fun z => q (key.mpr z))]

def Q_rm0 (Z : State) (p1 : Int32) (p2 : Int32) (q3 : Int64) (p4 : Int32) (h0 : Heap) (n0 : Nat) (v : Option Value) (h : Heap) (L : List Loc) : Prop := v = some (.int (1 : Int32)) ∧ Fr n0 L
set_option maxRecDepth 65536 in
set_option maxHeartbeats 40000000 in
theorem rm0 (l : Launch) (Z : State) (a0 : Array Value) (hw : ∀ d ∈ tables_1, d.before a0 Z = true) (ws : List Jvm.Cond) (p1 : Int32) (p2 : Int32) (q3 : Int64) (p4 : Int32) (h0 : Heap) (n0 : Nat) (Z0 : n0 ≤ h0.size) :
    MetFree l x (head1 (Jvm.Cond.code x code maxLocals ret :: ws) room_1) (fun a U => a = #[(.int p1), (.int p2), (.long q3), (.int p4)] ∧ Z.Warmed39 U.vm ∧ U.heap = h0) (fun _ _ _ _ _ => True) (fun _ U o U' => ∃ v L, o = .returned v ∧ Q_rm0 Z p1 p2 q3 p4 h0 n0 v U'.heap L ∧ FrameEnd U o U' L room_1.cells room_1.slots) := by
  refine MetFree.of_bodySF (plainFor_of_name pn_1) hisR ?_
  intro p e s m args below meth c s₁ Bd hml0 hP hK
  obtain ⟨rfl, hZ, hh⟩ := hP
  have hx := Bd.exec
  have hby := Bd.bytes
  have hml : c.maxLocals = 15 := hml0
  have hown : s.vm.findClass "com/example/kinhash/kinhash/BlockTableAgreesPinLaw" = some m.cls := findClass_of_methodNamed Bd.named
  have hnm := (name_of_methodNamed Bd.named Bd.method).1
  have X0 : Stand p l e room_1 s m #[(.int p1), (.int p2), (.long q3), (.int p4)] below meth c s₁ [] 0 0 := Stand.of_body Bd
  have e0 : s₁.heap = h0 := by rw [← hh, Bd.state]; rfl
  have N0 := Fr.nil n0
  have P0 : Rch p e below (s₁.setTop (entryFrame m #[(.int p1), (.int p2), (.long q3), (.int p4)] maxLocals)) (s₁.setTop (mkF m 0 #[.val (.int p1), .val (.int p2), .val (.long q3), .second, .val (.int p4), .unset, .unset, .unset, .unset, .unset, .unset, .unset, .unset, .unset, .unset] [])) := fun t k => castTop (by first | (simp [entryFrame, mkF, argsToLocals, Value.category, maxLocals]; done) | rfl) k
  obtain ⟨x1, hx1⟩ : ∃ z : Int32, z = ((p1 &&& (2147483647 : Int32)) % (65 : Int32)) := ⟨_, rfl⟩
  have P2 : Rch p e below (s₁.setTop (entryFrame m #[(.int p1), (.int p2), (.long q3), (.int p4)] maxLocals)) (s₁.setTop (mkF m 9 #[.val (.int p1), .val (.int p2), .val (.long q3), .second, .val (.int p4), .val (.int x1), .unset, .unset, .unset, .unset, .unset, .unset, .unset, .unset, .unset] [])) := fun t k => P0 t (by
    subst hx1
    show Steps p.tables e below (s₁.setTop (mkF m 0 #[.val (.int p1), .val (.int p2), .val (.long q3), .second, .val (.int p4), .unset, .unset, .unset, .unset, .unset, .unset, .unset, .unset, .unset, .unset] [])) t
    refine XS.iloadN X0.here hx rfl (hb hby at_0) rfl ?_
    show Steps p.tables e below (s₁.setTop (mkF m 1 #[.val (.int p1), .val (.int p2), .val (.long q3), .second, .val (.int p4), .unset, .unset, .unset, .unset, .unset, .unset, .unset, .unset, .unset, .unset] [(.int p1)])) t
    refine X0.ldcInt hx hown (mvT hZ (hw _ (List.mem_of_getElem? (i := 0) rfl))) (g := (mkF m 1 #[.val (.int p1), .val (.int p2), .val (.long q3), .second, .val (.int p4), .unset, .unset, .unset, .unset, .unset, .unset, .unset, .unset, .unset, .unset] [(.int p1)])) rfl (hb hby at_1) _ ?_
    show Steps p.tables e below (s₁.setTop (mkF m 3 #[.val (.int p1), .val (.int p2), .val (.long q3), .second, .val (.int p4), .unset, .unset, .unset, .unset, .unset, .unset, .unset, .unset, .unset, .unset] [(.int (2147483647 : Int32)), (.int p1)])) t
    refine XS.iand X0.here hx rfl (hb hby at_3) rfl ?_
    show Steps p.tables e below (s₁.setTop (mkF m 4 #[.val (.int p1), .val (.int p2), .val (.long q3), .second, .val (.int p4), .unset, .unset, .unset, .unset, .unset, .unset, .unset, .unset, .unset, .unset] [(.int (p1 &&& (2147483647 : Int32)))])) t
    refine XS.bipush X0.here hx rfl (hb hby at_4) ?_
    show Steps p.tables e below (s₁.setTop (mkF m 6 #[.val (.int p1), .val (.int p2), .val (.long q3), .second, .val (.int p4), .unset, .unset, .unset, .unset, .unset, .unset, .unset, .unset, .unset, .unset] [(.int (65 : Int32)), (.int (p1 &&& (2147483647 : Int32)))])) t
    refine iremM X0 hx rfl (hb hby at_6) rfl (by decide) ?_
    show Steps p.tables e below (s₁.setTop (mkF m 7 #[.val (.int p1), .val (.int p2), .val (.long q3), .second, .val (.int p4), .unset, .unset, .unset, .unset, .unset, .unset, .unset, .unset, .unset, .unset] [(.int ((p1 &&& (2147483647 : Int32)) % (65 : Int32)))])) t
    refine XS.istore X0.here hx rfl (hb hby at_7) rfl (l' := #[.val (.int p1), .val (.int p2), .val (.long q3), .second, .val (.int p4), .val (.int ((p1 &&& (2147483647 : Int32)) % (65 : Int32))), .unset, .unset, .unset, .unset, .unset, .unset, .unset, .unset, .unset]) rfl ?_
    exact k)
  obtain ⟨x3, hx3⟩ : ∃ z : Int32, z = ((65 : Int32) - x1) := ⟨_, rfl⟩
  obtain ⟨x4, hx4⟩ : ∃ z : Int32, z = (p2 &&& (2147483647 : Int32)) := ⟨_, rfl⟩
  have P5 : Rch p e below (s₁.setTop (entryFrame m #[(.int p1), (.int p2), (.long q3), (.int p4)] maxLocals)) (s₁.setTop (mkF m 18 #[.val (.int p1), .val (.int p2), .val (.long q3), .second, .val (.int p4), .val (.int x1), .unset, .unset, .unset, .unset, .unset, .unset, .unset, .unset, .unset] [(.int x3), (.int x4)])) := fun t k => P2 t (by
    subst hx3 hx4
    show Steps p.tables e below (s₁.setTop (mkF m 9 #[.val (.int p1), .val (.int p2), .val (.long q3), .second, .val (.int p4), .val (.int x1), .unset, .unset, .unset, .unset, .unset, .unset, .unset, .unset, .unset] [])) t
    refine XS.iloadN X0.here hx rfl (hb hby at_9) rfl ?_
    show Steps p.tables e below (s₁.setTop (mkF m 10 #[.val (.int p1), .val (.int p2), .val (.long q3), .second, .val (.int p4), .val (.int x1), .unset, .unset, .unset, .unset, .unset, .unset, .unset, .unset, .unset] [(.int p2)])) t
    refine X0.ldcInt hx hown (mvT hZ (hw _ (List.mem_of_getElem? (i := 0) rfl))) (g := (mkF m 10 #[.val (.int p1), .val (.int p2), .val (.long q3), .second, .val (.int p4), .val (.int x1), .unset, .unset, .unset, .unset, .unset, .unset, .unset, .unset, .unset] [(.int p2)])) rfl (hb hby at_10) _ ?_
    show Steps p.tables e below (s₁.setTop (mkF m 12 #[.val (.int p1), .val (.int p2), .val (.long q3), .second, .val (.int p4), .val (.int x1), .unset, .unset, .unset, .unset, .unset, .unset, .unset, .unset, .unset] [(.int (2147483647 : Int32)), (.int p2)])) t
    refine XS.iand X0.here hx rfl (hb hby at_12) rfl ?_
    show Steps p.tables e below (s₁.setTop (mkF m 13 #[.val (.int p1), .val (.int p2), .val (.long q3), .second, .val (.int p4), .val (.int x1), .unset, .unset, .unset, .unset, .unset, .unset, .unset, .unset, .unset] [(.int (p2 &&& (2147483647 : Int32)))])) t
    refine XS.bipush X0.here hx rfl (hb hby at_13) ?_
    show Steps p.tables e below (s₁.setTop (mkF m 15 #[.val (.int p1), .val (.int p2), .val (.long q3), .second, .val (.int p4), .val (.int x1), .unset, .unset, .unset, .unset, .unset, .unset, .unset, .unset, .unset] [(.int (65 : Int32)), (.int (p2 &&& (2147483647 : Int32)))])) t
    refine XS.iload X0.here hx rfl (hb hby at_15) rfl ?_
    show Steps p.tables e below (s₁.setTop (mkF m 17 #[.val (.int p1), .val (.int p2), .val (.long q3), .second, .val (.int p4), .val (.int x1), .unset, .unset, .unset, .unset, .unset, .unset, .unset, .unset, .unset] [(.int x1), (.int (65 : Int32)), (.int (p2 &&& (2147483647 : Int32)))])) t
    refine XS.isub X0.here hx rfl (hb hby at_17) rfl ?_
    exact k)
  have hlb : 0 ≤ x1.toInt ∧ x1.toInt ≤ 64 := by rw [hx1]; exact own_lb p1
  have hdv : x3.toInt = 65 - x1.toInt := by rw [hx3]; exact own_dv _ hlb.1 hlb.2
  have hnz18 : ¬ (x3 = 0) := own_nz _ (by omega)
  obtain ⟨x6, hx6⟩ : ∃ z : Int32, z = (x4 % x3) := ⟨_, rfl⟩
  have P7 : Rch p e below (s₁.setTop (entryFrame m #[(.int p1), (.int p2), (.long q3), (.int p4)] maxLocals)) (s₁.setTop (mkF m 21 #[.val (.int p1), .val (.int p2), .val (.long q3), .second, .val (.int p4), .val (.int x1), .val (.int x6), .unset, .unset, .unset, .unset, .unset, .unset, .unset, .unset] [])) := fun t k => P5 t (by
    subst hx6
    show Steps p.tables e below (s₁.setTop (mkF m 18 #[.val (.int p1), .val (.int p2), .val (.long q3), .second, .val (.int p4), .val (.int x1), .unset, .unset, .unset, .unset, .unset, .unset, .unset, .unset, .unset] [(.int x3), (.int x4)])) t
    refine iremM X0 hx rfl (hb hby at_18) rfl hnz18 ?_
    show Steps p.tables e below (s₁.setTop (mkF m 19 #[.val (.int p1), .val (.int p2), .val (.long q3), .second, .val (.int p4), .val (.int x1), .unset, .unset, .unset, .unset, .unset, .unset, .unset, .unset, .unset] [(.int (x4 % x3))])) t
    refine XS.istore X0.here hx rfl (hb hby at_19) rfl (l' := #[.val (.int p1), .val (.int p2), .val (.long q3), .second, .val (.int p4), .val (.int x1), .val (.int (x4 % x3)), .unset, .unset, .unset, .unset, .unset, .unset, .unset, .unset]) rfl ?_
    exact k)
  have hwd : 0 ≤ x6.toInt ∧ x6.toInt ≤ 64 - x1.toInt := by rw [hx6, hx4]; exact own_wd p2 _ _ hdv hlb.1 hlb.2
  obtain ⟨T8, h8, X8, e8, E8, A8, D8, -, st8⟩ := newO X0 hx hZ hown (hw _ (List.mem_of_getElem? (i := 1) rfl)) (hw _ (List.mem_of_getElem? (i := 2) rfl)) (hw _ (List.mem_of_getElem? (i := 3) rfl)) e0 (g := (mkF m 21 #[.val (.int p1), .val (.int p2), .val (.long q3), .second, .val (.int p4), .val (.int x1), .val (.int x6), .unset, .unset, .unset, .unset, .unset, .unset, .unset, .unset] [])) rfl (hb hby at_21) (by decide) (by decide)
  obtain ⟨b8, g8⟩ : ∃ z, z = h0.size := ⟨_, rfl⟩
  rw [← g8] at A8 D8 st8
  have g_b8 : n0 ≤ b8 := Nat.le_trans Z0 (Nat.le_of_eq g8.symm)
  have sz_b8 : h0.size ≤ b8 := Nat.le_trans (Keep.refl h0 []).1 (Nat.le_of_eq g8.symm)
  have F8_11 : Fld Z h8 b8 "com/example/kinhash/kinhash/BlockTable" "recordBits" "I" (.int (0 : Int32)) := D8 (Or.inl (hw _ (List.mem_of_getElem? (i := 11) rfl))) (ty := .int) (by decide)
  have F8_13 : Fld Z h8 b8 "com/example/kinhash/kinhash/BlockTable" "mask" "J" (.long (0 : Int64)) := D8 (Or.inr (hw _ (List.mem_of_getElem? (i := 13) rfl))) (ty := .long) (by decide)
  have F8_15 : Fld Z h8 b8 "com/example/kinhash/kinhash/BlockTable" "lowestBit" "I" (.int (0 : Int32)) := D8 (Or.inr (hw _ (List.mem_of_getElem? (i := 15) rfl))) (ty := .int) (by decide)
  have F8_17 : Fld Z h8 b8 "com/example/kinhash/kinhash/BlockTable" "width" "I" (.int (0 : Int32)) := D8 (Or.inr (hw _ (List.mem_of_getElem? (i := 17) rfl))) (ty := .int) (by decide)
  have F8_20 : Fld Z h8 b8 "com/example/kinhash/kinhash/BlockTable" "start" "[I" .null := D8 (Or.inl (hw _ (List.mem_of_getElem? (i := 20) rfl))) (ty := (.array .int)) (by decide)
  have F8_22 : Fld Z h8 b8 "com/example/kinhash/kinhash/BlockTable" "length" "[I" .null := D8 (Or.inl (hw _ (List.mem_of_getElem? (i := 22) rfl))) (ty := (.array .int)) (by decide)
  have F8_24 : Fld Z h8 b8 "com/example/kinhash/kinhash/BlockTable" "room" "[I" .null := D8 (Or.inl (hw _ (List.mem_of_getElem? (i := 24) rfl))) (ty := (.array .int)) (by decide)
  have F8_26 : Fld Z h8 b8 "com/example/kinhash/kinhash/BlockTable" "entries" "[I" .null := D8 (Or.inl (hw _ (List.mem_of_getElem? (i := 26) rfl))) (ty := (.array .int)) (by decide)
  have F8_29 : Fld Z h8 b8 "com/example/kinhash/kinhash/BlockTable" "tags" "[B" .null := D8 (Or.inl (hw _ (List.mem_of_getElem? (i := 29) rfl))) (ty := (.array .byte)) (by decide)
  have P9 : Rch p e below (s₁.setTop (entryFrame m #[(.int p1), (.int p2), (.long q3), (.int p4)] maxLocals)) (T8.setTop (mkF m 24 #[.val (.int p1), .val (.int p2), .val (.long q3), .second, .val (.int p4), .val (.int x1), .val (.int x6), .unset, .unset, .unset, .unset, .unset, .unset, .unset, .unset] [(.ref b8)])) := fun t k => P7 t (st8 t k)
  have P10 : Rch p e below (s₁.setTop (entryFrame m #[(.int p1), (.int p2), (.long q3), (.int p4)] maxLocals)) (T8.setTop (mkF m 29 #[.val (.int p1), .val (.int p2), .val (.long q3), .second, .val (.int p4), .val (.int x1), .val (.int x6), .unset, .unset, .unset, .unset, .unset, .unset, .unset, .unset] [(.int x6), (.int x1), (.ref b8), (.ref b8)])) := fun t k => P9 t (by
    show Steps p.tables e below (T8.setTop (mkF m 24 #[.val (.int p1), .val (.int p2), .val (.long q3), .second, .val (.int p4), .val (.int x1), .val (.int x6), .unset, .unset, .unset, .unset, .unset, .unset, .unset, .unset] [(.ref b8)])) t
    refine XS.dup X8.here hx rfl (hb hby at_24) rfl rfl ?_
    show Steps p.tables e below (T8.setTop (mkF m 25 #[.val (.int p1), .val (.int p2), .val (.long q3), .second, .val (.int p4), .val (.int x1), .val (.int x6), .unset, .unset, .unset, .unset, .unset, .unset, .unset, .unset] [(.ref b8), (.ref b8)])) t
    refine XS.iload X8.here hx rfl (hb hby at_25) rfl ?_
    show Steps p.tables e below (T8.setTop (mkF m 27 #[.val (.int p1), .val (.int p2), .val (.long q3), .second, .val (.int p4), .val (.int x1), .val (.int x6), .unset, .unset, .unset, .unset, .unset, .unset, .unset, .unset] [(.int x1), (.ref b8), (.ref b8)])) t
    refine XS.iload X8.here hx rfl (hb hby at_27) rfl ?_
    exact k)
  have f12 : n0 ≤ h8.size := (Nat.le_trans Z0 E8.1)
  obtain ⟨_, _, ⟨T11, L11, k11, n11⟩, -, X11, ⟨Lc11, hQ11, l11, y11, z11⟩, st11⟩ := X8.specialBack hx (y := (⟨"com/example/kinhash/kinhash/BlockTable", "<init>", "(II)V"⟩ : MethodName)) rfl hown (mvT hZ (hw _ (List.mem_of_getElem? (i := 4) rfl))) (mvT hZ (hw _ (List.mem_of_getElem? (i := 5) rfl))) (mvT hZ (hw _ (List.mem_of_getElem? (i := 6) rfl))) (by decide) (backOf (W := 1) (rmI l Z a0 hw [] b8 x1 x6 h8 n0 f12 A8 g_b8 F8_11 F8_13 F8_15 F8_17 F8_20 F8_22 F8_24 F8_26 F8_29) hZ (hw _ (List.mem_of_getElem? (i := 6) rfl)) (hw _ (List.mem_of_getElem? (i := 3) rfl)) (by decide) (by decide)) (g := (mkF m 29 #[.val (.int p1), .val (.int p2), .val (.long q3), .second, .val (.int p4), .val (.int x1), .val (.int x6), .unset, .unset, .unset, .unset, .unset, .unset, .unset, .unset] [(.int x6), (.int x1), (.ref b8), (.ref b8)])) rfl (by rw [hml]; rfl) (Steps.refl _) (a := b8) (argsL := [(.int x1), (.int x6)]) (rest := [(.ref b8)]) (lenOf pd_0 rfl) rfl (by show 2 * 0 + _ ≤ _; exact Nat.le_of_eq rfl) (hb hby at_29) (fun _ _ => ⟨rfl, e8, (by decide : 1 + 5 ≤ _), (by decide : 11 + 11 ≤ _)⟩)
  dsimp only [Pt.U, Pt.locs, Pt.cells, Pt.slots] at X11 l11 y11 z11 st11 hQ11
  subst l11 y11 z11
  obtain ⟨rfl, N11q, K11, E_11, G_11⟩ := hQ11
  have N11 := Fr.app N0 N11q
  have P13 : Rch p e below (s₁.setTop (entryFrame m #[(.int p1), (.int p2), (.long q3), (.int p4)] maxLocals)) (T11.setTop (mkF m 32 #[.val (.int p1), .val (.int p2), .val (.long q3), .second, .val (.int p4), .val (.int x1), .val (.int x6), .unset, .unset, .unset, .unset, .unset, .unset, .unset, .unset] [(.ref b8)])) := fun t k => P10 t (st11.trans k)
  obtain ⟨y14, hy14⟩ : ∃ z : Int64, z = ((1 : Int64) <<< ((p4 &&& (63 : Int32)) &&& 0x3f).toInt64) := ⟨_, rfl⟩
  have P15 : Rch p e below (s₁.setTop (entryFrame m #[(.int p1), (.int p2), (.long q3), (.int p4)] maxLocals)) (T11.setTop (mkF m 43 #[.val (.int p1), .val (.int p2), .val (.long q3), .second, .val (.int p4), .val (.int x1), .val (.int x6), .val (.ref b8), .val (.long y14), .second, .unset, .unset, .unset, .unset, .unset] [])) := fun t k => P13 t (by
    subst hy14
    show Steps p.tables e below (T11.setTop (mkF m 32 #[.val (.int p1), .val (.int p2), .val (.long q3), .second, .val (.int p4), .val (.int x1), .val (.int x6), .unset, .unset, .unset, .unset, .unset, .unset, .unset, .unset] [(.ref b8)])) t
    refine XS.astore X11.here hx rfl (hb hby at_32) rfl rfl (l' := #[.val (.int p1), .val (.int p2), .val (.long q3), .second, .val (.int p4), .val (.int x1), .val (.int x6), .val (.ref b8), .unset, .unset, .unset, .unset, .unset, .unset, .unset]) rfl ?_
    show Steps p.tables e below (T11.setTop (mkF m 34 #[.val (.int p1), .val (.int p2), .val (.long q3), .second, .val (.int p4), .val (.int x1), .val (.int x6), .val (.ref b8), .unset, .unset, .unset, .unset, .unset, .unset, .unset] [])) t
    refine XS.lconst X11.here hx rfl (hb hby at_34) ?_
    show Steps p.tables e below (T11.setTop (mkF m 35 #[.val (.int p1), .val (.int p2), .val (.long q3), .second, .val (.int p4), .val (.int x1), .val (.int x6), .val (.ref b8), .unset, .unset, .unset, .unset, .unset, .unset, .unset] [(.long (1 : Int64))])) t
    refine XS.iload X11.here hx rfl (hb hby at_35) rfl ?_
    show Steps p.tables e below (T11.setTop (mkF m 37 #[.val (.int p1), .val (.int p2), .val (.long q3), .second, .val (.int p4), .val (.int x1), .val (.int x6), .val (.ref b8), .unset, .unset, .unset, .unset, .unset, .unset, .unset] [(.int p4), (.long (1 : Int64))])) t
    refine XS.bipush X11.here hx rfl (hb hby at_37) ?_
    show Steps p.tables e below (T11.setTop (mkF m 39 #[.val (.int p1), .val (.int p2), .val (.long q3), .second, .val (.int p4), .val (.int x1), .val (.int x6), .val (.ref b8), .unset, .unset, .unset, .unset, .unset, .unset, .unset] [(.int (63 : Int32)), (.int p4), (.long (1 : Int64))])) t
    refine XS.iand X11.here hx rfl (hb hby at_39) rfl ?_
    show Steps p.tables e below (T11.setTop (mkF m 40 #[.val (.int p1), .val (.int p2), .val (.long q3), .second, .val (.int p4), .val (.int x1), .val (.int x6), .val (.ref b8), .unset, .unset, .unset, .unset, .unset, .unset, .unset] [(.int (p4 &&& (63 : Int32))), (.long (1 : Int64))])) t
    refine XS.lshl X11.here hx rfl (hb hby at_40) rfl ?_
    show Steps p.tables e below (T11.setTop (mkF m 41 #[.val (.int p1), .val (.int p2), .val (.long q3), .second, .val (.int p4), .val (.int x1), .val (.int x6), .val (.ref b8), .unset, .unset, .unset, .unset, .unset, .unset, .unset] [(.long ((1 : Int64) <<< ((p4 &&& (63 : Int32)) &&& 0x3f).toInt64))])) t
    refine XS.lstore X11.here hx rfl (hb hby at_41) rfl (l' := #[.val (.int p1), .val (.int p2), .val (.long q3), .second, .val (.int p4), .val (.int x1), .val (.int x6), .val (.ref b8), .val (.long ((1 : Int64) <<< ((p4 &&& (63 : Int32)) &&& 0x3f).toInt64)), .second, .unset, .unset, .unset, .unset, .unset]) rfl ?_
    exact k)
  obtain ⟨y16, hy16⟩ : ∃ z : Int64, z = (q3 ^^^ y14) := ⟨_, rfl⟩
  have P17 : Rch p e below (s₁.setTop (entryFrame m #[(.int p1), (.int p2), (.long q3), (.int p4)] maxLocals)) (T11.setTop (mkF m 52 #[.val (.int p1), .val (.int p2), .val (.long q3), .second, .val (.int p4), .val (.int x1), .val (.int x6), .val (.ref b8), .val (.long y14), .second, .val (.long y16), .second, .unset, .unset, .unset] [(.long q3), (.ref b8)])) := fun t k => P15 t (by
    subst hy16
    show Steps p.tables e below (T11.setTop (mkF m 43 #[.val (.int p1), .val (.int p2), .val (.long q3), .second, .val (.int p4), .val (.int x1), .val (.int x6), .val (.ref b8), .val (.long y14), .second, .unset, .unset, .unset, .unset, .unset] [])) t
    refine XS.lloadN X11.here hx rfl (hb hby at_43) rfl ?_
    show Steps p.tables e below (T11.setTop (mkF m 44 #[.val (.int p1), .val (.int p2), .val (.long q3), .second, .val (.int p4), .val (.int x1), .val (.int x6), .val (.ref b8), .val (.long y14), .second, .unset, .unset, .unset, .unset, .unset] [(.long q3)])) t
    refine XS.lload X11.here hx rfl (hb hby at_44) rfl ?_
    show Steps p.tables e below (T11.setTop (mkF m 46 #[.val (.int p1), .val (.int p2), .val (.long q3), .second, .val (.int p4), .val (.int x1), .val (.int x6), .val (.ref b8), .val (.long y14), .second, .unset, .unset, .unset, .unset, .unset] [(.long y14), (.long q3)])) t
    refine XS.lxor X11.here hx rfl (hb hby at_46) rfl ?_
    show Steps p.tables e below (T11.setTop (mkF m 47 #[.val (.int p1), .val (.int p2), .val (.long q3), .second, .val (.int p4), .val (.int x1), .val (.int x6), .val (.ref b8), .val (.long y14), .second, .unset, .unset, .unset, .unset, .unset] [(.long (q3 ^^^ y14))])) t
    refine XS.lstore X11.here hx rfl (hb hby at_47) rfl (l' := #[.val (.int p1), .val (.int p2), .val (.long q3), .second, .val (.int p4), .val (.int x1), .val (.int x6), .val (.ref b8), .val (.long y14), .second, .val (.long (q3 ^^^ y14)), .second, .unset, .unset, .unset]) rfl ?_
    show Steps p.tables e below (T11.setTop (mkF m 49 #[.val (.int p1), .val (.int p2), .val (.long q3), .second, .val (.int p4), .val (.int x1), .val (.int x6), .val (.ref b8), .val (.long y14), .second, .val (.long (q3 ^^^ y14)), .second, .unset, .unset, .unset] [])) t
    refine XS.aload X11.here hx rfl (hb hby at_49) rfl rfl ?_
    show Steps p.tables e below (T11.setTop (mkF m 51 #[.val (.int p1), .val (.int p2), .val (.long q3), .second, .val (.int p4), .val (.int x1), .val (.int x6), .val (.ref b8), .val (.long y14), .second, .val (.long (q3 ^^^ y14)), .second, .unset, .unset, .unset] [(.ref b8)])) t
    refine XS.lloadN X11.here hx rfl (hb hby at_51) rfl ?_
    exact k)
  have f19 : n0 ≤ T11.heap.size := (Nat.le_trans f12 K11.1)
  obtain ⟨cq18, kq18, q18a, q18b, q18c⟩ := isOf hZ rfl E_11
  obtain ⟨_, _, ⟨T18, L18, k18, n18⟩, -, X18, ⟨Lc18, hQ18, l18, y18, z18⟩, st18⟩ := X11.virtualBack hx (y := (⟨"com/example/kinhash/kinhash/BlockTable", "agrees", "(J)Z"⟩ : MethodName)) (z := (⟨"com/example/kinhash/kinhash/BlockTable", "agrees", "(J)Z"⟩ : MethodName)) hown (mvT hZ (hw _ (List.mem_of_getElem? (i := 30) rfl))) (mvT hZ (hw _ (List.mem_of_getElem? (i := 31) rfl))) (notFace_of_selects (args := #[]) (mvT hZ (hw _ (List.mem_of_getElem? (i := 33) rfl)))) (mvT hZ (hw _ (List.mem_of_getElem? (i := 33) rfl))) (mvT hZ (hw _ (List.mem_of_getElem? (i := 32) rfl))) (by decide) (backOf (W := 0) (rmA l Z a0 hw [] b8 q3 (own_mask x1 x6) T11.heap n0 f19 G_11) hZ (hw _ (List.mem_of_getElem? (i := 34) rfl)) (hw _ (List.mem_of_getElem? (i := 3) rfl)) (by decide) (by decide)) q18a q18c (g := (mkF m 52 #[.val (.int p1), .val (.int p2), .val (.long q3), .second, .val (.int p4), .val (.int x1), .val (.int x6), .val (.ref b8), .val (.long y14), .second, .val (.long y16), .second, .unset, .unset, .unset] [(.long q3), (.ref b8)])) rfl (by rw [hml]; rfl) (Steps.refl _) (argsL := [(.long q3)]) (rest := []) (lenOf pd_1 rfl) rfl (by show 2 * 0 + _ ≤ _; exact Nat.le_of_eq rfl) (hb hby at_52) (fun _ _ => ⟨rfl, rfl, (by decide : 6 + 0 ≤ _), (by decide : 22 + 0 ≤ _)⟩)
  dsimp only [Pt.U, Pt.locs, Pt.cells, Pt.slots] at X18 l18 y18 z18 st18 hQ18
  subst l18 y18 z18
  obtain ⟨rfl, N18q, e18⟩ := hQ18
  have N18 := Fr.app N11 N18q
  have P20 : Rch p e below (s₁.setTop (entryFrame m #[(.int p1), (.int p2), (.long q3), (.int p4)] maxLocals)) (T18.setTop (mkF m 55 #[.val (.int p1), .val (.int p2), .val (.long q3), .second, .val (.int p4), .val (.int x1), .val (.int x6), .val (.ref b8), .val (.long y14), .second, .val (.long y16), .second, .unset, .unset, .unset] [(.int (own_agr q3 (own_mask x1 x6)))])) := fun t k => P17 t (st18.trans k)
  obtain ⟨x21, hx21⟩ : ∃ z : Int32, z = (own_agr q3 (own_mask x1 x6)) := ⟨_, rfl⟩
  rw [← hx21] at P20
  have P22 : Rch p e below (s₁.setTop (entryFrame m #[(.int p1), (.int p2), (.long q3), (.int p4)] maxLocals)) (T18.setTop (mkF m 60 #[.val (.int p1), .val (.int p2), .val (.long q3), .second, .val (.int p4), .val (.int x1), .val (.int x6), .val (.ref b8), .val (.long y14), .second, .val (.long y16), .second, .unset, .unset, .unset] [(.int x6), (.int x1), (.long q3), (.int x21)])) := fun t k => P20 t (by
    show Steps p.tables e below (T18.setTop (mkF m 55 #[.val (.int p1), .val (.int p2), .val (.long q3), .second, .val (.int p4), .val (.int x1), .val (.int x6), .val (.ref b8), .val (.long y14), .second, .val (.long y16), .second, .unset, .unset, .unset] [(.int x21)])) t
    refine XS.lloadN X18.here hx rfl (hb hby at_55) rfl ?_
    show Steps p.tables e below (T18.setTop (mkF m 56 #[.val (.int p1), .val (.int p2), .val (.long q3), .second, .val (.int p4), .val (.int x1), .val (.int x6), .val (.ref b8), .val (.long y14), .second, .val (.long y16), .second, .unset, .unset, .unset] [(.long q3), (.int x21)])) t
    refine XS.iload X18.here hx rfl (hb hby at_56) rfl ?_
    show Steps p.tables e below (T18.setTop (mkF m 58 #[.val (.int p1), .val (.int p2), .val (.long q3), .second, .val (.int p4), .val (.int x1), .val (.int x6), .val (.ref b8), .val (.long y14), .second, .val (.long y16), .second, .unset, .unset, .unset] [(.int x1), (.long q3), (.int x21)])) t
    refine XS.iload X18.here hx rfl (hb hby at_58) rfl ?_
    exact k)
  obtain ⟨_, _, ⟨T23, L23, k23, n23⟩, -, X23, ⟨Lc23, hQ23, l23, y23, z23⟩, st23⟩ := Jvm.LawKit.callS X18 hx (y := (⟨"com/example/kinhash/kinhash/BlockTableAgreesPinLaw", "blockBitsZero", "(JII)Z"⟩ : MethodName)) hown (mvT hZ (hw _ (List.mem_of_getElem? (i := 35) rfl))) (mvT hZ (hw _ (List.mem_of_getElem? (i := 36) rfl))) (mvT hZ (hw _ (List.mem_of_getElem? (i := 37) rfl))) (mvT hZ (hw _ (List.mem_of_getElem? (i := 38) rfl))) (by decide) (backOf (W := 1) (rmZ l Z a0 hw [] q3 x1 x6 T11.heap n0 f19 ) hZ (hw _ (List.mem_of_getElem? (i := 38) rfl)) (hw _ (List.mem_of_getElem? (i := 37) rfl)) (by decide) (by decide)) (g := (mkF m 60 #[.val (.int p1), .val (.int p2), .val (.long q3), .second, .val (.int p4), .val (.int x1), .val (.int x6), .val (.ref b8), .val (.long y14), .second, .val (.long y16), .second, .unset, .unset, .unset] [(.int x6), (.int x1), (.long q3), (.int x21)])) rfl (by rw [hml]; rfl) (argsL := [(.long q3), (.int x1), (.int x6)]) (rest := [(.int x21)]) (lenOf pd_2 rfl) rfl (by show 2 * 0 + _ ≤ _; exact Nat.le_of_eq rfl) (hb hby at_60) (fun _ _ => ⟨rfl, e18, (by decide : 6 + 0 ≤ _), (by decide : 22 + 0 ≤ _)⟩)
  dsimp only [Pt.U, Pt.locs, Pt.cells, Pt.slots] at X23 l23 y23 z23 st23 hQ23
  subst l23 y23 z23
  obtain ⟨rfl, N23q, e23⟩ := hQ23
  have N23 := Fr.app N18 N23q
  have P24 : Rch p e below (s₁.setTop (entryFrame m #[(.int p1), (.int p2), (.long q3), (.int p4)] maxLocals)) (T23.setTop (mkF m 63 #[.val (.int p1), .val (.int p2), .val (.long q3), .second, .val (.int p4), .val (.int x1), .val (.int x6), .val (.ref b8), .val (.long y14), .second, .val (.long y16), .second, .unset, .unset, .unset] [(.int (own_bbz q3 x1 x6)), (.int x21)])) := fun t k => P22 t (st23 t k)
  obtain ⟨x25, hx25⟩ : ∃ z : Int32, z = (own_bbz q3 x1 x6) := ⟨_, rfl⟩
  rw [← hx25] at P24
  obtain ⟨v27, hv27, P28⟩ : ∃ (v27 : Int32), v27 = (if x21 = x25 then (1 : Int32) else (0 : Int32)) ∧ Rch p e below (s₁.setTop (entryFrame m #[(.int p1), (.int p2), (.long q3), (.int p4)] maxLocals)) (T23.setTop (mkF m 71 #[.val (.int p1), .val (.int p2), .val (.long q3), .second, .val (.int p4), .val (.int x1), .val (.int x6), .val (.ref b8), .val (.long y14), .second, .val (.long y16), .second, .unset, .unset, .unset] [(.int v27)])) := by
    by_cases c26 : x21 = x25
    · refine ⟨(1 : Int32), (by first | rfl | rw [if_pos c26] | simp only [if_pos c26]), fun t k => P24 t ?_⟩
      show Steps p.tables e below (T23.setTop (mkF m 63 #[.val (.int p1), .val (.int p2), .val (.long q3), .second, .val (.int p4), .val (.int x1), .val (.int x6), .val (.ref b8), .val (.long y14), .second, .val (.long y16), .second, .unset, .unset, .unset] [(.int x25), (.int x21)])) t
      refine XS.icmpNo X23.here hx rfl (hb hby at_63) rfl (teq c26).2 ?_
      show Steps p.tables e below (T23.setTop (mkF m 66 #[.val (.int p1), .val (.int p2), .val (.long q3), .second, .val (.int p4), .val (.int x1), .val (.int x6), .val (.ref b8), .val (.long y14), .second, .val (.long y16), .second, .unset, .unset, .unset] [])) t
      refine XS.iconst X23.here hx rfl (hb hby at_66) ?_
      show Steps p.tables e below (T23.setTop (mkF m 67 #[.val (.int p1), .val (.int p2), .val (.long q3), .second, .val (.int p4), .val (.int x1), .val (.int x6), .val (.ref b8), .val (.long y14), .second, .val (.long y16), .second, .unset, .unset, .unset] [(.int (1 : Int32))])) t
      refine XS.goto X23.here hx rfl (pc0 := 67) (pc' := 71) rfl (hb hby at_67) (by decide) (by decide) ?_
      exact k
    · refine ⟨(0 : Int32), (by first | rfl | rw [if_neg c26] | simp only [if_neg c26]), fun t k => P24 t ?_⟩
      show Steps p.tables e below (T23.setTop (mkF m 63 #[.val (.int p1), .val (.int p2), .val (.long q3), .second, .val (.int p4), .val (.int x1), .val (.int x6), .val (.ref b8), .val (.long y14), .second, .val (.long y16), .second, .unset, .unset, .unset] [(.int x25), (.int x21)])) t
      refine XS.icmpYes X23.here hx rfl (pc0 := 63) (pc' := 70) rfl (hb hby at_63) rfl (feq c26).2 (by decide) (by decide) ?_
      show Steps p.tables e below (T23.setTop (mkF m 70 #[.val (.int p1), .val (.int p2), .val (.long q3), .second, .val (.int p4), .val (.int x1), .val (.int x6), .val (.ref b8), .val (.long y14), .second, .val (.long y16), .second, .unset, .unset, .unset] [])) t
      refine XS.iconst X23.here hx rfl (hb hby at_70) ?_
      exact k
  have P29 : Rch p e below (s₁.setTop (entryFrame m #[(.int p1), (.int p2), (.long q3), (.int p4)] maxLocals)) (T23.setTop (mkF m 77 #[.val (.int p1), .val (.int p2), .val (.long q3), .second, .val (.int p4), .val (.int x1), .val (.int x6), .val (.ref b8), .val (.long y14), .second, .val (.long y16), .second, .val (.int v27), .unset, .unset] [(.long y14), (.ref b8)])) := fun t k => P28 t (by
    show Steps p.tables e below (T23.setTop (mkF m 71 #[.val (.int p1), .val (.int p2), .val (.long q3), .second, .val (.int p4), .val (.int x1), .val (.int x6), .val (.ref b8), .val (.long y14), .second, .val (.long y16), .second, .unset, .unset, .unset] [(.int v27)])) t
    refine XS.istore X23.here hx rfl (hb hby at_71) rfl (l' := #[.val (.int p1), .val (.int p2), .val (.long q3), .second, .val (.int p4), .val (.int x1), .val (.int x6), .val (.ref b8), .val (.long y14), .second, .val (.long y16), .second, .val (.int v27), .unset, .unset]) rfl ?_
    show Steps p.tables e below (T23.setTop (mkF m 73 #[.val (.int p1), .val (.int p2), .val (.long q3), .second, .val (.int p4), .val (.int x1), .val (.int x6), .val (.ref b8), .val (.long y14), .second, .val (.long y16), .second, .val (.int v27), .unset, .unset] [])) t
    refine XS.aload X23.here hx rfl (hb hby at_73) rfl rfl ?_
    show Steps p.tables e below (T23.setTop (mkF m 75 #[.val (.int p1), .val (.int p2), .val (.long q3), .second, .val (.int p4), .val (.int x1), .val (.int x6), .val (.ref b8), .val (.long y14), .second, .val (.long y16), .second, .val (.int v27), .unset, .unset] [(.ref b8)])) t
    refine XS.lload X23.here hx rfl (hb hby at_75) rfl ?_
    exact k)
  obtain ⟨cq30, kq30, q30a, q30b, q30c⟩ := isOf hZ e23 E_11
  obtain ⟨_, _, ⟨T30, L30, k30, n30⟩, -, X30, ⟨Lc30, hQ30, l30, y30, z30⟩, st30⟩ := X23.virtualBack hx (y := (⟨"com/example/kinhash/kinhash/BlockTable", "agrees", "(J)Z"⟩ : MethodName)) (z := (⟨"com/example/kinhash/kinhash/BlockTable", "agrees", "(J)Z"⟩ : MethodName)) hown (mvT hZ (hw _ (List.mem_of_getElem? (i := 30) rfl))) (mvT hZ (hw _ (List.mem_of_getElem? (i := 31) rfl))) (notFace_of_selects (args := #[]) (mvT hZ (hw _ (List.mem_of_getElem? (i := 33) rfl)))) (mvT hZ (hw _ (List.mem_of_getElem? (i := 33) rfl))) (mvT hZ (hw _ (List.mem_of_getElem? (i := 32) rfl))) (by decide) (backOf (W := 0) (rmA l Z a0 hw [] b8 y14 (own_mask x1 x6) T11.heap n0 f19 G_11) hZ (hw _ (List.mem_of_getElem? (i := 34) rfl)) (hw _ (List.mem_of_getElem? (i := 3) rfl)) (by decide) (by decide)) q30a q30c (g := (mkF m 77 #[.val (.int p1), .val (.int p2), .val (.long q3), .second, .val (.int p4), .val (.int x1), .val (.int x6), .val (.ref b8), .val (.long y14), .second, .val (.long y16), .second, .val (.int v27), .unset, .unset] [(.long y14), (.ref b8)])) rfl (by rw [hml]; rfl) (Steps.refl _) (argsL := [(.long y14)]) (rest := []) (lenOf pd_1 rfl) rfl (by show 2 * 0 + _ ≤ _; exact Nat.le_of_eq rfl) (hb hby at_77) (fun _ _ => ⟨rfl, e23, (by decide : 6 + 0 ≤ _), (by decide : 22 + 0 ≤ _)⟩)
  dsimp only [Pt.U, Pt.locs, Pt.cells, Pt.slots] at X30 l30 y30 z30 st30 hQ30
  subst l30 y30 z30
  obtain ⟨rfl, N30q, e30⟩ := hQ30
  have N30 := Fr.app N23 N30q
  have P31 : Rch p e below (s₁.setTop (entryFrame m #[(.int p1), (.int p2), (.long q3), (.int p4)] maxLocals)) (T30.setTop (mkF m 80 #[.val (.int p1), .val (.int p2), .val (.long q3), .second, .val (.int p4), .val (.int x1), .val (.int x6), .val (.ref b8), .val (.long y14), .second, .val (.long y16), .second, .val (.int v27), .unset, .unset] [(.int (own_agr y14 (own_mask x1 x6)))])) := fun t k => P29 t (st30.trans k)
  obtain ⟨x32, hx32⟩ : ∃ z : Int32, z = (own_agr y14 (own_mask x1 x6)) := ⟨_, rfl⟩
  rw [← hx32] at P31
  have P33 : Rch p e below (s₁.setTop (entryFrame m #[(.int p1), (.int p2), (.long q3), (.int p4)] maxLocals)) (T30.setTop (mkF m 86 #[.val (.int p1), .val (.int p2), .val (.long q3), .second, .val (.int p4), .val (.int x1), .val (.int x6), .val (.ref b8), .val (.long y14), .second, .val (.long y16), .second, .val (.int v27), .unset, .unset] [(.int x6), (.int x1), (.long y14), (.int x32)])) := fun t k => P31 t (by
    show Steps p.tables e below (T30.setTop (mkF m 80 #[.val (.int p1), .val (.int p2), .val (.long q3), .second, .val (.int p4), .val (.int x1), .val (.int x6), .val (.ref b8), .val (.long y14), .second, .val (.long y16), .second, .val (.int v27), .unset, .unset] [(.int x32)])) t
    refine XS.lload X30.here hx rfl (hb hby at_80) rfl ?_
    show Steps p.tables e below (T30.setTop (mkF m 82 #[.val (.int p1), .val (.int p2), .val (.long q3), .second, .val (.int p4), .val (.int x1), .val (.int x6), .val (.ref b8), .val (.long y14), .second, .val (.long y16), .second, .val (.int v27), .unset, .unset] [(.long y14), (.int x32)])) t
    refine XS.iload X30.here hx rfl (hb hby at_82) rfl ?_
    show Steps p.tables e below (T30.setTop (mkF m 84 #[.val (.int p1), .val (.int p2), .val (.long q3), .second, .val (.int p4), .val (.int x1), .val (.int x6), .val (.ref b8), .val (.long y14), .second, .val (.long y16), .second, .val (.int v27), .unset, .unset] [(.int x1), (.long y14), (.int x32)])) t
    refine XS.iload X30.here hx rfl (hb hby at_84) rfl ?_
    exact k)
  obtain ⟨_, _, ⟨T34, L34, k34, n34⟩, -, X34, ⟨Lc34, hQ34, l34, y34, z34⟩, st34⟩ := Jvm.LawKit.callS X30 hx (y := (⟨"com/example/kinhash/kinhash/BlockTableAgreesPinLaw", "blockBitsZero", "(JII)Z"⟩ : MethodName)) hown (mvT hZ (hw _ (List.mem_of_getElem? (i := 35) rfl))) (mvT hZ (hw _ (List.mem_of_getElem? (i := 36) rfl))) (mvT hZ (hw _ (List.mem_of_getElem? (i := 37) rfl))) (mvT hZ (hw _ (List.mem_of_getElem? (i := 38) rfl))) (by decide) (backOf (W := 1) (rmZ l Z a0 hw [] y14 x1 x6 T11.heap n0 f19 ) hZ (hw _ (List.mem_of_getElem? (i := 38) rfl)) (hw _ (List.mem_of_getElem? (i := 37) rfl)) (by decide) (by decide)) (g := (mkF m 86 #[.val (.int p1), .val (.int p2), .val (.long q3), .second, .val (.int p4), .val (.int x1), .val (.int x6), .val (.ref b8), .val (.long y14), .second, .val (.long y16), .second, .val (.int v27), .unset, .unset] [(.int x6), (.int x1), (.long y14), (.int x32)])) rfl (by rw [hml]; rfl) (argsL := [(.long y14), (.int x1), (.int x6)]) (rest := [(.int x32)]) (lenOf pd_2 rfl) rfl (by show 2 * 0 + _ ≤ _; exact Nat.le_of_eq rfl) (hb hby at_86) (fun _ _ => ⟨rfl, e30, (by decide : 6 + 0 ≤ _), (by decide : 22 + 0 ≤ _)⟩)
  dsimp only [Pt.U, Pt.locs, Pt.cells, Pt.slots] at X34 l34 y34 z34 st34 hQ34
  subst l34 y34 z34
  obtain ⟨rfl, N34q, e34⟩ := hQ34
  have N34 := Fr.app N30 N34q
  have P35 : Rch p e below (s₁.setTop (entryFrame m #[(.int p1), (.int p2), (.long q3), (.int p4)] maxLocals)) (T34.setTop (mkF m 89 #[.val (.int p1), .val (.int p2), .val (.long q3), .second, .val (.int p4), .val (.int x1), .val (.int x6), .val (.ref b8), .val (.long y14), .second, .val (.long y16), .second, .val (.int v27), .unset, .unset] [(.int (own_bbz y14 x1 x6)), (.int x32)])) := fun t k => P33 t (st34 t k)
  obtain ⟨x36, hx36⟩ : ∃ z : Int32, z = (own_bbz y14 x1 x6) := ⟨_, rfl⟩
  rw [← hx36] at P35
  obtain ⟨v38, hv38, P39⟩ : ∃ (v38 : Int32), v38 = (if x32 = x36 then (1 : Int32) else (0 : Int32)) ∧ Rch p e below (s₁.setTop (entryFrame m #[(.int p1), (.int p2), (.long q3), (.int p4)] maxLocals)) (T34.setTop (mkF m 97 #[.val (.int p1), .val (.int p2), .val (.long q3), .second, .val (.int p4), .val (.int x1), .val (.int x6), .val (.ref b8), .val (.long y14), .second, .val (.long y16), .second, .val (.int v27), .unset, .unset] [(.int v38)])) := by
    by_cases c37 : x32 = x36
    · refine ⟨(1 : Int32), (by first | rfl | rw [if_pos c37] | simp only [if_pos c37]), fun t k => P35 t ?_⟩
      show Steps p.tables e below (T34.setTop (mkF m 89 #[.val (.int p1), .val (.int p2), .val (.long q3), .second, .val (.int p4), .val (.int x1), .val (.int x6), .val (.ref b8), .val (.long y14), .second, .val (.long y16), .second, .val (.int v27), .unset, .unset] [(.int x36), (.int x32)])) t
      refine XS.icmpNo X34.here hx rfl (hb hby at_89) rfl (teq c37).2 ?_
      show Steps p.tables e below (T34.setTop (mkF m 92 #[.val (.int p1), .val (.int p2), .val (.long q3), .second, .val (.int p4), .val (.int x1), .val (.int x6), .val (.ref b8), .val (.long y14), .second, .val (.long y16), .second, .val (.int v27), .unset, .unset] [])) t
      refine XS.iconst X34.here hx rfl (hb hby at_92) ?_
      show Steps p.tables e below (T34.setTop (mkF m 93 #[.val (.int p1), .val (.int p2), .val (.long q3), .second, .val (.int p4), .val (.int x1), .val (.int x6), .val (.ref b8), .val (.long y14), .second, .val (.long y16), .second, .val (.int v27), .unset, .unset] [(.int (1 : Int32))])) t
      refine XS.goto X34.here hx rfl (pc0 := 93) (pc' := 97) rfl (hb hby at_93) (by decide) (by decide) ?_
      exact k
    · refine ⟨(0 : Int32), (by first | rfl | rw [if_neg c37] | simp only [if_neg c37]), fun t k => P35 t ?_⟩
      show Steps p.tables e below (T34.setTop (mkF m 89 #[.val (.int p1), .val (.int p2), .val (.long q3), .second, .val (.int p4), .val (.int x1), .val (.int x6), .val (.ref b8), .val (.long y14), .second, .val (.long y16), .second, .val (.int v27), .unset, .unset] [(.int x36), (.int x32)])) t
      refine XS.icmpYes X34.here hx rfl (pc0 := 89) (pc' := 96) rfl (hb hby at_89) rfl (feq c37).2 (by decide) (by decide) ?_
      show Steps p.tables e below (T34.setTop (mkF m 96 #[.val (.int p1), .val (.int p2), .val (.long q3), .second, .val (.int p4), .val (.int x1), .val (.int x6), .val (.ref b8), .val (.long y14), .second, .val (.long y16), .second, .val (.int v27), .unset, .unset] [])) t
      refine XS.iconst X34.here hx rfl (hb hby at_96) ?_
      exact k
  have P40 : Rch p e below (s₁.setTop (entryFrame m #[(.int p1), (.int p2), (.long q3), (.int p4)] maxLocals)) (T34.setTop (mkF m 103 #[.val (.int p1), .val (.int p2), .val (.long q3), .second, .val (.int p4), .val (.int x1), .val (.int x6), .val (.ref b8), .val (.long y14), .second, .val (.long y16), .second, .val (.int v27), .val (.int v38), .unset] [(.long y16), (.ref b8)])) := fun t k => P39 t (by
    show Steps p.tables e below (T34.setTop (mkF m 97 #[.val (.int p1), .val (.int p2), .val (.long q3), .second, .val (.int p4), .val (.int x1), .val (.int x6), .val (.ref b8), .val (.long y14), .second, .val (.long y16), .second, .val (.int v27), .unset, .unset] [(.int v38)])) t
    refine XS.istore X34.here hx rfl (hb hby at_97) rfl (l' := #[.val (.int p1), .val (.int p2), .val (.long q3), .second, .val (.int p4), .val (.int x1), .val (.int x6), .val (.ref b8), .val (.long y14), .second, .val (.long y16), .second, .val (.int v27), .val (.int v38), .unset]) rfl ?_
    show Steps p.tables e below (T34.setTop (mkF m 99 #[.val (.int p1), .val (.int p2), .val (.long q3), .second, .val (.int p4), .val (.int x1), .val (.int x6), .val (.ref b8), .val (.long y14), .second, .val (.long y16), .second, .val (.int v27), .val (.int v38), .unset] [])) t
    refine XS.aload X34.here hx rfl (hb hby at_99) rfl rfl ?_
    show Steps p.tables e below (T34.setTop (mkF m 101 #[.val (.int p1), .val (.int p2), .val (.long q3), .second, .val (.int p4), .val (.int x1), .val (.int x6), .val (.ref b8), .val (.long y14), .second, .val (.long y16), .second, .val (.int v27), .val (.int v38), .unset] [(.ref b8)])) t
    refine XS.lload X34.here hx rfl (hb hby at_101) rfl ?_
    exact k)
  obtain ⟨cq41, kq41, q41a, q41b, q41c⟩ := isOf hZ e34 E_11
  obtain ⟨_, _, ⟨T41, L41, k41, n41⟩, -, X41, ⟨Lc41, hQ41, l41, y41, z41⟩, st41⟩ := X34.virtualBack hx (y := (⟨"com/example/kinhash/kinhash/BlockTable", "agrees", "(J)Z"⟩ : MethodName)) (z := (⟨"com/example/kinhash/kinhash/BlockTable", "agrees", "(J)Z"⟩ : MethodName)) hown (mvT hZ (hw _ (List.mem_of_getElem? (i := 30) rfl))) (mvT hZ (hw _ (List.mem_of_getElem? (i := 31) rfl))) (notFace_of_selects (args := #[]) (mvT hZ (hw _ (List.mem_of_getElem? (i := 33) rfl)))) (mvT hZ (hw _ (List.mem_of_getElem? (i := 33) rfl))) (mvT hZ (hw _ (List.mem_of_getElem? (i := 32) rfl))) (by decide) (backOf (W := 0) (rmA l Z a0 hw [] b8 y16 (own_mask x1 x6) T11.heap n0 f19 G_11) hZ (hw _ (List.mem_of_getElem? (i := 34) rfl)) (hw _ (List.mem_of_getElem? (i := 3) rfl)) (by decide) (by decide)) q41a q41c (g := (mkF m 103 #[.val (.int p1), .val (.int p2), .val (.long q3), .second, .val (.int p4), .val (.int x1), .val (.int x6), .val (.ref b8), .val (.long y14), .second, .val (.long y16), .second, .val (.int v27), .val (.int v38), .unset] [(.long y16), (.ref b8)])) rfl (by rw [hml]; rfl) (Steps.refl _) (argsL := [(.long y16)]) (rest := []) (lenOf pd_1 rfl) rfl (by show 2 * 0 + _ ≤ _; exact Nat.le_of_eq rfl) (hb hby at_103) (fun _ _ => ⟨rfl, e34, (by decide : 6 + 0 ≤ _), (by decide : 22 + 0 ≤ _)⟩)
  dsimp only [Pt.U, Pt.locs, Pt.cells, Pt.slots] at X41 l41 y41 z41 st41 hQ41
  subst l41 y41 z41
  obtain ⟨rfl, N41q, e41⟩ := hQ41
  have N41 := Fr.app N34 N41q
  have P42 : Rch p e below (s₁.setTop (entryFrame m #[(.int p1), (.int p2), (.long q3), (.int p4)] maxLocals)) (T41.setTop (mkF m 106 #[.val (.int p1), .val (.int p2), .val (.long q3), .second, .val (.int p4), .val (.int x1), .val (.int x6), .val (.ref b8), .val (.long y14), .second, .val (.long y16), .second, .val (.int v27), .val (.int v38), .unset] [(.int (own_agr y16 (own_mask x1 x6)))])) := fun t k => P40 t (st41.trans k)
  obtain ⟨x43, hx43⟩ : ∃ z : Int32, z = (own_agr y16 (own_mask x1 x6)) := ⟨_, rfl⟩
  rw [← hx43] at P42
  have P44 : Rch p e below (s₁.setTop (entryFrame m #[(.int p1), (.int p2), (.long q3), (.int p4)] maxLocals)) (T41.setTop (mkF m 112 #[.val (.int p1), .val (.int p2), .val (.long q3), .second, .val (.int p4), .val (.int x1), .val (.int x6), .val (.ref b8), .val (.long y14), .second, .val (.long y16), .second, .val (.int v27), .val (.int v38), .unset] [(.int x6), (.int x1), (.long y16), (.int x43)])) := fun t k => P42 t (by
    show Steps p.tables e below (T41.setTop (mkF m 106 #[.val (.int p1), .val (.int p2), .val (.long q3), .second, .val (.int p4), .val (.int x1), .val (.int x6), .val (.ref b8), .val (.long y14), .second, .val (.long y16), .second, .val (.int v27), .val (.int v38), .unset] [(.int x43)])) t
    refine XS.lload X41.here hx rfl (hb hby at_106) rfl ?_
    show Steps p.tables e below (T41.setTop (mkF m 108 #[.val (.int p1), .val (.int p2), .val (.long q3), .second, .val (.int p4), .val (.int x1), .val (.int x6), .val (.ref b8), .val (.long y14), .second, .val (.long y16), .second, .val (.int v27), .val (.int v38), .unset] [(.long y16), (.int x43)])) t
    refine XS.iload X41.here hx rfl (hb hby at_108) rfl ?_
    show Steps p.tables e below (T41.setTop (mkF m 110 #[.val (.int p1), .val (.int p2), .val (.long q3), .second, .val (.int p4), .val (.int x1), .val (.int x6), .val (.ref b8), .val (.long y14), .second, .val (.long y16), .second, .val (.int v27), .val (.int v38), .unset] [(.int x1), (.long y16), (.int x43)])) t
    refine XS.iload X41.here hx rfl (hb hby at_110) rfl ?_
    exact k)
  obtain ⟨_, _, ⟨T45, L45, k45, n45⟩, -, X45, ⟨Lc45, hQ45, l45, y45, z45⟩, st45⟩ := Jvm.LawKit.callS X41 hx (y := (⟨"com/example/kinhash/kinhash/BlockTableAgreesPinLaw", "blockBitsZero", "(JII)Z"⟩ : MethodName)) hown (mvT hZ (hw _ (List.mem_of_getElem? (i := 35) rfl))) (mvT hZ (hw _ (List.mem_of_getElem? (i := 36) rfl))) (mvT hZ (hw _ (List.mem_of_getElem? (i := 37) rfl))) (mvT hZ (hw _ (List.mem_of_getElem? (i := 38) rfl))) (by decide) (backOf (W := 1) (rmZ l Z a0 hw [] y16 x1 x6 T11.heap n0 f19 ) hZ (hw _ (List.mem_of_getElem? (i := 38) rfl)) (hw _ (List.mem_of_getElem? (i := 37) rfl)) (by decide) (by decide)) (g := (mkF m 112 #[.val (.int p1), .val (.int p2), .val (.long q3), .second, .val (.int p4), .val (.int x1), .val (.int x6), .val (.ref b8), .val (.long y14), .second, .val (.long y16), .second, .val (.int v27), .val (.int v38), .unset] [(.int x6), (.int x1), (.long y16), (.int x43)])) rfl (by rw [hml]; rfl) (argsL := [(.long y16), (.int x1), (.int x6)]) (rest := [(.int x43)]) (lenOf pd_2 rfl) rfl (by show 2 * 0 + _ ≤ _; exact Nat.le_of_eq rfl) (hb hby at_112) (fun _ _ => ⟨rfl, e41, (by decide : 6 + 0 ≤ _), (by decide : 22 + 0 ≤ _)⟩)
  dsimp only [Pt.U, Pt.locs, Pt.cells, Pt.slots] at X45 l45 y45 z45 st45 hQ45
  subst l45 y45 z45
  obtain ⟨rfl, N45q, e45⟩ := hQ45
  have N45 := Fr.app N41 N45q
  have P46 : Rch p e below (s₁.setTop (entryFrame m #[(.int p1), (.int p2), (.long q3), (.int p4)] maxLocals)) (T45.setTop (mkF m 115 #[.val (.int p1), .val (.int p2), .val (.long q3), .second, .val (.int p4), .val (.int x1), .val (.int x6), .val (.ref b8), .val (.long y14), .second, .val (.long y16), .second, .val (.int v27), .val (.int v38), .unset] [(.int (own_bbz y16 x1 x6)), (.int x43)])) := fun t k => P44 t (st45 t k)
  obtain ⟨x47, hx47⟩ : ∃ z : Int32, z = (own_bbz y16 x1 x6) := ⟨_, rfl⟩
  rw [← hx47] at P46
  obtain ⟨v49, hv49, P50⟩ : ∃ (v49 : Int32), v49 = (if x43 = x47 then (1 : Int32) else (0 : Int32)) ∧ Rch p e below (s₁.setTop (entryFrame m #[(.int p1), (.int p2), (.long q3), (.int p4)] maxLocals)) (T45.setTop (mkF m 123 #[.val (.int p1), .val (.int p2), .val (.long q3), .second, .val (.int p4), .val (.int x1), .val (.int x6), .val (.ref b8), .val (.long y14), .second, .val (.long y16), .second, .val (.int v27), .val (.int v38), .unset] [(.int v49)])) := by
    by_cases c48 : x43 = x47
    · refine ⟨(1 : Int32), (by first | rfl | rw [if_pos c48] | simp only [if_pos c48]), fun t k => P46 t ?_⟩
      show Steps p.tables e below (T45.setTop (mkF m 115 #[.val (.int p1), .val (.int p2), .val (.long q3), .second, .val (.int p4), .val (.int x1), .val (.int x6), .val (.ref b8), .val (.long y14), .second, .val (.long y16), .second, .val (.int v27), .val (.int v38), .unset] [(.int x47), (.int x43)])) t
      refine XS.icmpNo X45.here hx rfl (hb hby at_115) rfl (teq c48).2 ?_
      show Steps p.tables e below (T45.setTop (mkF m 118 #[.val (.int p1), .val (.int p2), .val (.long q3), .second, .val (.int p4), .val (.int x1), .val (.int x6), .val (.ref b8), .val (.long y14), .second, .val (.long y16), .second, .val (.int v27), .val (.int v38), .unset] [])) t
      refine XS.iconst X45.here hx rfl (hb hby at_118) ?_
      show Steps p.tables e below (T45.setTop (mkF m 119 #[.val (.int p1), .val (.int p2), .val (.long q3), .second, .val (.int p4), .val (.int x1), .val (.int x6), .val (.ref b8), .val (.long y14), .second, .val (.long y16), .second, .val (.int v27), .val (.int v38), .unset] [(.int (1 : Int32))])) t
      refine XS.goto X45.here hx rfl (pc0 := 119) (pc' := 123) rfl (hb hby at_119) (by decide) (by decide) ?_
      exact k
    · refine ⟨(0 : Int32), (by first | rfl | rw [if_neg c48] | simp only [if_neg c48]), fun t k => P46 t ?_⟩
      show Steps p.tables e below (T45.setTop (mkF m 115 #[.val (.int p1), .val (.int p2), .val (.long q3), .second, .val (.int p4), .val (.int x1), .val (.int x6), .val (.ref b8), .val (.long y14), .second, .val (.long y16), .second, .val (.int v27), .val (.int v38), .unset] [(.int x47), (.int x43)])) t
      refine XS.icmpYes X45.here hx rfl (pc0 := 115) (pc' := 122) rfl (hb hby at_115) rfl (feq c48).2 (by decide) (by decide) ?_
      show Steps p.tables e below (T45.setTop (mkF m 122 #[.val (.int p1), .val (.int p2), .val (.long q3), .second, .val (.int p4), .val (.int x1), .val (.int x6), .val (.ref b8), .val (.long y14), .second, .val (.long y16), .second, .val (.int v27), .val (.int v38), .unset] [])) t
      refine XS.iconst X45.here hx rfl (hb hby at_122) ?_
      exact k
  have P51 : Rch p e below (s₁.setTop (entryFrame m #[(.int p1), (.int p2), (.long q3), (.int p4)] maxLocals)) (T45.setTop (mkF m 127 #[.val (.int p1), .val (.int p2), .val (.long q3), .second, .val (.int p4), .val (.int x1), .val (.int x6), .val (.ref b8), .val (.long y14), .second, .val (.long y16), .second, .val (.int v27), .val (.int v38), .val (.int v49)] [(.int v27)])) := fun t k => P50 t (by
    show Steps p.tables e below (T45.setTop (mkF m 123 #[.val (.int p1), .val (.int p2), .val (.long q3), .second, .val (.int p4), .val (.int x1), .val (.int x6), .val (.ref b8), .val (.long y14), .second, .val (.long y16), .second, .val (.int v27), .val (.int v38), .unset] [(.int v49)])) t
    refine XS.istore X45.here hx rfl (hb hby at_123) rfl (l' := #[.val (.int p1), .val (.int p2), .val (.long q3), .second, .val (.int p4), .val (.int x1), .val (.int x6), .val (.ref b8), .val (.long y14), .second, .val (.long y16), .second, .val (.int v27), .val (.int v38), .val (.int v49)]) rfl ?_
    show Steps p.tables e below (T45.setTop (mkF m 125 #[.val (.int p1), .val (.int p2), .val (.long q3), .second, .val (.int p4), .val (.int x1), .val (.int x6), .val (.ref b8), .val (.long y14), .second, .val (.long y16), .second, .val (.int v27), .val (.int v38), .val (.int v49)] [])) t
    refine XS.iload X45.here hx rfl (hb hby at_125) rfl ?_
    exact k)
  obtain ⟨v55, hv55, P56⟩ : ∃ (v55 : Int32), v55 = (if v27 = (0 : Int32) then (0 : Int32) else (if v38 = (0 : Int32) then (0 : Int32) else (if v49 = (0 : Int32) then (0 : Int32) else (1 : Int32)))) ∧ Rch p e below (s₁.setTop (entryFrame m #[(.int p1), (.int p2), (.long q3), (.int p4)] maxLocals)) (T45.setTop (mkF m 145 #[.val (.int p1), .val (.int p2), .val (.long q3), .second, .val (.int p4), .val (.int x1), .val (.int x6), .val (.ref b8), .val (.long y14), .second, .val (.long y16), .second, .val (.int v27), .val (.int v38), .val (.int v49)] [(.int v55)])) := by
    by_cases c52 : v27 = (0 : Int32)
    · refine ⟨(0 : Int32), (by first | rfl | rw [if_pos c52] | simp only [if_pos c52]), fun t k => P51 t ?_⟩
      show Steps p.tables e below (T45.setTop (mkF m 127 #[.val (.int p1), .val (.int p2), .val (.long q3), .second, .val (.int p4), .val (.int x1), .val (.int x6), .val (.ref b8), .val (.long y14), .second, .val (.long y16), .second, .val (.int v27), .val (.int v38), .val (.int v49)] [(.int v27)])) t
      refine XS.ifYes X45.here hx rfl (pc0 := 127) (pc' := 144) rfl (hb hby at_127) rfl ((if0 _ _).trans (teq c52).1) (by decide) (by decide) ?_
      show Steps p.tables e below (T45.setTop (mkF m 144 #[.val (.int p1), .val (.int p2), .val (.long q3), .second, .val (.int p4), .val (.int x1), .val (.int x6), .val (.ref b8), .val (.long y14), .second, .val (.long y16), .second, .val (.int v27), .val (.int v38), .val (.int v49)] [])) t
      refine XS.iconst X45.here hx rfl (hb hby at_144) ?_
      exact k
    · by_cases c53 : v38 = (0 : Int32)
      · refine ⟨(0 : Int32), (by first | rfl | rw [if_neg c52, if_pos c53] | simp only [if_neg c52, if_pos c53]), fun t k => P51 t ?_⟩
        show Steps p.tables e below (T45.setTop (mkF m 127 #[.val (.int p1), .val (.int p2), .val (.long q3), .second, .val (.int p4), .val (.int x1), .val (.int x6), .val (.ref b8), .val (.long y14), .second, .val (.long y16), .second, .val (.int v27), .val (.int v38), .val (.int v49)] [(.int v27)])) t
        refine XS.ifNo X45.here hx rfl (hb hby at_127) rfl ((if0 _ _).trans (feq c52).1) ?_
        show Steps p.tables e below (T45.setTop (mkF m 130 #[.val (.int p1), .val (.int p2), .val (.long q3), .second, .val (.int p4), .val (.int x1), .val (.int x6), .val (.ref b8), .val (.long y14), .second, .val (.long y16), .second, .val (.int v27), .val (.int v38), .val (.int v49)] [])) t
        refine XS.iload X45.here hx rfl (hb hby at_130) rfl ?_
        show Steps p.tables e below (T45.setTop (mkF m 132 #[.val (.int p1), .val (.int p2), .val (.long q3), .second, .val (.int p4), .val (.int x1), .val (.int x6), .val (.ref b8), .val (.long y14), .second, .val (.long y16), .second, .val (.int v27), .val (.int v38), .val (.int v49)] [(.int v38)])) t
        refine XS.ifYes X45.here hx rfl (pc0 := 132) (pc' := 144) rfl (hb hby at_132) rfl ((if0 _ _).trans (teq c53).1) (by decide) (by decide) ?_
        show Steps p.tables e below (T45.setTop (mkF m 144 #[.val (.int p1), .val (.int p2), .val (.long q3), .second, .val (.int p4), .val (.int x1), .val (.int x6), .val (.ref b8), .val (.long y14), .second, .val (.long y16), .second, .val (.int v27), .val (.int v38), .val (.int v49)] [])) t
        refine XS.iconst X45.here hx rfl (hb hby at_144) ?_
        exact k
      · by_cases c54 : v49 = (0 : Int32)
        · refine ⟨(0 : Int32), (by first | rfl | rw [if_neg c52, if_neg c53, if_pos c54] | simp only [if_neg c52, if_neg c53, if_pos c54]), fun t k => P51 t ?_⟩
          show Steps p.tables e below (T45.setTop (mkF m 127 #[.val (.int p1), .val (.int p2), .val (.long q3), .second, .val (.int p4), .val (.int x1), .val (.int x6), .val (.ref b8), .val (.long y14), .second, .val (.long y16), .second, .val (.int v27), .val (.int v38), .val (.int v49)] [(.int v27)])) t
          refine XS.ifNo X45.here hx rfl (hb hby at_127) rfl ((if0 _ _).trans (feq c52).1) ?_
          show Steps p.tables e below (T45.setTop (mkF m 130 #[.val (.int p1), .val (.int p2), .val (.long q3), .second, .val (.int p4), .val (.int x1), .val (.int x6), .val (.ref b8), .val (.long y14), .second, .val (.long y16), .second, .val (.int v27), .val (.int v38), .val (.int v49)] [])) t
          refine XS.iload X45.here hx rfl (hb hby at_130) rfl ?_
          show Steps p.tables e below (T45.setTop (mkF m 132 #[.val (.int p1), .val (.int p2), .val (.long q3), .second, .val (.int p4), .val (.int x1), .val (.int x6), .val (.ref b8), .val (.long y14), .second, .val (.long y16), .second, .val (.int v27), .val (.int v38), .val (.int v49)] [(.int v38)])) t
          refine XS.ifNo X45.here hx rfl (hb hby at_132) rfl ((if0 _ _).trans (feq c53).1) ?_
          show Steps p.tables e below (T45.setTop (mkF m 135 #[.val (.int p1), .val (.int p2), .val (.long q3), .second, .val (.int p4), .val (.int x1), .val (.int x6), .val (.ref b8), .val (.long y14), .second, .val (.long y16), .second, .val (.int v27), .val (.int v38), .val (.int v49)] [])) t
          refine XS.iload X45.here hx rfl (hb hby at_135) rfl ?_
          show Steps p.tables e below (T45.setTop (mkF m 137 #[.val (.int p1), .val (.int p2), .val (.long q3), .second, .val (.int p4), .val (.int x1), .val (.int x6), .val (.ref b8), .val (.long y14), .second, .val (.long y16), .second, .val (.int v27), .val (.int v38), .val (.int v49)] [(.int v49)])) t
          refine XS.ifYes X45.here hx rfl (pc0 := 137) (pc' := 144) rfl (hb hby at_137) rfl ((if0 _ _).trans (teq c54).1) (by decide) (by decide) ?_
          show Steps p.tables e below (T45.setTop (mkF m 144 #[.val (.int p1), .val (.int p2), .val (.long q3), .second, .val (.int p4), .val (.int x1), .val (.int x6), .val (.ref b8), .val (.long y14), .second, .val (.long y16), .second, .val (.int v27), .val (.int v38), .val (.int v49)] [])) t
          refine XS.iconst X45.here hx rfl (hb hby at_144) ?_
          exact k
        · refine ⟨(1 : Int32), (by first | rfl | rw [if_neg c52, if_neg c53, if_neg c54] | simp only [if_neg c52, if_neg c53, if_neg c54]), fun t k => P51 t ?_⟩
          show Steps p.tables e below (T45.setTop (mkF m 127 #[.val (.int p1), .val (.int p2), .val (.long q3), .second, .val (.int p4), .val (.int x1), .val (.int x6), .val (.ref b8), .val (.long y14), .second, .val (.long y16), .second, .val (.int v27), .val (.int v38), .val (.int v49)] [(.int v27)])) t
          refine XS.ifNo X45.here hx rfl (hb hby at_127) rfl ((if0 _ _).trans (feq c52).1) ?_
          show Steps p.tables e below (T45.setTop (mkF m 130 #[.val (.int p1), .val (.int p2), .val (.long q3), .second, .val (.int p4), .val (.int x1), .val (.int x6), .val (.ref b8), .val (.long y14), .second, .val (.long y16), .second, .val (.int v27), .val (.int v38), .val (.int v49)] [])) t
          refine XS.iload X45.here hx rfl (hb hby at_130) rfl ?_
          show Steps p.tables e below (T45.setTop (mkF m 132 #[.val (.int p1), .val (.int p2), .val (.long q3), .second, .val (.int p4), .val (.int x1), .val (.int x6), .val (.ref b8), .val (.long y14), .second, .val (.long y16), .second, .val (.int v27), .val (.int v38), .val (.int v49)] [(.int v38)])) t
          refine XS.ifNo X45.here hx rfl (hb hby at_132) rfl ((if0 _ _).trans (feq c53).1) ?_
          show Steps p.tables e below (T45.setTop (mkF m 135 #[.val (.int p1), .val (.int p2), .val (.long q3), .second, .val (.int p4), .val (.int x1), .val (.int x6), .val (.ref b8), .val (.long y14), .second, .val (.long y16), .second, .val (.int v27), .val (.int v38), .val (.int v49)] [])) t
          refine XS.iload X45.here hx rfl (hb hby at_135) rfl ?_
          show Steps p.tables e below (T45.setTop (mkF m 137 #[.val (.int p1), .val (.int p2), .val (.long q3), .second, .val (.int p4), .val (.int x1), .val (.int x6), .val (.ref b8), .val (.long y14), .second, .val (.long y16), .second, .val (.int v27), .val (.int v38), .val (.int v49)] [(.int v49)])) t
          refine XS.ifNo X45.here hx rfl (hb hby at_137) rfl ((if0 _ _).trans (feq c54).1) ?_
          show Steps p.tables e below (T45.setTop (mkF m 140 #[.val (.int p1), .val (.int p2), .val (.long q3), .second, .val (.int p4), .val (.int x1), .val (.int x6), .val (.ref b8), .val (.long y14), .second, .val (.long y16), .second, .val (.int v27), .val (.int v38), .val (.int v49)] [])) t
          refine XS.iconst X45.here hx rfl (hb hby at_140) ?_
          show Steps p.tables e below (T45.setTop (mkF m 141 #[.val (.int p1), .val (.int p2), .val (.long q3), .second, .val (.int p4), .val (.int x1), .val (.int x6), .val (.ref b8), .val (.long y14), .second, .val (.long y16), .second, .val (.int v27), .val (.int v38), .val (.int v49)] [(.int (1 : Int32))])) t
          refine XS.goto X45.here hx rfl (pc0 := 141) (pc' := 145) rfl (hb hby at_141) (by decide) (by decide) ?_
          exact k
  have hcore := own_core x1 x6 hlb.1 hlb.2 hwd.1 hwd.2
  have hfin : v55 = (1 : Int32) := by
    subst hv55 hv49 hx47 hx43 hv38 hx36 hx32 hv27 hx25 hx21 hy16 hy14
    simp [hcore]
  have P57 : Rch p e below (s₁.setTop (entryFrame m #[(.int p1), (.int p2), (.long q3), (.int p4)] maxLocals)) (T45.setTop (mkF m 145 #[.val (.int p1), .val (.int p2), .val (.long q3), .second, .val (.int p4), .val (.int x1), .val (.int x6), .val (.ref b8), .val (.long y14), .second, .val (.long y16), .second, .val (.int v27), .val (.int v38), .val (.int v49)] [(.int (1 : Int32))])) := by have q_ := P56; rw [hfin] at q_; exact q_
  obtain ⟨fs, hr, hrun, hended, hW, hsame⟩ := X45.leave (v := some (.int (1 : Int32))) (fun h => by rw [Bd.returns] at h; cases h)
  refine ⟨_, _, P57 _ ?_, hrun, hended, _, _, rfl, ?_, ⟨_, rfl⟩, hW, hsame.mono (by decide) (by decide)⟩
  · exact retN X45 hx (t := .boolean) Bd.returns (by simp) (hb hby at_145) hr
  · show Q_rm0 Z p1 p2 q3 p4 h0 n0 _ T45.heap _
    rw [e45]
    exact ⟨rfl, N45⟩
set_option maxRecDepth 65536 in
set_option maxHeartbeats 40000000 in
theorem comes_1 {Post : Tables → Env → Array Value → State → Outcome → State → Prop} (hpost : ∀ tb e args s v u, (limb_1_1.after args s (.returned v) u = true ∧ limb_1_2.after args s (.returned v) u = true ∧ True) → FrameEnd s (.returned v) u (Jvm.fieldLocs frame_1_writes args s ++ Jvm.arrayLocs frame_1_arrays args s ++ Jvm.staticLocs frame_1_statics s) 24 128 → Post tb e args s (.returned v) u) :
    ArmFor flags0 classFile x code maxLocals ret World_1 tables_1 room_1 Calls_1 rest_1 Pre_1 Post := by
  intro l hfl _ _ p e ha hc hk s m args below hf hA hF happ hP
  obtain ⟨hcalls, hrest, hpre⟩ := hP
  obtain ⟨-, -, -, hnamed, -, -, -, hat⟩ := (Spec.applies_iff hf).mp happ
  obtain ⟨hg, hn⟩ := and_e (Cond.before_iff.mp (show (Jvm.Cond.and given_1 narrow_1).before args s = true from hpre))
  obtain ⟨gc, gr0⟩ := and_e hg
  obtain ⟨ga0, gr1⟩ := and_e gr0
  obtain ⟨ga1, gr2⟩ := and_e gr1
  obtain ⟨ga2, gr3⟩ := and_e gr2
  obtain ⟨w0, w1, w2, w3, rfl⟩ : ∃ w0 w1 w2 w3 : Value, args = #[w0, w1, w2, w3] := by
    have hs : args.size = 4 := by simpa [Cond.value, given_1] using gc
    obtain ⟨L⟩ := args
    match L, hs with
    | [w0, w1, w2, w3], _ => exact ⟨w0, w1, w2, w3, rfl⟩
  have hw := fun d (hd : d ∈ tables_1) => atoms_spec (ws := Jvm.Cond.code x code maxLocals ret :: tables_1) hat d (List.mem_cons_of_mem _ hd)
  have hfit : Fit s := fun {y c} hc i hi => by
    obtain ⟨ha, rfl⟩ := Array.getElem?_eq_some_iff.mp hc
    have q := List.all_eq_true.mp ((Array.all_eq_true_iff_forall_mem.mp hF) _ (Array.getElem_mem ha)) i (List.mem_range.mpr hi)
    simpa [Array.getElem?_eq_getElem hi] using q
  obtain ⟨i0, ei0⟩ := is_v ga0
  obtain rfl : w0 = (.int i0) := Option.some.inj ei0
  obtain ⟨i1, ei1⟩ := is_v ga1
  obtain rfl : w1 = (.int i1) := Option.some.inj ei1
  obtain ⟨i2, ei2⟩ := isL_v ga2
  obtain rfl : w2 = (.long i2) := Option.some.inj ei2
  obtain ⟨i3, ei3⟩ := is_v gr3
  obtain rfl : w3 = (.int i3) := Option.some.inj ei3
  obtain ⟨n, o, h1, h2, h3, _, L, rfl, ⟨rfl, N⟩, hq⟩ := rm0 l s _ hw tables_1 i0 i1 i2 i3 s.heap s.heap.size (Nat.le_refl _)  p e ha hc hk s m _ below hf ((Spec.applies_iff_loose hf).mp happ).1 ⟨rfl, State.Warmed39.refl s, rfl⟩ trivial
  refine ⟨n, _, h1, h2, h3, hpost _ _ _ _ _ _ ⟨Cond.after_iff.mpr rfl, Cond.after_iff.mpr (eq_i res_at (Term.int_eval (1)) rfl), trivial⟩ ⟨hq.1, hq.2.1, (hq.2.2.sift fun y hy => Or.inr (N y hy)).mono (by decide) (by decide)⟩⟩
theorem main_1_1 : Claimed_1_1 := comes_1 fun _ _ _ _ _ _ h hF => ⟨h.1, hF⟩
theorem main_1_2 : Claimed_1_2 := comes_1 fun _ _ _ _ _ _ h hF => ⟨h.2.1, hF⟩
end Jvm.Pilot.@@N@@
namespace Jvm.Pilot.@@N@@
open Jvm Jvm.ClassFile Sem Op Lib Jvm.Free Jvm.Stand Jvm.Pilot.@@N@@.Jvm.D
/-! MADE BY PROGRAM (witnessworld.py) out of the Statement's table words and the real class files: 9 classes; the members and pool entries that the words name. The judged class is class 1, her method 2. -/
namespace start1
open Jvm.ClassFile
def u (s : String) : CpInfo := .utf8 (stringToUtf16 s)
/-- a pool by its gaps: so many unusable entries, then the entry; so many at the end -/
def gap : Nat → List CpInfo → List CpInfo
  | 0, r => r
  | n + 1, r => .unusable :: gap n r
def poolList (es : List (Nat × CpInfo)) (last : Nat) : List CpInfo := es.foldr (fun e r => gap e.1 (e.2 :: r)) (gap last [])
def pool (es : List (Nat × CpInfo)) (last : Nat) : Array CpInfo := ⟨poolList es last⟩
def fileOf (pool : Array CpInfo) (this : Nat) (attrs : Array Attribute := #[]) (ms : Array MethodInfo := #[]) (fl : Nat := 33) (sup : Nat := 0) (ifs : Array Nat := #[]) (fds : Array FieldInfo := #[]) : ClassFile where
  minorVersion := 0
  majorVersion := 65
  constantPool := pool
  accessFlags := fl
  thisClass := this
  superClass := sup
  interfaces := ifs
  fields := fds
  methods := ms
  attributes := attrs
def plain (name : String) (sup : Option ClassId) : Class where
  name := name
  kind := .ordinary
  loader := none
  accessFlags := 33
  super := sup
  interfaces := #[]
  cf := none
  fields := #[]
  methods := #[]
  instanceTypes := #[]
  staticTypes := #[]
  resolved := #[]
  callSites := []
  init := .initialized
  statics := none
  mirror := none

def pool0 : Array CpInfo := pool [(5, u "<init>"), (0, u "()V"), (1, .class_ 10), (1, u "java/lang/Object")] 113

def k0c0 : Code := { maxStack := 0, maxLocals := 1, code := object_method_1_code, exceptionTable := #[], attributes := #[] }
def k0m0 : Method := { name := "<init>", desc := "()V", sig := { parameters := [], returnType := none }, accessFlags := 1, code := some k0c0 }
/-- java/lang/Object -/
def k0 : Class := { plain "java/lang/Object" none with
  accessFlags := 33
  interfaces := #[]
  cf := some (fileOf pool0 8 #[] #[{ accessFlags := 1, nameIndex := 5, descriptorIndex := 6, attributes := #[] }] 33 0 #[] #[])
  fields := #[]
  methods := #[k0m0]
  instanceTypes := #[]
  staticTypes := #[]
  resolved := Array.replicate 124 none
  statics := none }

def pool1 : Array CpInfo := pool [(2, .class_ 4), (1, u "java/lang/Object"), (0, u "<init>"), (0, u "()V"), (0, .integer 2147483647), (0, .class_ 9), (0, u "com/example/kinhash/kinhash/BlockTable"), (0, .methodref 8 11), (0, .nameAndType 5 12), (0, u "(II)V"), (0, .methodref 8 14), (0, .nameAndType 15 16), (0, u "agrees"), (0, u "(J)Z"), (0, .methodref 18 19), (0, .class_ 20), (0, .nameAndType 21 22), (0, u "com/example/kinhash/kinhash/BlockTableAgreesPinLaw"), (0, u "blockBitsZero"), (0, u "(JII)Z"), (3, u "law"), (0, u "(IIJI)Z")] 2

def k1m0 : Method := { name := "<init>", desc := "()V", sig := { parameters := [], returnType := none }, accessFlags := 1, code := none }
def k1c1 : Code := { maxStack := 4, maxLocals := 7, code := method_2_code, exceptionTable := #[], attributes := #[] }
def k1m1 : Method := { name := "blockBitsZero", desc := "(JII)Z", sig := { parameters := [.long, .int, .int], returnType := some .boolean }, accessFlags := 10, code := some k1c1 }
def k1c2 : Code := { maxStack := 5, maxLocals := 15, code := code, exceptionTable := #[], attributes := #[] }
def k1m2 : Method := { name := "law", desc := "(IIJI)Z", sig := { parameters := [.int, .int, .long, .int], returnType := some .boolean }, accessFlags := 9, code := some k1c2 }
/-- com/example/kinhash/kinhash/BlockTableAgreesPinLaw -/
def k1 : Class := { plain "com/example/kinhash/kinhash/BlockTableAgreesPinLaw" (some 0) with
  accessFlags := 49
  interfaces := #[]
  cf := some (fileOf pool1 18 #[] #[{ accessFlags := 1, nameIndex := 5, descriptorIndex := 6, attributes := #[] }, { accessFlags := 10, nameIndex := 21, descriptorIndex := 22, attributes := #[] }, { accessFlags := 9, nameIndex := 26, descriptorIndex := 27, attributes := #[] }] 49 2 #[] #[])
  fields := #[]
  methods := #[k1m0, k1m1, k1m2]
  instanceTypes := #[]
  staticTypes := #[]
  resolved := Array.replicate 30 none
  statics := none }

def pool2 : Array CpInfo := pool [(1, .methodref 2 3), (0, .class_ 4), (0, .nameAndType 5 6), (0, u "java/lang/Object"), (0, u "<init>"), (0, u "()V"), (0, .class_ 8), (0, u "com/example/kinhash/kinhash/BlockTable"), (0, .fieldref 7 10), (0, .nameAndType 11 12), (0, u "recordBits"), (0, u "I"), (2, .long 18446744073709551615), (1, .fieldref 7 18), (0, .nameAndType 19 20), (0, u "mask"), (0, u "J"), (0, .fieldref 7 22), (0, .nameAndType 23 12), (0, u "lowestBit"), (0, .fieldref 7 25), (0, .nameAndType 26 12), (0, u "width"), (0, .fieldref 7 28), (0, .nameAndType 29 30), (0, u "start"), (0, u "[I"), (0, .fieldref 7 32), (0, .nameAndType 33 30), (0, u "length"), (0, .fieldref 7 35), (0, .nameAndType 36 30), (0, u "room"), (0, .fieldref 7 38), (0, .nameAndType 39 30), (0, u "entries"), (0, .fieldref 7 41), (0, .nameAndType 42 43), (0, u "tags"), (0, u "[B"), (2, u "bucketBits"), (62, u "free"), (30, u "MAX_BUCKET_BITS"), (2, u "RECORDS_PER_BUCKET_BITS"), (1, u "SLACK_BITS"), (1, u "MIN_ROOM"), (0, u "MIN_RECORD_BITS"), (1, u "(II)V"), (3, u "agrees"), (0, u "(J)Z")] 23

def k2c0 : Code := { maxStack := 5, maxLocals := 3, code := prog_4_method_1_code, exceptionTable := #[], attributes := #[] }
def k2m0 : Method := { name := "<init>", desc := "(II)V", sig := { parameters := [.int, .int], returnType := none }, accessFlags := 0, code := some k2c0 }
def k2c1 : Code := { maxStack := 4, maxLocals := 3, code := prog_4_method_2_code, exceptionTable := #[], attributes := #[] }
def k2m1 : Method := { name := "agrees", desc := "(J)Z", sig := { parameters := [.long], returnType := some .boolean }, accessFlags := 0, code := some k2c1 }
/-- com/example/kinhash/kinhash/BlockTable -/
def k2 : Class := { plain "com/example/kinhash/kinhash/BlockTable" (some 0) with
  accessFlags := 48
  interfaces := #[]
  cf := some (fileOf pool2 7 #[] #[{ accessFlags := 0, nameIndex := 5, descriptorIndex := 150, attributes := #[] }, { accessFlags := 0, nameIndex := 154, descriptorIndex := 155, attributes := #[] }] 48 2 #[] #[{ accessFlags := 26, nameIndex := 140, descriptorIndex := 12, attributes := #[] }, { accessFlags := 26, nameIndex := 143, descriptorIndex := 12, attributes := #[] }, { accessFlags := 26, nameIndex := 145, descriptorIndex := 12, attributes := #[] }, { accessFlags := 26, nameIndex := 147, descriptorIndex := 12, attributes := #[] }, { accessFlags := 26, nameIndex := 148, descriptorIndex := 12, attributes := #[] }, { accessFlags := 18, nameIndex := 19, descriptorIndex := 20, attributes := #[] }, { accessFlags := 18, nameIndex := 23, descriptorIndex := 12, attributes := #[] }, { accessFlags := 18, nameIndex := 26, descriptorIndex := 12, attributes := #[] }, { accessFlags := 2, nameIndex := 46, descriptorIndex := 12, attributes := #[] }, { accessFlags := 2, nameIndex := 11, descriptorIndex := 12, attributes := #[] }, { accessFlags := 2, nameIndex := 29, descriptorIndex := 30, attributes := #[] }, { accessFlags := 2, nameIndex := 33, descriptorIndex := 30, attributes := #[] }, { accessFlags := 2, nameIndex := 36, descriptorIndex := 30, attributes := #[] }, { accessFlags := 2, nameIndex := 39, descriptorIndex := 30, attributes := #[] }, { accessFlags := 2, nameIndex := 42, descriptorIndex := 43, attributes := #[] }, { accessFlags := 2, nameIndex := 109, descriptorIndex := 12, attributes := #[] }])
  fields := #[{ name := "MAX_BUCKET_BITS", type := .int, accessFlags := 26, slot := 0, constantValue := 0 }, { name := "RECORDS_PER_BUCKET_BITS", type := .int, accessFlags := 26, slot := 1, constantValue := 0 }, { name := "SLACK_BITS", type := .int, accessFlags := 26, slot := 2, constantValue := 0 }, { name := "MIN_ROOM", type := .int, accessFlags := 26, slot := 3, constantValue := 0 }, { name := "MIN_RECORD_BITS", type := .int, accessFlags := 26, slot := 4, constantValue := 0 }, { name := "mask", type := .long, accessFlags := 18, slot := 0, constantValue := 0 }, { name := "lowestBit", type := .int, accessFlags := 18, slot := 1, constantValue := 0 }, { name := "width", type := .int, accessFlags := 18, slot := 2, constantValue := 0 }, { name := "bucketBits", type := .int, accessFlags := 2, slot := 3, constantValue := 0 }, { name := "recordBits", type := .int, accessFlags := 2, slot := 4, constantValue := 0 }, { name := "start", type := (.array .int), accessFlags := 2, slot := 5, constantValue := 0 }, { name := "length", type := (.array .int), accessFlags := 2, slot := 6, constantValue := 0 }, { name := "room", type := (.array .int), accessFlags := 2, slot := 7, constantValue := 0 }, { name := "entries", type := (.array .int), accessFlags := 2, slot := 8, constantValue := 0 }, { name := "tags", type := (.array .byte), accessFlags := 2, slot := 9, constantValue := 0 }, { name := "free", type := .int, accessFlags := 2, slot := 10, constantValue := 0 }]
  methods := #[k2m0, k2m1]
  instanceTypes := #[.long, .int, .int, .int, .int, (.array .int), (.array .int), (.array .int), (.array .int), (.array .byte), .int]
  staticTypes := #[.int, .int, .int, .int, .int]
  resolved := Array.replicate 179 none
  statics := none }

def pool3 : Array CpInfo := pool [(1, u "java/lang/Cloneable"), (0, .class_ 1), (0, u "java/lang/Object"), (0, .class_ 3)] 3

/-- java/lang/Cloneable -/
def k3 : Class := { plain "java/lang/Cloneable" (some 0) with
  accessFlags := 1537
  interfaces := #[]
  cf := some (fileOf pool3 2 #[] #[] 1537 4 #[] #[])
  fields := #[]
  methods := #[]
  instanceTypes := #[]
  staticTypes := #[]
  resolved := Array.replicate 8 none
  statics := none }

def pool4 : Array CpInfo := pool [(1, u "java/io/Serializable"), (0, .class_ 1), (0, u "java/lang/Object"), (0, .class_ 3)] 3

/-- java/io/Serializable -/
def k4 : Class := { plain "java/io/Serializable" (some 0) with
  accessFlags := 1537
  interfaces := #[]
  cf := some (fileOf pool4 2 #[] #[] 1537 4 #[] #[])
  fields := #[]
  methods := #[]
  instanceTypes := #[]
  staticTypes := #[]
  resolved := Array.replicate 8 none
  statics := none }

/-- the primitive byte -/
def k5 : Class := { plain "byte" none with kind := .primitive 'B', accessFlags := 0x411 }
/-- [B -/
def k6 : Class := { plain "[B" (some 0) with kind := .array 5 .byte, interfaces := #[3, 4], accessFlags := 1041 }

/-- the primitive int -/
def k7 : Class := { plain "int" none with kind := .primitive 'I', accessFlags := 0x411 }
/-- [I -/
def k8 : Class := { plain "[I" (some 0) with kind := .array 7 .int, interfaces := #[3, 4], accessFlags := 1041 }

def heap : Heap := #[]
def classes : Array Class := #[k0, k1, k2, k3, k4, k5, k6, k7, k8]
def interned : List (Array UInt16 × Addr) := []
def slotsUsed : Nat := 0
def theMethod : MethodId := ⟨1, 2⟩
def args0 : Array Value := #[.int 5, .int 7, .long 3, .int 1]
def aboutOver (below : List Frame) : State where
  vm := { classes := classes, interned := interned.toArray }
  heap := heap
  slotsUsed := slotsUsed
  threads := #[{ frames := .invoking theMethod args0 :: below }]
def below0 : List Frame := [.native { method := ⟨0, 0⟩, args := #[] }]
def about1 : State := aboutOver below0
def p0 : Program := .bare "" "" ""
def e0 : Env := launch0.env 0 0 0
theorem w_frames : about1.frames = Frame.invoking theMethod args0 :: below0 := rfl
set_option maxRecDepth 65536 in
theorem w_args : argsFit about1.vm theMethod args0 = true := by decide +kernel
set_option maxRecDepth 65536 in
theorem w_heap : heapFits about1 = true := by decide +kernel
set_option maxRecDepth 65536 in
theorem w_runnable : about1.curStatus? = some .runnable := by decide +kernel
set_option maxRecDepth 65536 in
theorem w_alone : about1.alone = true := by decide +kernel
set_option maxRecDepth 65536 in
theorem w_named : about1.methodNamed? x = some theMethod := by decide +kernel
set_option maxRecDepth 65536 in
theorem w_hears : about1.hears theMethod below0 = true := by decide +kernel
set_option maxRecDepth 65536 in
theorem w_ripe : about1.ripe theMethod args0 below0 = true := by decide +kernel
theorem w_running : about1.status = .running := rfl
set_option maxRecDepth 65536 in
theorem w_room : about1.hasRoom e0.platform room_1 = true :=
  launch0.hasRoom_least _ room_1 (by decide +kernel) (by decide +kernel) (by decide +kernel) (by decide +kernel) (by decide +kernel) (by decide +kernel)
theorem allAtoms_all (ts : List Jvm.Cond) (a : Array Jvm.Value) (st : Jvm.State) : (allAtoms ts).before a st = ts.all (fun c => c.before a st) := by
  induction ts with
  | nil => rfl
  | cons c t ih =>
    show (Jvm.Cond.and c (allAtoms t)).before a st = _
    rw [Jvm.Cond.before_and, ih, List.all_cons]
def words1 : List Jvm.Cond := Jvm.Cond.code x code maxLocals ret :: tables_1
/-- a 'code' word, met by the world's own term for the bytes: nothing is compared byte by byte -/
theorem code_word {y : MethodName} {bytes : ByteArray} {mx : Nat} {rt : Option FieldType} {a : Array Value} {s : State} {m : MethodId} {meth : Method} {c : Code} (h1 : s.methodNamed? y = some m) (h2 : s.vm.method? m = some meth) (h3 : meth.code = some c) (h4 : c.code = bytes)
    (h5 : (c.maxLocals == mx && c.exceptionTable.isEmpty && decide (c.maxStack ≤ mostOperands) && decide (meth.sig.returnType = rt) && !meth.locks && decide (parseMethodDescriptor y.desc = some meth.sig)) = true) : (Jvm.Cond.code y bytes mx rt).before a s = true := by
  simp only [Bool.and_eq_true, beq_iff_eq, Bool.not_eq_true', decide_eq_true_eq] at h5
  obtain ⟨⟨⟨⟨⟨g1, g2⟩, g3⟩, g4⟩, g5⟩, g6⟩ := h5
  simp [Cond.before, Cond.holds, Cond.value, h1, h2, h3, h4, g1, g2, g3, g4, g5, g6]
def isCode : Jvm.Cond → Bool
  | .code _ _ _ _ => true
  | _ => false
theorem all_split {L : List Jvm.Cond} {P : Jvm.Cond → Bool} (h1 : L.all (fun c => isCode c || P c) = true) (h2 : ∀ c ∈ L.filter isCode, P c = true) : L.all P = true := by
  refine List.all_eq_true.mpr fun c hc => ?_
  have h := List.all_eq_true.mp h1 c hc
  rcases Bool.eq_false_or_eq_true (isCode c) with hi | hi
  · exact h2 c (List.mem_filter.mpr ⟨hc, hi⟩)
  · simpa [hi] using h
set_option maxRecDepth 65536 in
theorem w_c0 : (Jvm.Cond.code x code maxLocals ret).before args0 about1 = true := code_word (m := ⟨1, 2⟩) (meth := k1m2) (c := k1c2) (by decide +kernel) rfl rfl rfl (by decide +kernel)
set_option maxRecDepth 65536 in
theorem w_c1 : (Jvm.Cond.code ({ cls := "com/example/kinhash/kinhash/BlockTable", name := "<init>", desc := "(II)V" } : Jvm.MethodName) prog_4_method_1_code (3 : Nat) (Option.none : Option Jvm.ClassFile.FieldType)).before args0 about1 = true := code_word (m := ⟨2, 0⟩) (meth := k2m0) (c := k2c0) (by decide +kernel) rfl rfl rfl (by decide +kernel)
set_option maxRecDepth 65536 in
theorem w_c2 : (Jvm.Cond.code ({ cls := "java/lang/Object", name := "<init>", desc := "()V" } : Jvm.MethodName) object_method_1_code (1 : Nat) (Option.none : Option Jvm.ClassFile.FieldType)).before args0 about1 = true := code_word (m := ⟨0, 0⟩) (meth := k0m0) (c := k0c0) (by decide +kernel) rfl rfl rfl (by decide +kernel)
set_option maxRecDepth 65536 in
theorem w_c3 : (Jvm.Cond.code ({ cls := "com/example/kinhash/kinhash/BlockTable", name := "agrees", desc := "(J)Z" } : Jvm.MethodName) prog_4_method_2_code (3 : Nat) (Option.some Jvm.ClassFile.FieldType.boolean)).before args0 about1 = true := code_word (m := ⟨2, 1⟩) (meth := k2m1) (c := k2c1) (by decide +kernel) rfl rfl rfl (by decide +kernel)
set_option maxRecDepth 65536 in
theorem w_c4 : (Jvm.Cond.code ({ cls := "com/example/kinhash/kinhash/BlockTableAgreesPinLaw", name := "blockBitsZero", desc := "(JII)Z" } : Jvm.MethodName) method_2_code (7 : Nat) (Option.some Jvm.ClassFile.FieldType.boolean)).before args0 about1 = true := code_word (m := ⟨1, 1⟩) (meth := k1m1) (c := k1c1) (by decide +kernel) rfl rfl rfl (by decide +kernel)
def codes1 : List Jvm.Cond := [Jvm.Cond.code x code maxLocals ret, Jvm.Cond.code ({ cls := "com/example/kinhash/kinhash/BlockTable", name := "<init>", desc := "(II)V" } : Jvm.MethodName) prog_4_method_1_code (3 : Nat) (Option.none : Option Jvm.ClassFile.FieldType), Jvm.Cond.code ({ cls := "java/lang/Object", name := "<init>", desc := "()V" } : Jvm.MethodName) object_method_1_code (1 : Nat) (Option.none : Option Jvm.ClassFile.FieldType), Jvm.Cond.code ({ cls := "com/example/kinhash/kinhash/BlockTable", name := "agrees", desc := "(J)Z" } : Jvm.MethodName) prog_4_method_2_code (3 : Nat) (Option.some Jvm.ClassFile.FieldType.boolean), Jvm.Cond.code ({ cls := "com/example/kinhash/kinhash/BlockTableAgreesPinLaw", name := "blockBitsZero", desc := "(JII)Z" } : Jvm.MethodName) method_2_code (7 : Nat) (Option.some Jvm.ClassFile.FieldType.boolean)]
set_option maxRecDepth 65536 in
theorem codes_eq : words1.filter isCode = codes1 := rfl
theorem w_codes : ∀ c ∈ words1.filter isCode, c.before args0 about1 = true := by
  rw [codes_eq]
  intro c hc
  simp only [codes1, List.mem_cons, List.not_mem_nil, or_false] at hc
  rcases hc with rfl | rfl | rfl | rfl | rfl
  · exact w_c0
  · exact w_c1
  · exact w_c2
  · exact w_c3
  · exact w_c4
set_option maxRecDepth 65536 in
theorem w_t1 : (words1.take 24).all (fun c => isCode c || c.before args0 about1) = true := by decide +kernel
set_option maxRecDepth 65536 in
theorem w_t2 : (words1.drop 24).all (fun c => isCode c || c.before args0 about1) = true := by decide +kernel
theorem w_tables : (allAtoms (Jvm.Cond.code x code maxLocals ret :: tables_1)).before args0 about1 = true := by
  rw [allAtoms_all]
  show words1.all (fun c => c.before args0 about1) = true
  refine all_split ?_ w_codes
  rw [← List.take_append_drop 24 words1, List.all_append, w_t1, w_t2]
  rfl
set_option maxRecDepth 65536 in
theorem w_case : (Jvm.Cond.and given_1 narrow_1).before args0 about1 = true := by decide +kernel
theorem w_applies : (headSpec (Jvm.Cond.code x code maxLocals ret :: tables_1) room_1).applies x e0.platform about1 = true :=
  (Spec.applies_iff w_frames).mpr ⟨w_running, w_runnable, w_alone, w_named, w_hears, w_ripe, w_room, w_tables⟩
theorem atStart : AtStart classFile x code maxLocals ret World_1 tables_1 room_1 Calls_1 rest_1 Pre_1 launch0 p0 e0 about1 theMethod args0 below0 :=
  ⟨lists_1, trivial, launch0.admits_env _ _ _, launch0.least_env, fairChoices_fair.cas, fairChoices_fair.clock, w_frames, w_args, w_heap, w_applies, trivial, trivial, w_case⟩
end start1
theorem witness_1 : WitnessClaimed_1 := ⟨start1.p0, start1.e0, start1.about1, start1.theMethod, start1.args0, start1.below0, start1.atStart⟩
end Jvm.Pilot.@@N@@
