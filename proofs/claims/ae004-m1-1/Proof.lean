import JvmDerived
import JvmDerived.Pilot.@@N@@Statement
import JvmDerived.Pilot.@@N@@Code
set_option linter.unusedVariables false
set_option linter.unusedSimpArgs false
namespace Jvm.RoadKit
open Sem ClassFile Op Lib Jvm.Stand Jvm.Free Jvm.LawKit
section New
variable {p : Program} {l : Launch} {e : Env} {R : Room} {s : State} {m : MethodId} {args : Array Value} {below : List Frame} {meth : Method} {c : Code} {T : State} {locs : List Loc} {cells slots : Nat}
theorem retI (X : Stand p l e R s m args below meth c T locs cells slots) (hx : p.tables.exec = Jvm.exec) {pc : Nat} {Ls : Array Slot} {z : Int32} {rest : List Value} (hret : meth.sig.returnType = some .int) (hd : decode c.code pc = .ok (.ireturn, 1)) {fs : List Frame}
    (hl : ∀ (f : JFrame) (acts : List Action), f.method = m → f.locked = none → f.entered = [] → (doReturn e (T.setTop f) acts (some (.int z))).1 = T.setFrames fs) : Steps p.tables e below (T.setTop (mkF m pc Ls (.int z :: rest))) (T.setFrames fs) := by
  have hm' : T.vm.method? m = some meth := X.method'
  have hn : narrow .int (.int z) = .int z := rfl
  show Steps p.tables e below (T.setTop { method := m, pc := pc, locals := Ls, stack := _ :: rest, locked := none }) _
  jvm_step X.here [X.here.top, hx, hd, hm', hret, hn]
  first | (intro acts; rw [hl _ acts rfl rfl rfl]) | rw [hl _ _ rfl rfl rfl]
  exact Steps.refl _
end New
end Jvm.RoadKit
namespace Jvm.Pilot.@@N@@
open Jvm Jvm.ClassFile Sem Op Lib Jvm.Free Jvm.Stand Jvm.LawKit Jvm.RoadKit Bundle Jvm.Pilot.@@N@@.Jvm.D
theorem own_more {p : Program} {l : Launch} {e : Env} {R : Room} {s : State} {m : MethodId} {args : Array Value} {below : List Frame} {meth : Method} {c : Code} {T : State} {locs : List Loc} {k n k' n' : Nat} (X : Stand p l e R s m args below meth c T locs k n) (hk : k ≤ k') (hn : n ≤ n') : Stand p l e R s m args below meth c T locs k' n' := { X with same := X.same.mono hk hn }
theorem own_nar {t : FieldType} {v : Value} (h : v.isRef = true) (ht : t.isReference = true := by rfl) : narrow t v = v := by
  rcases ref_cases h with rfl | ⟨a, rfl⟩ <;> cases t <;> first | rfl | (cases ht; done)
theorem own_fit {t : FieldType} {v : Value} (h : v.isRef = true) (ht : t.isReference = true := by rfl) : fits t v = true := by
  rcases ref_cases h with rfl | ⟨a, rfl⟩ <;> cases t <;> first | rfl | (cases ht; done)
theorem own_ifc {P Q : Prop} [Decidable P] [Decidable Q] {α : Type} {a b c d : α} (h : P ↔ Q) (h1 : a = c) (h2 : b = d) : (if P then a else b) = (if Q then c else d) := by
  subst h1 h2; by_cases q : Q
  · rw [if_pos q, if_pos (h.mpr q)]
  · rw [if_neg q, if_neg (fun p => q (h.mp p))]
theorem own_cat {v : Value} (h : v.isRef = true) : v.category = 1 := by rcases ref_cases h with rfl | ⟨a, rfl⟩ <;> rfl
abbrev Rch (p : Program) (e : Env) (below : List Frame) (A B : State) : Prop := ∀ t, Steps p.tables e below B t → Steps p.tables e below A t
theorem d1_0 : decode method_2_code 0 = .ok (.lload_n 0, 1) := by decide +kernel
theorem d1_1 : decode method_2_code 1 = .ok (.iload_n 2, 1) := by decide +kernel
theorem d1_2 : decode method_2_code 2 = .ok (.lushr, 1) := by decide +kernel
theorem d1_3 : decode method_2_code 3 = .ok (.ldc2_w 7, 3) := by decide +kernel
theorem d1_6 : decode method_2_code 6 = .ok (.land, 1) := by decide +kernel
theorem d1_7 : decode method_2_code 7 = .ok (.l2i, 1) := by decide +kernel
theorem d1_8 : decode method_2_code 8 = .ok (.istore 5, 2) := by decide +kernel
theorem d1_10 : decode method_2_code 10 = .ok (.iload_n 3, 1) := by decide +kernel
theorem d1_11 : decode method_2_code 11 = .ok (.iload 4, 2) := by decide +kernel
theorem d1_13 : decode method_2_code 13 = .ok (.iushr, 1) := by decide +kernel
theorem d1_14 : decode method_2_code 14 = .ok (.iconst 1, 1) := by decide +kernel
theorem d1_15 : decode method_2_code 15 = .ok (.iand, 1) := by decide +kernel
theorem d1_16 : decode method_2_code 16 = .ok (.ifCond .eq 13, 3) := by decide +kernel
theorem d1_29 : decode method_2_code 29 = .ok (.iload 5, 2) := by decide +kernel
theorem d1_31 : decode method_2_code 31 = .ok (.i2b, 1) := by decide +kernel
theorem d1_19 : decode method_2_code 19 = .ok (.bipush 48, 2) := by decide +kernel
theorem d1_21 : decode method_2_code 21 = .ok (.iload 5, 2) := by decide +kernel
theorem d1_23 : decode method_2_code 23 = .ok (.bipush 10, 2) := by decide +kernel
theorem d1_25 : decode method_2_code 25 = .ok (.irem, 1) := by decide +kernel
theorem d1_26 : decode method_2_code 26 = .ok (.iadd, 1) := by decide +kernel
theorem d1_27 : decode method_2_code 27 = .ok (.i2b, 1) := by decide +kernel
theorem d1_32 : decode method_2_code 32 = .ok (.ireturn, 1) := by decide +kernel
theorem d1_28 : decode method_2_code 28 = .ok (.ireturn, 1) := by decide +kernel
theorem pn_0 : plainName "com/example/carrel/carrel/server/marc/MarcRecordDigitsPinLaw" = true := by first | (simp [plainName, overriddenIn]; done) | decide +kernel
theorem d5_0 : decode method_3_code 0 = .ok (.iload_n 0, 1) := by decide +kernel
theorem d5_1 : decode method_3_code 1 = .ok (.sipush 255, 3) := by decide +kernel
theorem d5_4 : decode method_3_code 4 = .ok (.iand, 1) := by decide +kernel
theorem d5_5 : decode method_3_code 5 = .ok (.istore_n 1, 1) := by decide +kernel
theorem d5_6 : decode method_3_code 6 = .ok (.iload_n 1, 1) := by decide +kernel
theorem d5_7 : decode method_3_code 7 = .ok (.bipush 48, 2) := by decide +kernel
theorem d5_9 : decode method_3_code 9 = .ok (.if_icmp .lt 14, 3) := by decide +kernel
theorem d5_23 : decode method_3_code 23 = .ok (.iconst (-1), 1) := by decide +kernel
theorem d5_12 : decode method_3_code 12 = .ok (.iload_n 1, 1) := by decide +kernel
theorem d5_13 : decode method_3_code 13 = .ok (.bipush 57, 2) := by decide +kernel
theorem d5_15 : decode method_3_code 15 = .ok (.if_icmp .gt 8, 3) := by decide +kernel
theorem d5_18 : decode method_3_code 18 = .ok (.iload_n 1, 1) := by decide +kernel
theorem d5_19 : decode method_3_code 19 = .ok (.bipush 48, 2) := by decide +kernel
theorem d5_21 : decode method_3_code 21 = .ok (.isub, 1) := by decide +kernel
theorem d5_24 : decode method_3_code 24 = .ok (.ireturn, 1) := by decide +kernel
theorem d5_22 : decode method_3_code 22 = .ok (.ireturn, 1) := by decide +kernel
theorem d2_0 : decode method_4_code 0 = .ok (.iload_n 3, 1) := by decide +kernel
theorem d2_1 : decode method_4_code 1 = .ok (.iload_n 2, 1) := by decide +kernel
theorem d2_2 : decode method_4_code 2 = .ok (.if_icmp .ge 18, 3) := by decide +kernel
theorem d2_20 : decode method_4_code 20 = .ok (.iconst 0, 1) := by decide +kernel
theorem d2_5 : decode method_4_code 5 = .ok (.aload_n 0, 1) := by decide +kernel
theorem d2_6 : decode method_4_code 6 = .ok (.iload_n 1, 1) := by decide +kernel
theorem d2_7 : decode method_4_code 7 = .ok (.iload_n 3, 1) := by decide +kernel
theorem d2_8 : decode method_4_code 8 = .ok (.iadd, 1) := by decide +kernel
theorem d2_9 : decode method_4_code 9 = .ok (.baload, 1) := by decide +kernel
theorem d2_10 : decode method_4_code 10 = .ok (.invokestatic 9, 3) := by decide +kernel
theorem d2_13 : decode method_4_code 13 = .ok (.ifCond .ge 7, 3) := by decide +kernel
theorem d2_16 : decode method_4_code 16 = .ok (.iconst 1, 1) := by decide +kernel
theorem d2_17 : decode method_4_code 17 = .ok (.goto 4, 3) := by decide +kernel
theorem d2_21 : decode method_4_code 21 = .ok (.ireturn, 1) := by decide +kernel
theorem d3_0 : decode method_5_code 0 = .ok (.iload_n 3, 1) := by decide +kernel
theorem d3_1 : decode method_5_code 1 = .ok (.iload_n 2, 1) := by decide +kernel
theorem d3_2 : decode method_5_code 2 = .ok (.if_icmp .lt 5, 3) := by decide +kernel
theorem d3_7 : decode method_5_code 7 = .ok (.aload_n 0, 1) := by decide +kernel
theorem d3_8 : decode method_5_code 8 = .ok (.iload_n 1, 1) := by decide +kernel
theorem d3_9 : decode method_5_code 9 = .ok (.iload_n 3, 1) := by decide +kernel
theorem d3_10 : decode method_5_code 10 = .ok (.iadd, 1) := by decide +kernel
theorem d3_5 : decode method_5_code 5 = .ok (.iconst 0, 1) := by decide +kernel
theorem d3_11 : decode method_5_code 11 = .ok (.baload, 1) := by decide +kernel
theorem d3_12 : decode method_5_code 12 = .ok (.invokestatic 9, 3) := by decide +kernel
theorem d3_15 : decode method_5_code 15 = .ok (.aload 4, 2) := by decide +kernel
theorem d3_17 : decode method_5_code 17 = .ok (.iload_n 2, 1) := by decide +kernel
theorem d3_18 : decode method_5_code 18 = .ok (.iconst 1, 1) := by decide +kernel
theorem d3_19 : decode method_5_code 19 = .ok (.isub, 1) := by decide +kernel
theorem d3_20 : decode method_5_code 20 = .ok (.iload_n 3, 1) := by decide +kernel
theorem d3_21 : decode method_5_code 21 = .ok (.isub, 1) := by decide +kernel
theorem d3_22 : decode method_5_code 22 = .ok (.iaload, 1) := by decide +kernel
theorem d3_23 : decode method_5_code 23 = .ok (.imul, 1) := by decide +kernel
theorem d3_24 : decode method_5_code 24 = .ok (.ireturn, 1) := by decide +kernel
theorem d3_6 : decode method_5_code 6 = .ok (.ireturn, 1) := by decide +kernel
theorem d4_0 : decode prog_103_method_11_code 0 = .ok (.iconst 0, 1) := by decide +kernel
theorem d4_1 : decode prog_103_method_11_code 1 = .ok (.istore_n 3, 1) := by decide +kernel
theorem d4_2 : decode prog_103_method_11_code 2 = .ok (.iload_n 1, 1) := by decide +kernel
theorem d4_3 : decode prog_103_method_11_code 3 = .ok (.istore 4, 2) := by decide +kernel
theorem d4_5 : decode prog_103_method_11_code 5 = .ok (.iload 4, 2) := by decide +kernel
theorem d4_7 : decode prog_103_method_11_code 7 = .ok (.iload_n 1, 1) := by decide +kernel
theorem d4_8 : decode prog_103_method_11_code 8 = .ok (.iload_n 2, 1) := by decide +kernel
theorem d4_9 : decode prog_103_method_11_code 9 = .ok (.iadd, 1) := by decide +kernel
theorem d4_10 : decode prog_103_method_11_code 10 = .ok (.if_icmp .ge 42, 3) := by decide +kernel
theorem d4_13 : decode prog_103_method_11_code 13 = .ok (.aload_n 0, 1) := by decide +kernel
theorem d4_14 : decode prog_103_method_11_code 14 = .ok (.iload 4, 2) := by decide +kernel
theorem d4_16 : decode prog_103_method_11_code 16 = .ok (.baload, 1) := by decide +kernel
theorem d4_17 : decode prog_103_method_11_code 17 = .ok (.bipush 48, 2) := by decide +kernel
theorem d4_19 : decode prog_103_method_11_code 19 = .ok (.if_icmp .lt 12, 3) := by decide +kernel
theorem d4_22 : decode prog_103_method_11_code 22 = .ok (.aload_n 0, 1) := by decide +kernel
theorem d4_23 : decode prog_103_method_11_code 23 = .ok (.iload 4, 2) := by decide +kernel
theorem d4_25 : decode prog_103_method_11_code 25 = .ok (.baload, 1) := by decide +kernel
theorem d4_26 : decode prog_103_method_11_code 26 = .ok (.bipush 57, 2) := by decide +kernel
theorem d4_28 : decode prog_103_method_11_code 28 = .ok (.if_icmp .le 5, 3) := by decide +kernel
theorem d4_33 : decode prog_103_method_11_code 33 = .ok (.iload_n 3, 1) := by decide +kernel
theorem d4_34 : decode prog_103_method_11_code 34 = .ok (.bipush 10, 2) := by decide +kernel
theorem d4_36 : decode prog_103_method_11_code 36 = .ok (.imul, 1) := by decide +kernel
theorem d4_37 : decode prog_103_method_11_code 37 = .ok (.aload_n 0, 1) := by decide +kernel
theorem d4_38 : decode prog_103_method_11_code 38 = .ok (.iload 4, 2) := by decide +kernel
theorem d4_40 : decode prog_103_method_11_code 40 = .ok (.baload, 1) := by decide +kernel
theorem d4_41 : decode prog_103_method_11_code 41 = .ok (.iadd, 1) := by decide +kernel
theorem d4_42 : decode prog_103_method_11_code 42 = .ok (.bipush 48, 2) := by decide +kernel
theorem d4_44 : decode prog_103_method_11_code 44 = .ok (.isub, 1) := by decide +kernel
theorem d4_45 : decode prog_103_method_11_code 45 = .ok (.istore_n 3, 1) := by decide +kernel
theorem d4_46 : decode prog_103_method_11_code 46 = .ok (.iinc 4 1, 3) := by decide +kernel
theorem d4_49 : decode prog_103_method_11_code 49 = .ok (.goto (-44), 3) := by decide +kernel
theorem d4_31 : decode prog_103_method_11_code 31 = .ok (.iconst (-1), 1) := by decide +kernel
theorem d4_32 : decode prog_103_method_11_code 32 = .ok (.ireturn, 1) := by decide +kernel
theorem d4_52 : decode prog_103_method_11_code 52 = .ok (.iload_n 3, 1) := by decide +kernel
theorem d4_53 : decode prog_103_method_11_code 53 = .ok (.ireturn, 1) := by decide +kernel
theorem pn_1 : plainName "com/example/carrel/carrel/server/marc/MarcRecord" = true := by first | (simp [plainName, overriddenIn]; done) | decide +kernel
theorem pd_0 : parseMethodDescriptor "(B)I" = some ⟨[.byte], some .int⟩ := by decide +kernel
theorem pd_1 : parseMethodDescriptor "(JIII)B" = some ⟨[.long, .int, .int, .int], some .byte⟩ := by decide +kernel
theorem pd_2 : parseMethodDescriptor "([BIII)Z" = some ⟨[(.array .byte), .int, .int, .int], some .boolean⟩ := by decide +kernel
theorem pd_3 : parseMethodDescriptor "([BIII[I)I" = some ⟨[(.array .byte), .int, .int, .int, (.array .int)], some .int⟩ := by decide +kernel
theorem pd_4 : parseMethodDescriptor "([BII)I" = some ⟨[(.array .byte), .int, .int], some .int⟩ := by decide +kernel
def own_draw (q1 : Int64) (p2 : Int32) (p3 : Int32) (p4 : Int32) : Int32 := (if (((p3.toUInt32 >>> (p4 &&& 31).toUInt32).toInt32) &&& (1 : Int32)) = (0 : Int32) then (nar .byte (((((q1.toUInt64 >>> (p2 &&& 0x3f).toInt64.toUInt64).toInt64) &&& (255 : Int64)).toInt32).toInt8.toInt32)) else (nar .byte (((48 : Int32) + (((((q1.toUInt64 >>> (p2 &&& 0x3f).toInt64.toUInt64).toInt64) &&& (255 : Int64)).toInt32) % (10 : Int32))).toInt8.toInt32)))
def Q_rmDr (Z : State) (q1 : Int64) (p2 : Int32) (p3 : Int32) (p4 : Int32) (h0 : Heap) (n0 : Nat) (v : Option Value) (h : Heap) (L : List Loc) : Prop := v = some (.int (own_draw q1 p2 p3 p4)) ∧ Fr n0 L ∧ h = h0
set_option maxRecDepth 65536 in
set_option maxHeartbeats 40000000 in
theorem rmDr (l : Launch) (Z : State) (a0 : Array Value) (hw : ∀ d ∈ tables_1, d.before a0 Z = true) (ws : List Jvm.Cond) (q1 : Int64) (p2 : Int32) (p3 : Int32) (p4 : Int32) (h0 : Heap) (n0 : Nat) (Z0 : n0 ≤ h0.size) :
    MetFree l (⟨"com/example/carrel/carrel/server/marc/MarcRecordDigitsPinLaw", "draw", "(JIII)B"⟩ : MethodName) (head1 (Jvm.Cond.code (⟨"com/example/carrel/carrel/server/marc/MarcRecordDigitsPinLaw", "draw", "(JIII)B"⟩ : MethodName) method_2_code 6 (some .byte) :: ws) ({ frames := 0, cells := 0, slots := 0, locals := 0 } : Room)) (fun a U => a = #[(.long q1), (.int p2), (.int p3), (.int p4)] ∧ Z.Warmed39 U.vm ∧ U.heap = h0) (fun _ _ _ _ _ => True) (fun _ U o U' => ∃ v L, o = .returned v ∧ Q_rmDr Z q1 p2 p3 p4 h0 n0 v U'.heap L ∧ FrameEnd U o U' L ({ frames := 0, cells := 0, slots := 0, locals := 0 } : Room).cells ({ frames := 0, cells := 0, slots := 0, locals := 0 } : Room).slots) := by
  refine MetFree.of_bodySF (plainFor_of_name pn_0) hisR ?_
  intro p e s m args below meth c s₁ Bd hml0 hP hK
  obtain ⟨rfl, hZ, hh⟩ := hP
  have hx := Bd.exec
  have hby := Bd.bytes
  have hml : c.maxLocals = 6 := hml0
  have hown : s.vm.findClass "com/example/carrel/carrel/server/marc/MarcRecordDigitsPinLaw" = some m.cls := findClass_of_methodNamed Bd.named
  have hnm := (name_of_methodNamed Bd.named Bd.method).1
  have X0 : Stand p l e ({ frames := 0, cells := 0, slots := 0, locals := 0 } : Room) s m #[(.long q1), (.int p2), (.int p3), (.int p4)] below meth c s₁ [] 0 0 := Stand.of_body Bd
  have e0 : s₁.heap = h0 := by rw [← hh, Bd.state]; rfl
  have N0 := Fr.nil n0
  have P0 : Rch p e below (s₁.setTop (entryFrame m #[(.long q1), (.int p2), (.int p3), (.int p4)] 6)) (s₁.setTop (mkF m 0 #[.val (.long q1), .second, .val (.int p2), .val (.int p3), .val (.int p4), .unset] [])) := fun t k => castTop (by first | (simp [entryFrame, mkF, argsToLocals, Value.category]; done) | rfl) k
  obtain ⟨x1, hx1⟩ : ∃ z : Int32, z = ((((q1.toUInt64 >>> (p2 &&& 0x3f).toInt64.toUInt64).toInt64) &&& (255 : Int64)).toInt32) := ⟨_, rfl⟩
  have P2 : Rch p e below (s₁.setTop (entryFrame m #[(.long q1), (.int p2), (.int p3), (.int p4)] 6)) (s₁.setTop (mkF m 10 #[.val (.long q1), .second, .val (.int p2), .val (.int p3), .val (.int p4), .val (.int x1)] [])) := fun t k => P0 t (by
    subst hx1
    show Steps p.tables e below (s₁.setTop (mkF m 0 #[.val (.long q1), .second, .val (.int p2), .val (.int p3), .val (.int p4), .unset] [])) t
    refine XS.lloadN X0.here hx rfl (hb hby d1_0) rfl ?_
    show Steps p.tables e below (s₁.setTop (mkF m 1 #[.val (.long q1), .second, .val (.int p2), .val (.int p3), .val (.int p4), .unset] [(.long q1)])) t
    refine XS.iloadN X0.here hx rfl (hb hby d1_1) rfl ?_
    show Steps p.tables e below (s₁.setTop (mkF m 2 #[.val (.long q1), .second, .val (.int p2), .val (.int p3), .val (.int p4), .unset] [(.int p2), (.long q1)])) t
    refine XS.lushr X0.here hx rfl (hb hby d1_2) rfl ?_
    show Steps p.tables e below (s₁.setTop (mkF m 3 #[.val (.long q1), .second, .val (.int p2), .val (.int p3), .val (.int p4), .unset] [(.long ((q1.toUInt64 >>> (p2 &&& 0x3f).toInt64.toUInt64).toInt64))])) t
    refine X0.ldc2Long hx hown (mvT hZ (hw _ (List.mem_of_getElem? (i := 5) rfl))) (g := (mkF m 3 #[.val (.long q1), .second, .val (.int p2), .val (.int p3), .val (.int p4), .unset] [(.long ((q1.toUInt64 >>> (p2 &&& 0x3f).toInt64.toUInt64).toInt64))])) rfl (hb hby d1_3) _ ?_
    show Steps p.tables e below (s₁.setTop (mkF m 6 #[.val (.long q1), .second, .val (.int p2), .val (.int p3), .val (.int p4), .unset] [(.long (255 : Int64)), (.long ((q1.toUInt64 >>> (p2 &&& 0x3f).toInt64.toUInt64).toInt64))])) t
    refine XS.land X0.here hx rfl (hb hby d1_6) rfl ?_
    show Steps p.tables e below (s₁.setTop (mkF m 7 #[.val (.long q1), .second, .val (.int p2), .val (.int p3), .val (.int p4), .unset] [(.long (((q1.toUInt64 >>> (p2 &&& 0x3f).toInt64.toUInt64).toInt64) &&& (255 : Int64)))])) t
    refine XS.l2i X0.here hx rfl (hb hby d1_7) rfl ?_
    show Steps p.tables e below (s₁.setTop (mkF m 8 #[.val (.long q1), .second, .val (.int p2), .val (.int p3), .val (.int p4), .unset] [(.int ((((q1.toUInt64 >>> (p2 &&& 0x3f).toInt64.toUInt64).toInt64) &&& (255 : Int64)).toInt32))])) t
    refine XS.istore X0.here hx rfl (hb hby d1_8) rfl (l' := #[.val (.long q1), .second, .val (.int p2), .val (.int p3), .val (.int p4), .val (.int ((((q1.toUInt64 >>> (p2 &&& 0x3f).toInt64.toUInt64).toInt64) &&& (255 : Int64)).toInt32))]) rfl ?_
    exact k)
  obtain ⟨x3, hx3⟩ : ∃ z : Int32, z = (((p3.toUInt32 >>> (p4 &&& 31).toUInt32).toInt32) &&& (1 : Int32)) := ⟨_, rfl⟩
  have P4 : Rch p e below (s₁.setTop (entryFrame m #[(.long q1), (.int p2), (.int p3), (.int p4)] 6)) (s₁.setTop (mkF m 16 #[.val (.long q1), .second, .val (.int p2), .val (.int p3), .val (.int p4), .val (.int x1)] [(.int x3)])) := fun t k => P2 t (by
    subst hx3
    show Steps p.tables e below (s₁.setTop (mkF m 10 #[.val (.long q1), .second, .val (.int p2), .val (.int p3), .val (.int p4), .val (.int x1)] [])) t
    refine XS.iloadN X0.here hx rfl (hb hby d1_10) rfl ?_
    show Steps p.tables e below (s₁.setTop (mkF m 11 #[.val (.long q1), .second, .val (.int p2), .val (.int p3), .val (.int p4), .val (.int x1)] [(.int p3)])) t
    refine XS.iload X0.here hx rfl (hb hby d1_11) rfl ?_
    show Steps p.tables e below (s₁.setTop (mkF m 13 #[.val (.long q1), .second, .val (.int p2), .val (.int p3), .val (.int p4), .val (.int x1)] [(.int p4), (.int p3)])) t
    refine XS.iushr X0.here hx rfl (hb hby d1_13) rfl ?_
    show Steps p.tables e below (s₁.setTop (mkF m 14 #[.val (.long q1), .second, .val (.int p2), .val (.int p3), .val (.int p4), .val (.int x1)] [(.int ((p3.toUInt32 >>> (p4 &&& 31).toUInt32).toInt32))])) t
    refine XS.iconst X0.here hx rfl (hb hby d1_14) ?_
    show Steps p.tables e below (s₁.setTop (mkF m 15 #[.val (.long q1), .second, .val (.int p2), .val (.int p3), .val (.int p4), .val (.int x1)] [(.int (1 : Int32)), (.int ((p3.toUInt32 >>> (p4 &&& 31).toUInt32).toInt32))])) t
    refine XS.iand X0.here hx rfl (hb hby d1_15) rfl ?_
    exact k)
  by_cases c5 : x3 = (0 : Int32)
  · obtain ⟨x6, hx6⟩ : ∃ z : Int32, z = (x1.toInt8.toInt32) := ⟨_, rfl⟩
    have P7 : Rch p e below (s₁.setTop (entryFrame m #[(.long q1), (.int p2), (.int p3), (.int p4)] 6)) (s₁.setTop (mkF m 32 #[.val (.long q1), .second, .val (.int p2), .val (.int p3), .val (.int p4), .val (.int x1)] [(.int x6)])) := fun t k => P4 t (by
      subst hx6
      show Steps p.tables e below (s₁.setTop (mkF m 16 #[.val (.long q1), .second, .val (.int p2), .val (.int p3), .val (.int p4), .val (.int x1)] [(.int x3)])) t
      refine XS.ifYes X0.here hx rfl (pc0 := 16) (pc' := 29) rfl (hb hby d1_16) rfl ((if0 _ _).trans (teq c5).1) (by decide) (by decide) ?_
      show Steps p.tables e below (s₁.setTop (mkF m 29 #[.val (.long q1), .second, .val (.int p2), .val (.int p3), .val (.int p4), .val (.int x1)] [])) t
      refine XS.iload X0.here hx rfl (hb hby d1_29) rfl ?_
      show Steps p.tables e below (s₁.setTop (mkF m 31 #[.val (.long q1), .second, .val (.int p2), .val (.int p3), .val (.int p4), .val (.int x1)] [(.int x1)])) t
      refine XS.i2b X0.here hx rfl (hb hby d1_31) rfl ?_
      exact k)
    obtain ⟨fs, hr, hrun, hended, hW, hsame⟩ := X0.leave (v := some (.int (nar .byte x6))) (fun h => by rw [Bd.returns] at h; cases h)
    refine ⟨_, _, P7 _ ?_, hrun, hended, _, _, rfl, ?_, ⟨_, rfl⟩, hW, hsame.mono (by decide) (by decide)⟩
    · exact retN X0 hx (t := .byte) Bd.returns (by simp) (hb hby d1_32) hr
    · show Q_rmDr Z q1 p2 p3 p4 h0 n0 _ s₁.heap _
      rw [e0]
      exact ⟨(by unfold own_draw; subst hx6 hx3 hx1; first | rfl | rw [if_pos c5] | simp only [if_pos c5] | simp [*]), N0, rfl⟩
  · obtain ⟨x8, hx8⟩ : ∃ z : Int32, z = (((48 : Int32) + (x1 % (10 : Int32))).toInt8.toInt32) := ⟨_, rfl⟩
    have P9 : Rch p e below (s₁.setTop (entryFrame m #[(.long q1), (.int p2), (.int p3), (.int p4)] 6)) (s₁.setTop (mkF m 28 #[.val (.long q1), .second, .val (.int p2), .val (.int p3), .val (.int p4), .val (.int x1)] [(.int x8)])) := fun t k => P4 t (by
      subst hx8
      show Steps p.tables e below (s₁.setTop (mkF m 16 #[.val (.long q1), .second, .val (.int p2), .val (.int p3), .val (.int p4), .val (.int x1)] [(.int x3)])) t
      refine XS.ifNo X0.here hx rfl (hb hby d1_16) rfl ((if0 _ _).trans (feq c5).1) ?_
      show Steps p.tables e below (s₁.setTop (mkF m 19 #[.val (.long q1), .second, .val (.int p2), .val (.int p3), .val (.int p4), .val (.int x1)] [])) t
      refine XS.bipush X0.here hx rfl (hb hby d1_19) ?_
      show Steps p.tables e below (s₁.setTop (mkF m 21 #[.val (.long q1), .second, .val (.int p2), .val (.int p3), .val (.int p4), .val (.int x1)] [(.int (48 : Int32))])) t
      refine XS.iload X0.here hx rfl (hb hby d1_21) rfl ?_
      show Steps p.tables e below (s₁.setTop (mkF m 23 #[.val (.long q1), .second, .val (.int p2), .val (.int p3), .val (.int p4), .val (.int x1)] [(.int x1), (.int (48 : Int32))])) t
      refine XS.bipush X0.here hx rfl (hb hby d1_23) ?_
      show Steps p.tables e below (s₁.setTop (mkF m 25 #[.val (.long q1), .second, .val (.int p2), .val (.int p3), .val (.int p4), .val (.int x1)] [(.int (10 : Int32)), (.int x1), (.int (48 : Int32))])) t
      refine iremM X0 hx rfl (hb hby d1_25) rfl (by decide) ?_
      show Steps p.tables e below (s₁.setTop (mkF m 26 #[.val (.long q1), .second, .val (.int p2), .val (.int p3), .val (.int p4), .val (.int x1)] [(.int (x1 % (10 : Int32))), (.int (48 : Int32))])) t
      refine XS.iadd X0.here hx rfl (hb hby d1_26) rfl ?_
      show Steps p.tables e below (s₁.setTop (mkF m 27 #[.val (.long q1), .second, .val (.int p2), .val (.int p3), .val (.int p4), .val (.int x1)] [(.int ((48 : Int32) + (x1 % (10 : Int32))))])) t
      refine XS.i2b X0.here hx rfl (hb hby d1_27) rfl ?_
      exact k)
    obtain ⟨fs, hr, hrun, hended, hW, hsame⟩ := X0.leave (v := some (.int (nar .byte x8))) (fun h => by rw [Bd.returns] at h; cases h)
    refine ⟨_, _, P9 _ ?_, hrun, hended, _, _, rfl, ?_, ⟨_, rfl⟩, hW, hsame.mono (by decide) (by decide)⟩
    · exact retN X0 hx (t := .byte) Bd.returns (by simp) (hb hby d1_28) hr
    · show Q_rmDr Z q1 p2 p3 p4 h0 n0 _ s₁.heap _
      rw [e0]
      exact ⟨(by unfold own_draw; subst hx8 hx3 hx1; first | rfl | rw [if_neg c5] | simp only [if_neg c5] | simp [*]), N0, rfl⟩
def own_digf (p1 : Int32) : Int32 := (if (p1 &&& (255 : Int32)) < (48 : Int32) then (-1 : Int32) else (if (57 : Int32) < (p1 &&& (255 : Int32)) then (-1 : Int32) else ((p1 &&& (255 : Int32)) - (48 : Int32))))
def Q_rmDg (Z : State) (p1 : Int32) (h0 : Heap) (n0 : Nat) (v : Option Value) (h : Heap) (L : List Loc) : Prop := v = some (.int (own_digf p1)) ∧ Fr n0 L ∧ h = h0
set_option maxRecDepth 65536 in
set_option maxHeartbeats 40000000 in
theorem rmDg (l : Launch) (Z : State) (a0 : Array Value) (hw : ∀ d ∈ tables_1, d.before a0 Z = true) (ws : List Jvm.Cond) (p1 : Int32) (h0 : Heap) (n0 : Nat) (Z0 : n0 ≤ h0.size) :
    MetFree l (⟨"com/example/carrel/carrel/server/marc/MarcRecordDigitsPinLaw", "dig", "(B)I"⟩ : MethodName) (head1 (Jvm.Cond.code (⟨"com/example/carrel/carrel/server/marc/MarcRecordDigitsPinLaw", "dig", "(B)I"⟩ : MethodName) method_3_code 2 (some .int) :: ws) ({ frames := 0, cells := 0, slots := 0, locals := 0 } : Room)) (fun a U => a = #[(.int p1)] ∧ Z.Warmed39 U.vm ∧ U.heap = h0) (fun _ _ _ _ _ => True) (fun _ U o U' => ∃ v L, o = .returned v ∧ Q_rmDg Z p1 h0 n0 v U'.heap L ∧ FrameEnd U o U' L ({ frames := 0, cells := 0, slots := 0, locals := 0 } : Room).cells ({ frames := 0, cells := 0, slots := 0, locals := 0 } : Room).slots) := by
  refine MetFree.of_bodySF (plainFor_of_name pn_0) hisR ?_
  intro p e s m args below meth c s₁ Bd hml0 hP hK
  obtain ⟨rfl, hZ, hh⟩ := hP
  have hx := Bd.exec
  have hby := Bd.bytes
  have hml : c.maxLocals = 2 := hml0
  have hown : s.vm.findClass "com/example/carrel/carrel/server/marc/MarcRecordDigitsPinLaw" = some m.cls := findClass_of_methodNamed Bd.named
  have hnm := (name_of_methodNamed Bd.named Bd.method).1
  have X0 : Stand p l e ({ frames := 0, cells := 0, slots := 0, locals := 0 } : Room) s m #[(.int p1)] below meth c s₁ [] 0 0 := Stand.of_body Bd
  have e0 : s₁.heap = h0 := by rw [← hh, Bd.state]; rfl
  have N0 := Fr.nil n0
  have P0 : Rch p e below (s₁.setTop (entryFrame m #[(.int p1)] 2)) (s₁.setTop (mkF m 0 #[.val (.int p1), .unset] [])) := fun t k => castTop (by first | (simp [entryFrame, mkF, argsToLocals, Value.category]; done) | rfl) k
  obtain ⟨x1, hx1⟩ : ∃ z : Int32, z = (p1 &&& (255 : Int32)) := ⟨_, rfl⟩
  have P2 : Rch p e below (s₁.setTop (entryFrame m #[(.int p1)] 2)) (s₁.setTop (mkF m 9 #[.val (.int p1), .val (.int x1)] [(.int (48 : Int32)), (.int x1)])) := fun t k => P0 t (by
    subst hx1
    show Steps p.tables e below (s₁.setTop (mkF m 0 #[.val (.int p1), .unset] [])) t
    refine XS.iloadN X0.here hx rfl (hb hby d5_0) rfl ?_
    show Steps p.tables e below (s₁.setTop (mkF m 1 #[.val (.int p1), .unset] [(.int p1)])) t
    refine XS.sipush X0.here hx rfl (hb hby d5_1) ?_
    show Steps p.tables e below (s₁.setTop (mkF m 4 #[.val (.int p1), .unset] [(.int (255 : Int32)), (.int p1)])) t
    refine XS.iand X0.here hx rfl (hb hby d5_4) rfl ?_
    show Steps p.tables e below (s₁.setTop (mkF m 5 #[.val (.int p1), .unset] [(.int (p1 &&& (255 : Int32)))])) t
    refine XS.istoreN X0.here hx rfl (hb hby d5_5) rfl (l' := #[.val (.int p1), .val (.int (p1 &&& (255 : Int32)))]) rfl ?_
    show Steps p.tables e below (s₁.setTop (mkF m 6 #[.val (.int p1), .val (.int (p1 &&& (255 : Int32)))] [])) t
    refine XS.iloadN X0.here hx rfl (hb hby d5_6) rfl ?_
    show Steps p.tables e below (s₁.setTop (mkF m 7 #[.val (.int p1), .val (.int (p1 &&& (255 : Int32)))] [(.int (p1 &&& (255 : Int32)))])) t
    refine XS.bipush X0.here hx rfl (hb hby d5_7) ?_
    exact k)
  by_cases c3 : x1 < (48 : Int32)
  · have P4 : Rch p e below (s₁.setTop (entryFrame m #[(.int p1)] 2)) (s₁.setTop (mkF m 24 #[.val (.int p1), .val (.int x1)] [(.int (-1 : Int32))])) := fun t k => P2 t (by
      show Steps p.tables e below (s₁.setTop (mkF m 9 #[.val (.int p1), .val (.int x1)] [(.int (48 : Int32)), (.int x1)])) t
      refine XS.icmpYes X0.here hx rfl (pc0 := 9) (pc' := 23) rfl (hb hby d5_9) rfl (tlt c3).1 (by decide) (by decide) ?_
      show Steps p.tables e below (s₁.setTop (mkF m 23 #[.val (.int p1), .val (.int x1)] [])) t
      refine XS.iconst X0.here hx rfl (hb hby d5_23) ?_
      exact k)
    obtain ⟨fs, hr, hrun, hended, hW, hsame⟩ := X0.leave (v := some (.int (-1 : Int32))) (fun h => by rw [Bd.returns] at h; cases h)
    refine ⟨_, _, P4 _ ?_, hrun, hended, _, _, rfl, ?_, ⟨_, rfl⟩, hW, hsame.mono (by decide) (by decide)⟩
    · exact retI X0 hx Bd.returns (hb hby d5_24) hr
    · show Q_rmDg Z p1 h0 n0 _ s₁.heap _
      rw [e0]
      exact ⟨(by unfold own_digf; subst hx1; first | rfl | rw [if_pos c3] | simp only [if_pos c3] | simp [*]), N0, rfl⟩
  · have P5 : Rch p e below (s₁.setTop (entryFrame m #[(.int p1)] 2)) (s₁.setTop (mkF m 15 #[.val (.int p1), .val (.int x1)] [(.int (57 : Int32)), (.int x1)])) := fun t k => P2 t (by
      show Steps p.tables e below (s₁.setTop (mkF m 9 #[.val (.int p1), .val (.int x1)] [(.int (48 : Int32)), (.int x1)])) t
      refine XS.icmpNo X0.here hx rfl (hb hby d5_9) rfl (flt c3).1 ?_
      show Steps p.tables e below (s₁.setTop (mkF m 12 #[.val (.int p1), .val (.int x1)] [])) t
      refine XS.iloadN X0.here hx rfl (hb hby d5_12) rfl ?_
      show Steps p.tables e below (s₁.setTop (mkF m 13 #[.val (.int p1), .val (.int x1)] [(.int x1)])) t
      refine XS.bipush X0.here hx rfl (hb hby d5_13) ?_
      exact k)
    by_cases c6 : (57 : Int32) < x1
    · have P7 : Rch p e below (s₁.setTop (entryFrame m #[(.int p1)] 2)) (s₁.setTop (mkF m 24 #[.val (.int p1), .val (.int x1)] [(.int (-1 : Int32))])) := fun t k => P5 t (by
        show Steps p.tables e below (s₁.setTop (mkF m 15 #[.val (.int p1), .val (.int x1)] [(.int (57 : Int32)), (.int x1)])) t
        refine XS.icmpYes X0.here hx rfl (pc0 := 15) (pc' := 23) rfl (hb hby d5_15) rfl (tlt c6).2.2.1 (by decide) (by decide) ?_
        show Steps p.tables e below (s₁.setTop (mkF m 23 #[.val (.int p1), .val (.int x1)] [])) t
        refine XS.iconst X0.here hx rfl (hb hby d5_23) ?_
        exact k)
      obtain ⟨fs, hr, hrun, hended, hW, hsame⟩ := X0.leave (v := some (.int (-1 : Int32))) (fun h => by rw [Bd.returns] at h; cases h)
      refine ⟨_, _, P7 _ ?_, hrun, hended, _, _, rfl, ?_, ⟨_, rfl⟩, hW, hsame.mono (by decide) (by decide)⟩
      · exact retI X0 hx Bd.returns (hb hby d5_24) hr
      · show Q_rmDg Z p1 h0 n0 _ s₁.heap _
        rw [e0]
        exact ⟨(by unfold own_digf; subst hx1; first | rfl | rw [if_neg c3, if_pos c6] | simp only [if_neg c3, if_pos c6] | simp [*]), N0, rfl⟩
    · obtain ⟨x8, hx8⟩ : ∃ z : Int32, z = (x1 - (48 : Int32)) := ⟨_, rfl⟩
      have P9 : Rch p e below (s₁.setTop (entryFrame m #[(.int p1)] 2)) (s₁.setTop (mkF m 22 #[.val (.int p1), .val (.int x1)] [(.int x8)])) := fun t k => P5 t (by
        subst hx8
        show Steps p.tables e below (s₁.setTop (mkF m 15 #[.val (.int p1), .val (.int x1)] [(.int (57 : Int32)), (.int x1)])) t
        refine XS.icmpNo X0.here hx rfl (hb hby d5_15) rfl (flt c6).2.2.1 ?_
        show Steps p.tables e below (s₁.setTop (mkF m 18 #[.val (.int p1), .val (.int x1)] [])) t
        refine XS.iloadN X0.here hx rfl (hb hby d5_18) rfl ?_
        show Steps p.tables e below (s₁.setTop (mkF m 19 #[.val (.int p1), .val (.int x1)] [(.int x1)])) t
        refine XS.bipush X0.here hx rfl (hb hby d5_19) ?_
        show Steps p.tables e below (s₁.setTop (mkF m 21 #[.val (.int p1), .val (.int x1)] [(.int (48 : Int32)), (.int x1)])) t
        refine XS.isub X0.here hx rfl (hb hby d5_21) rfl ?_
        exact k)
      obtain ⟨fs, hr, hrun, hended, hW, hsame⟩ := X0.leave (v := some (.int x8)) (fun h => by rw [Bd.returns] at h; cases h)
      refine ⟨_, _, P9 _ ?_, hrun, hended, _, _, rfl, ?_, ⟨_, rfl⟩, hW, hsame.mono (by decide) (by decide)⟩
      · exact retI X0 hx Bd.returns (hb hby d5_22) hr
      · show Q_rmDg Z p1 h0 n0 _ s₁.heap _
        rw [e0]
        exact ⟨(by unfold own_digf; subst hx8 hx1; first | rfl | rw [if_neg c3, if_neg c6] | simp only [if_neg c3, if_neg c6] | simp [*]), N0, rfl⟩
def own_bad (p3 : Int32) (p4 : Int32) (w : Int32) : Int32 := (if p4 < p3 then (if (own_digf w) < (0 : Int32) then (1 : Int32) else (0 : Int32)) else (0 : Int32))
def Q_rmBa (Z : State) (a1 : Addr) (p2 : Int32) (p3 : Int32) (p4 : Int32) (kA : ClassId) (vs : List Value) (w : Int32) (h0 : Heap) (n0 : Nat) (v : Option Value) (h : Heap) (L : List Loc) : Prop := v = some (.int (own_bad p3 p4 w)) ∧ Fr n0 L ∧ h = h0
set_option maxRecDepth 65536 in
set_option maxHeartbeats 40000000 in
theorem rmBa (l : Launch) (Z : State) (a0 : Array Value) (hw : ∀ d ∈ tables_1, d.before a0 Z = true) (ws : List Jvm.Cond) (a1 : Addr) (p2 : Int32) (p3 : Int32) (p4 : Int32) (kA : ClassId) (vs : List Value) (w : Int32) (h0 : Heap) (n0 : Nat) (Z0 : n0 ≤ h0.size) (VA : Arv Z h0 a1 kA .byte (12 : Int32) vs (.int (0 : Int32))) (hin : ¬ (p2 + p4) < 0 ∧ (p2 + p4) < (12 : Int32)) (hat : vs.getD (p2 + p4).toNatClampNeg (.int (0 : Int32)) = .int w) :
    MetFree l (⟨"com/example/carrel/carrel/server/marc/MarcRecordDigitsPinLaw", "badAt", "([BIII)Z"⟩ : MethodName) (head1 (Jvm.Cond.code (⟨"com/example/carrel/carrel/server/marc/MarcRecordDigitsPinLaw", "badAt", "([BIII)Z"⟩ : MethodName) method_4_code 4 (some .boolean) :: ws) ({ frames := 1, cells := 0, slots := 0, locals := 13 } : Room)) (fun a U => a = #[(.ref a1), (.int p2), (.int p3), (.int p4)] ∧ Z.Warmed39 U.vm ∧ U.heap = h0) (fun _ _ _ _ _ => True) (fun _ U o U' => ∃ v L, o = .returned v ∧ Q_rmBa Z a1 p2 p3 p4 kA vs w h0 n0 v U'.heap L ∧ FrameEnd U o U' L ({ frames := 1, cells := 0, slots := 0, locals := 13 } : Room).cells ({ frames := 1, cells := 0, slots := 0, locals := 13 } : Room).slots) := by
  refine MetFree.of_bodySF (plainFor_of_name pn_0) hisR ?_
  intro p e s m args below meth c s₁ Bd hml0 hP hK
  obtain ⟨rfl, hZ, hh⟩ := hP
  have hx := Bd.exec
  have hby := Bd.bytes
  have hml : c.maxLocals = 4 := hml0
  have hown : s.vm.findClass "com/example/carrel/carrel/server/marc/MarcRecordDigitsPinLaw" = some m.cls := findClass_of_methodNamed Bd.named
  have hnm := (name_of_methodNamed Bd.named Bd.method).1
  have X0 : Stand p l e ({ frames := 1, cells := 0, slots := 0, locals := 13 } : Room) s m #[(.ref a1), (.int p2), (.int p3), (.int p4)] below meth c s₁ [] 0 0 := Stand.of_body Bd
  have e0 : s₁.heap = h0 := by rw [← hh, Bd.state]; rfl
  have N0 := Fr.nil n0
  have P0 : Rch p e below (s₁.setTop (entryFrame m #[(.ref a1), (.int p2), (.int p3), (.int p4)] 4)) (s₁.setTop (mkF m 0 #[.val (.ref a1), .val (.int p2), .val (.int p3), .val (.int p4)] [])) := fun t k => castTop (by first | (simp [entryFrame, mkF, argsToLocals, Value.category]; done) | rfl) k
  have P1 : Rch p e below (s₁.setTop (entryFrame m #[(.ref a1), (.int p2), (.int p3), (.int p4)] 4)) (s₁.setTop (mkF m 2 #[.val (.ref a1), .val (.int p2), .val (.int p3), .val (.int p4)] [(.int p3), (.int p4)])) := fun t k => P0 t (by
    show Steps p.tables e below (s₁.setTop (mkF m 0 #[.val (.ref a1), .val (.int p2), .val (.int p3), .val (.int p4)] [])) t
    refine XS.iloadN X0.here hx rfl (hb hby d2_0) rfl ?_
    show Steps p.tables e below (s₁.setTop (mkF m 1 #[.val (.ref a1), .val (.int p2), .val (.int p3), .val (.int p4)] [(.int p4)])) t
    refine XS.iloadN X0.here hx rfl (hb hby d2_1) rfl ?_
    exact k)
  by_cases c2 : p4 < p3
  · obtain ⟨x3, hx3⟩ : ∃ z : Int32, z = (p2 + p4) := ⟨_, rfl⟩
    have P4 : Rch p e below (s₁.setTop (entryFrame m #[(.ref a1), (.int p2), (.int p3), (.int p4)] 4)) (s₁.setTop (mkF m 9 #[.val (.ref a1), .val (.int p2), .val (.int p3), .val (.int p4)] [(.int x3), (.ref a1)])) := fun t k => P1 t (by
      subst hx3
      show Steps p.tables e below (s₁.setTop (mkF m 2 #[.val (.ref a1), .val (.int p2), .val (.int p3), .val (.int p4)] [(.int p3), (.int p4)])) t
      refine XS.icmpNo X0.here hx rfl (hb hby d2_2) rfl (tlt c2).2.1 ?_
      show Steps p.tables e below (s₁.setTop (mkF m 5 #[.val (.ref a1), .val (.int p2), .val (.int p3), .val (.int p4)] [])) t
      refine XS.aloadN X0.here hx rfl (hb hby d2_5) rfl rfl ?_
      show Steps p.tables e below (s₁.setTop (mkF m 6 #[.val (.ref a1), .val (.int p2), .val (.int p3), .val (.int p4)] [(.ref a1)])) t
      refine XS.iloadN X0.here hx rfl (hb hby d2_6) rfl ?_
      show Steps p.tables e below (s₁.setTop (mkF m 7 #[.val (.ref a1), .val (.int p2), .val (.int p3), .val (.int p4)] [(.int p2), (.ref a1)])) t
      refine XS.iloadN X0.here hx rfl (hb hby d2_7) rfl ?_
      show Steps p.tables e below (s₁.setTop (mkF m 8 #[.val (.ref a1), .val (.int p2), .val (.int p3), .val (.int p4)] [(.int p4), (.int p2), (.ref a1)])) t
      refine XS.iadd X0.here hx rfl (hb hby d2_8) rfl ?_
      exact k)
    have hin_ := hin; have hat_ := hat; rw [← hx3] at hin_ hat_
    have V_o5 := VA
    obtain ⟨co5, Aro5, qo5, So5, Mo5, Ho5, Go5⟩ := V_o5
    have hin6 : ¬ (x3 < 0 ∨ co5.slots.size ≤ (x3).toNatClampNeg) := inb_of So5 hin_
    have hat6 : co5.slots[(x3).toNatClampNeg]? = some (.int w) := Has.at Ho5 hin6 hat_
    have P7 : Rch p e below (s₁.setTop (entryFrame m #[(.ref a1), (.int p2), (.int p3), (.int p4)] 4)) (s₁.setTop (mkF m 10 #[.val (.ref a1), .val (.int p2), .val (.int p3), .val (.int p4)] [(.int w)])) := fun t k => P4 t (X0.baloadBytes hx (j := x3) (v := (.int w)) (by rw [e0]; exact Aro5.1) (State.isArrayOf_alike hZ.alike Aro5.2.1) Aro5.2.2 hin6 hat6 (g := (mkF m 9 #[.val (.ref a1), .val (.int p2), .val (.int p3), .val (.int p4)] [(.int x3), (.ref a1)])) rfl rfl (hb hby d2_9) t k)
    obtain ⟨_, _, ⟨T8, L8, k8, n8⟩, -, X8, ⟨Lc8, hQ8, l8, y8, z8⟩, st8⟩ := Jvm.LawKit.callS X0 hx (y := (⟨"com/example/carrel/carrel/server/marc/MarcRecordDigitsPinLaw", "dig", "(B)I"⟩ : MethodName)) hown (mvT hZ (hw _ (List.mem_of_getElem? (i := 22) rfl))) (mvT hZ (hw _ (List.mem_of_getElem? (i := 23) rfl))) (mvT hZ (hw _ (List.mem_of_getElem? (i := 3) rfl))) (mvT hZ (hw _ (List.mem_of_getElem? (i := 24) rfl))) (by decide) (backOf (W := 0) (rmDg l Z a0 hw [] w h0 n0 Z0 ) hZ (hw _ (List.mem_of_getElem? (i := 24) rfl)) (hw _ (List.mem_of_getElem? (i := 3) rfl)) (by decide) (by decide)) (g := (mkF m 10 #[.val (.ref a1), .val (.int p2), .val (.int p3), .val (.int p4)] [(.int w)])) rfl (by rw [hml]; rfl) (argsL := [(.int w)]) (rest := []) (lenOf pd_0 rfl) rfl (by show 2 * 0 + _ ≤ _; exact Nat.le_of_eq rfl) (hb hby d2_10) (fun _ _ => ⟨rfl, e0, (by decide : 0 + 0 ≤ _), (by decide : 0 + 0 ≤ _)⟩)
    dsimp only [Pt.U, Pt.locs, Pt.cells, Pt.slots] at X8 l8 y8 z8 st8 hQ8
    subst y8 z8
    obtain ⟨rfl, N8q, e8⟩ := hQ8
    have N8 : Fr n0 L8 := by rw [l8]; exact Fr.app N0 N8q
    have P9 : Rch p e below (s₁.setTop (entryFrame m #[(.ref a1), (.int p2), (.int p3), (.int p4)] 4)) (T8.setTop (mkF m 13 #[.val (.ref a1), .val (.int p2), .val (.int p3), .val (.int p4)] [(.int (own_digf w))])) := fun t k => P7 t (st8 t k)
    obtain ⟨x10, hx10⟩ : ∃ z : Int32, z = (own_digf w) := ⟨_, rfl⟩
    rw [← hx10] at P9
    obtain ⟨v12, hv12, P13⟩ : ∃ (v12 : Int32), v12 = (if x10 < (0 : Int32) then (1 : Int32) else (0 : Int32)) ∧ Rch p e below (s₁.setTop (entryFrame m #[(.ref a1), (.int p2), (.int p3), (.int p4)] 4)) (T8.setTop (mkF m 21 #[.val (.ref a1), .val (.int p2), .val (.int p3), .val (.int p4)] [(.int v12)])) := by
      by_cases c11 : x10 < (0 : Int32)
      · refine ⟨(1 : Int32), (by first | rfl | rw [if_pos c11] | simp only [if_pos c11]), fun t k => P9 t ?_⟩
        show Steps p.tables e below (T8.setTop (mkF m 13 #[.val (.ref a1), .val (.int p2), .val (.int p3), .val (.int p4)] [(.int x10)])) t
        refine XS.ifNo X8.here hx rfl (hb hby d2_13) rfl ((if0 _ _).trans (tlt c11).2.1) ?_
        show Steps p.tables e below (T8.setTop (mkF m 16 #[.val (.ref a1), .val (.int p2), .val (.int p3), .val (.int p4)] [])) t
        refine XS.iconst X8.here hx rfl (hb hby d2_16) ?_
        show Steps p.tables e below (T8.setTop (mkF m 17 #[.val (.ref a1), .val (.int p2), .val (.int p3), .val (.int p4)] [(.int (1 : Int32))])) t
        refine XS.goto X8.here hx rfl (pc0 := 17) (pc' := 21) rfl (hb hby d2_17) (by decide) (by decide) ?_
        exact k
      · refine ⟨(0 : Int32), (by first | rfl | rw [if_neg c11] | simp only [if_neg c11]), fun t k => P9 t ?_⟩
        show Steps p.tables e below (T8.setTop (mkF m 13 #[.val (.ref a1), .val (.int p2), .val (.int p3), .val (.int p4)] [(.int x10)])) t
        refine XS.ifYes X8.here hx rfl (pc0 := 13) (pc' := 20) rfl (hb hby d2_13) rfl ((if0 _ _).trans (flt c11).2.1) (by decide) (by decide) ?_
        show Steps p.tables e below (T8.setTop (mkF m 20 #[.val (.ref a1), .val (.int p2), .val (.int p3), .val (.int p4)] [])) t
        refine XS.iconst X8.here hx rfl (hb hby d2_20) ?_
        exact k
    have hz14 : nar .boolean v12 = v12 := by rw [hv12]; (repeat' split) <;> rfl
    obtain ⟨fs, hr, hrun, hended, hW, hsame⟩ := X8.leave (v := some (.int (nar .boolean v12))) (fun h => by rw [Bd.returns] at h; cases h)
    refine ⟨_, _, P13 _ ?_, hrun, hended, _, _, rfl, ?_, ⟨_, rfl⟩, hW, hsame.mono (by decide) (by decide)⟩
    · exact retN X8 hx (t := .boolean) Bd.returns (by simp) (hb hby d2_21) hr
    · show Q_rmBa Z a1 p2 p3 p4 kA vs w h0 n0 _ T8.heap _
      rw [e8]
      exact ⟨(by rw [hz14]; unfold own_bad; subst hv12 hx10 hx3; first | rfl | rw [if_pos c2] | simp only [if_pos c2] | simp [*]), N8, rfl⟩
  · have P15 : Rch p e below (s₁.setTop (entryFrame m #[(.ref a1), (.int p2), (.int p3), (.int p4)] 4)) (s₁.setTop (mkF m 21 #[.val (.ref a1), .val (.int p2), .val (.int p3), .val (.int p4)] [(.int (0 : Int32))])) := fun t k => P1 t (by
      show Steps p.tables e below (s₁.setTop (mkF m 2 #[.val (.ref a1), .val (.int p2), .val (.int p3), .val (.int p4)] [(.int p3), (.int p4)])) t
      refine XS.icmpYes X0.here hx rfl (pc0 := 2) (pc' := 20) rfl (hb hby d2_2) rfl (flt c2).2.1 (by decide) (by decide) ?_
      show Steps p.tables e below (s₁.setTop (mkF m 20 #[.val (.ref a1), .val (.int p2), .val (.int p3), .val (.int p4)] [])) t
      refine XS.iconst X0.here hx rfl (hb hby d2_20) ?_
      exact k)
    obtain ⟨fs, hr, hrun, hended, hW, hsame⟩ := X0.leave (v := some (.int (0 : Int32))) (fun h => by rw [Bd.returns] at h; cases h)
    refine ⟨_, _, P15 _ ?_, hrun, hended, _, _, rfl, ?_, ⟨_, rfl⟩, hW, hsame.mono (by decide) (by decide)⟩
    · exact retN X0 hx (t := .boolean) Bd.returns (by simp) (hb hby d2_21) hr
    · show Q_rmBa Z a1 p2 p3 p4 kA vs w h0 n0 _ s₁.heap _
      rw [e0]
      exact ⟨(by unfold own_bad; first | rfl | rw [if_neg c2] | simp only [if_neg c2] | simp [*]), N0, rfl⟩
def own_term (p3 : Int32) (p4 : Int32) (w : Int32) (pw : Int32) : Int32 := (if p4 < p3 then ((own_digf w) * pw) else (0 : Int32))
def Q_rmTe (Z : State) (a1 : Addr) (p2 : Int32) (p3 : Int32) (p4 : Int32) (a5 : Addr) (kA : ClassId) (vs : List Value) (w : Int32) (kP : ClassId) (vp : List Value) (pw : Int32) (h0 : Heap) (n0 : Nat) (v : Option Value) (h : Heap) (L : List Loc) : Prop := v = some (.int (own_term p3 p4 w pw)) ∧ Fr n0 L ∧ h = h0
set_option maxRecDepth 65536 in
set_option maxHeartbeats 40000000 in
theorem rmTe (l : Launch) (Z : State) (a0 : Array Value) (hw : ∀ d ∈ tables_1, d.before a0 Z = true) (ws : List Jvm.Cond) (a1 : Addr) (p2 : Int32) (p3 : Int32) (p4 : Int32) (a5 : Addr) (kA : ClassId) (vs : List Value) (w : Int32) (kP : ClassId) (vp : List Value) (pw : Int32) (h0 : Heap) (n0 : Nat) (Z0 : n0 ≤ h0.size) (VA : Arv Z h0 a1 kA .byte (12 : Int32) vs (.int (0 : Int32))) (VP : Arv Z h0 a5 kP .int (9 : Int32) vp (.int (0 : Int32))) (hin : ¬ (p2 + p4) < 0 ∧ (p2 + p4) < (12 : Int32)) (hat : vs.getD (p2 + p4).toNatClampNeg (.int (0 : Int32)) = .int w) (hpw : p4 < p3 → (¬ ((p3 - (1 : Int32)) - p4) < 0 ∧ ((p3 - (1 : Int32)) - p4) < (9 : Int32)) ∧ vp.getD ((p3 - (1 : Int32)) - p4).toNatClampNeg (.int (0 : Int32)) = .int pw) :
    MetFree l (⟨"com/example/carrel/carrel/server/marc/MarcRecordDigitsPinLaw", "term", "([BIII[I)I"⟩ : MethodName) (head1 (Jvm.Cond.code (⟨"com/example/carrel/carrel/server/marc/MarcRecordDigitsPinLaw", "term", "([BIII[I)I"⟩ : MethodName) method_5_code 5 (some .int) :: ws) ({ frames := 1, cells := 0, slots := 0, locals := 13 } : Room)) (fun a U => a = #[(.ref a1), (.int p2), (.int p3), (.int p4), (.ref a5)] ∧ Z.Warmed39 U.vm ∧ U.heap = h0) (fun _ _ _ _ _ => True) (fun _ U o U' => ∃ v L, o = .returned v ∧ Q_rmTe Z a1 p2 p3 p4 a5 kA vs w kP vp pw h0 n0 v U'.heap L ∧ FrameEnd U o U' L ({ frames := 1, cells := 0, slots := 0, locals := 13 } : Room).cells ({ frames := 1, cells := 0, slots := 0, locals := 13 } : Room).slots) := by
  refine MetFree.of_bodySF (plainFor_of_name pn_0) hisR ?_
  intro p e s m args below meth c s₁ Bd hml0 hP hK
  obtain ⟨rfl, hZ, hh⟩ := hP
  have hx := Bd.exec
  have hby := Bd.bytes
  have hml : c.maxLocals = 5 := hml0
  have hown : s.vm.findClass "com/example/carrel/carrel/server/marc/MarcRecordDigitsPinLaw" = some m.cls := findClass_of_methodNamed Bd.named
  have hnm := (name_of_methodNamed Bd.named Bd.method).1
  have X0 : Stand p l e ({ frames := 1, cells := 0, slots := 0, locals := 13 } : Room) s m #[(.ref a1), (.int p2), (.int p3), (.int p4), (.ref a5)] below meth c s₁ [] 0 0 := Stand.of_body Bd
  have e0 : s₁.heap = h0 := by rw [← hh, Bd.state]; rfl
  have N0 := Fr.nil n0
  have P0 : Rch p e below (s₁.setTop (entryFrame m #[(.ref a1), (.int p2), (.int p3), (.int p4), (.ref a5)] 5)) (s₁.setTop (mkF m 0 #[.val (.ref a1), .val (.int p2), .val (.int p3), .val (.int p4), .val (.ref a5)] [])) := fun t k => castTop (by first | (simp [entryFrame, mkF, argsToLocals, Value.category]; done) | rfl) k
  have P1 : Rch p e below (s₁.setTop (entryFrame m #[(.ref a1), (.int p2), (.int p3), (.int p4), (.ref a5)] 5)) (s₁.setTop (mkF m 2 #[.val (.ref a1), .val (.int p2), .val (.int p3), .val (.int p4), .val (.ref a5)] [(.int p3), (.int p4)])) := fun t k => P0 t (by
    show Steps p.tables e below (s₁.setTop (mkF m 0 #[.val (.ref a1), .val (.int p2), .val (.int p3), .val (.int p4), .val (.ref a5)] [])) t
    refine XS.iloadN X0.here hx rfl (hb hby d3_0) rfl ?_
    show Steps p.tables e below (s₁.setTop (mkF m 1 #[.val (.ref a1), .val (.int p2), .val (.int p3), .val (.int p4), .val (.ref a5)] [(.int p4)])) t
    refine XS.iloadN X0.here hx rfl (hb hby d3_1) rfl ?_
    exact k)
  by_cases c2 : p4 < p3
  · obtain ⟨x3, hx3⟩ : ∃ z : Int32, z = (p2 + p4) := ⟨_, rfl⟩
    have P4 : Rch p e below (s₁.setTop (entryFrame m #[(.ref a1), (.int p2), (.int p3), (.int p4), (.ref a5)] 5)) (s₁.setTop (mkF m 11 #[.val (.ref a1), .val (.int p2), .val (.int p3), .val (.int p4), .val (.ref a5)] [(.int x3), (.ref a1)])) := fun t k => P1 t (by
      subst hx3
      show Steps p.tables e below (s₁.setTop (mkF m 2 #[.val (.ref a1), .val (.int p2), .val (.int p3), .val (.int p4), .val (.ref a5)] [(.int p3), (.int p4)])) t
      refine XS.icmpYes X0.here hx rfl (pc0 := 2) (pc' := 7) rfl (hb hby d3_2) rfl (tlt c2).1 (by decide) (by decide) ?_
      show Steps p.tables e below (s₁.setTop (mkF m 7 #[.val (.ref a1), .val (.int p2), .val (.int p3), .val (.int p4), .val (.ref a5)] [])) t
      refine XS.aloadN X0.here hx rfl (hb hby d3_7) rfl rfl ?_
      show Steps p.tables e below (s₁.setTop (mkF m 8 #[.val (.ref a1), .val (.int p2), .val (.int p3), .val (.int p4), .val (.ref a5)] [(.ref a1)])) t
      refine XS.iloadN X0.here hx rfl (hb hby d3_8) rfl ?_
      show Steps p.tables e below (s₁.setTop (mkF m 9 #[.val (.ref a1), .val (.int p2), .val (.int p3), .val (.int p4), .val (.ref a5)] [(.int p2), (.ref a1)])) t
      refine XS.iloadN X0.here hx rfl (hb hby d3_9) rfl ?_
      show Steps p.tables e below (s₁.setTop (mkF m 10 #[.val (.ref a1), .val (.int p2), .val (.int p3), .val (.int p4), .val (.ref a5)] [(.int p4), (.int p2), (.ref a1)])) t
      refine XS.iadd X0.here hx rfl (hb hby d3_10) rfl ?_
      exact k)
    have hin_ := hin; have hat_ := hat; rw [← hx3] at hin_ hat_
    have V_o5 := VA
    obtain ⟨co5, Aro5, qo5, So5, Mo5, Ho5, Go5⟩ := V_o5
    have hin6 : ¬ (x3 < 0 ∨ co5.slots.size ≤ (x3).toNatClampNeg) := inb_of So5 hin_
    have hat6 : co5.slots[(x3).toNatClampNeg]? = some (.int w) := Has.at Ho5 hin6 hat_
    have P7 : Rch p e below (s₁.setTop (entryFrame m #[(.ref a1), (.int p2), (.int p3), (.int p4), (.ref a5)] 5)) (s₁.setTop (mkF m 12 #[.val (.ref a1), .val (.int p2), .val (.int p3), .val (.int p4), .val (.ref a5)] [(.int w)])) := fun t k => P4 t (X0.baloadBytes hx (j := x3) (v := (.int w)) (by rw [e0]; exact Aro5.1) (State.isArrayOf_alike hZ.alike Aro5.2.1) Aro5.2.2 hin6 hat6 (g := (mkF m 11 #[.val (.ref a1), .val (.int p2), .val (.int p3), .val (.int p4), .val (.ref a5)] [(.int x3), (.ref a1)])) rfl rfl (hb hby d3_11) t k)
    obtain ⟨_, _, ⟨T8, L8, k8, n8⟩, -, X8, ⟨Lc8, hQ8, l8, y8, z8⟩, st8⟩ := Jvm.LawKit.callS X0 hx (y := (⟨"com/example/carrel/carrel/server/marc/MarcRecordDigitsPinLaw", "dig", "(B)I"⟩ : MethodName)) hown (mvT hZ (hw _ (List.mem_of_getElem? (i := 22) rfl))) (mvT hZ (hw _ (List.mem_of_getElem? (i := 23) rfl))) (mvT hZ (hw _ (List.mem_of_getElem? (i := 3) rfl))) (mvT hZ (hw _ (List.mem_of_getElem? (i := 24) rfl))) (by decide) (backOf (W := 0) (rmDg l Z a0 hw [] w h0 n0 Z0 ) hZ (hw _ (List.mem_of_getElem? (i := 24) rfl)) (hw _ (List.mem_of_getElem? (i := 3) rfl)) (by decide) (by decide)) (g := (mkF m 12 #[.val (.ref a1), .val (.int p2), .val (.int p3), .val (.int p4), .val (.ref a5)] [(.int w)])) rfl (by rw [hml]; rfl) (argsL := [(.int w)]) (rest := []) (lenOf pd_0 rfl) rfl (by show 2 * 0 + _ ≤ _; exact Nat.le_of_eq rfl) (hb hby d3_12) (fun _ _ => ⟨rfl, e0, (by decide : 0 + 0 ≤ _), (by decide : 0 + 0 ≤ _)⟩)
    dsimp only [Pt.U, Pt.locs, Pt.cells, Pt.slots] at X8 l8 y8 z8 st8 hQ8
    subst y8 z8
    obtain ⟨rfl, N8q, e8⟩ := hQ8
    have N8 : Fr n0 L8 := by rw [l8]; exact Fr.app N0 N8q
    have P9 : Rch p e below (s₁.setTop (entryFrame m #[(.ref a1), (.int p2), (.int p3), (.int p4), (.ref a5)] 5)) (T8.setTop (mkF m 15 #[.val (.ref a1), .val (.int p2), .val (.int p3), .val (.int p4), .val (.ref a5)] [(.int (own_digf w))])) := fun t k => P7 t (st8 t k)
    obtain ⟨x10, hx10⟩ : ∃ z : Int32, z = (own_digf w) := ⟨_, rfl⟩
    rw [← hx10] at P9
    obtain ⟨x11, hx11⟩ : ∃ z : Int32, z = ((p3 - (1 : Int32)) - p4) := ⟨_, rfl⟩
    have P12 : Rch p e below (s₁.setTop (entryFrame m #[(.ref a1), (.int p2), (.int p3), (.int p4), (.ref a5)] 5)) (T8.setTop (mkF m 22 #[.val (.ref a1), .val (.int p2), .val (.int p3), .val (.int p4), .val (.ref a5)] [(.int x11), (.ref a5), (.int x10)])) := fun t k => P9 t (by
      subst hx11
      show Steps p.tables e below (T8.setTop (mkF m 15 #[.val (.ref a1), .val (.int p2), .val (.int p3), .val (.int p4), .val (.ref a5)] [(.int x10)])) t
      refine XS.aload X8.here hx rfl (hb hby d3_15) rfl rfl ?_
      show Steps p.tables e below (T8.setTop (mkF m 17 #[.val (.ref a1), .val (.int p2), .val (.int p3), .val (.int p4), .val (.ref a5)] [(.ref a5), (.int x10)])) t
      refine XS.iloadN X8.here hx rfl (hb hby d3_17) rfl ?_
      show Steps p.tables e below (T8.setTop (mkF m 18 #[.val (.ref a1), .val (.int p2), .val (.int p3), .val (.int p4), .val (.ref a5)] [(.int p3), (.ref a5), (.int x10)])) t
      refine XS.iconst X8.here hx rfl (hb hby d3_18) ?_
      show Steps p.tables e below (T8.setTop (mkF m 19 #[.val (.ref a1), .val (.int p2), .val (.int p3), .val (.int p4), .val (.ref a5)] [(.int (1 : Int32)), (.int p3), (.ref a5), (.int x10)])) t
      refine XS.isub X8.here hx rfl (hb hby d3_19) rfl ?_
      show Steps p.tables e below (T8.setTop (mkF m 20 #[.val (.ref a1), .val (.int p2), .val (.int p3), .val (.int p4), .val (.ref a5)] [(.int (p3 - (1 : Int32))), (.ref a5), (.int x10)])) t
      refine XS.iloadN X8.here hx rfl (hb hby d3_20) rfl ?_
      show Steps p.tables e below (T8.setTop (mkF m 21 #[.val (.ref a1), .val (.int p2), .val (.int p3), .val (.int p4), .val (.ref a5)] [(.int p4), (.int (p3 - (1 : Int32))), (.ref a5), (.int x10)])) t
      refine XS.isub X8.here hx rfl (hb hby d3_21) rfl ?_
      exact k)
    obtain ⟨hin2_, hat2_⟩ := hpw c2
    rw [← hx11] at hin2_ hat2_
    have V_o13 := VP
    obtain ⟨co13, Aro13, qo13, So13, Mo13, Ho13, Go13⟩ := V_o13
    have hin14 : ¬ (x11 < 0 ∨ co13.slots.size ≤ (x11).toNatClampNeg) := inb_of So13 hin2_
    have hat14 : co13.slots[(x11).toNatClampNeg]? = some (.int pw) := Has.at Ho13 hin14 hat2_
    have P15 : Rch p e below (s₁.setTop (entryFrame m #[(.ref a1), (.int p2), (.int p3), (.int p4), (.ref a5)] 5)) (T8.setTop (mkF m 23 #[.val (.ref a1), .val (.int p2), .val (.int p3), .val (.int p4), .val (.ref a5)] [(.int pw), (.int x10)])) := fun t k => P12 t (X8.iaload hx (j := x11) (v := (.int pw)) (by rw [e8]; exact Aro13.1) (State.isArrayOf_alike hZ.alike Aro13.2.1) Aro13.2.2 hin14 hat14 (g := (mkF m 22 #[.val (.ref a1), .val (.int p2), .val (.int p3), .val (.int p4), .val (.ref a5)] [(.int x11), (.ref a5), (.int x10)])) rfl rfl (hb hby d3_22) t k)
    obtain ⟨x16, hx16⟩ : ∃ z : Int32, z = (x10 * pw) := ⟨_, rfl⟩
    have P17 : Rch p e below (s₁.setTop (entryFrame m #[(.ref a1), (.int p2), (.int p3), (.int p4), (.ref a5)] 5)) (T8.setTop (mkF m 24 #[.val (.ref a1), .val (.int p2), .val (.int p3), .val (.int p4), .val (.ref a5)] [(.int x16)])) := fun t k => P15 t (by
      subst hx16
      show Steps p.tables e below (T8.setTop (mkF m 23 #[.val (.ref a1), .val (.int p2), .val (.int p3), .val (.int p4), .val (.ref a5)] [(.int pw), (.int x10)])) t
      refine XS.imul X8.here hx rfl (hb hby d3_23) rfl ?_
      exact k)
    obtain ⟨fs, hr, hrun, hended, hW, hsame⟩ := X8.leave (v := some (.int x16)) (fun h => by rw [Bd.returns] at h; cases h)
    refine ⟨_, _, P17 _ ?_, hrun, hended, _, _, rfl, ?_, ⟨_, rfl⟩, hW, hsame.mono (by decide) (by decide)⟩
    · exact retI X8 hx Bd.returns (hb hby d3_24) hr
    · show Q_rmTe Z a1 p2 p3 p4 a5 kA vs w kP vp pw h0 n0 _ T8.heap _
      rw [e8]
      exact ⟨(by unfold own_term; subst hx16 hx11 hx10 hx3; first | rfl | rw [if_pos c2] | simp only [if_pos c2] | simp [*]), N8, rfl⟩
  · have P18 : Rch p e below (s₁.setTop (entryFrame m #[(.ref a1), (.int p2), (.int p3), (.int p4), (.ref a5)] 5)) (s₁.setTop (mkF m 6 #[.val (.ref a1), .val (.int p2), .val (.int p3), .val (.int p4), .val (.ref a5)] [(.int (0 : Int32))])) := fun t k => P1 t (by
      show Steps p.tables e below (s₁.setTop (mkF m 2 #[.val (.ref a1), .val (.int p2), .val (.int p3), .val (.int p4), .val (.ref a5)] [(.int p3), (.int p4)])) t
      refine XS.icmpNo X0.here hx rfl (hb hby d3_2) rfl (flt c2).1 ?_
      show Steps p.tables e below (s₁.setTop (mkF m 5 #[.val (.ref a1), .val (.int p2), .val (.int p3), .val (.int p4), .val (.ref a5)] [])) t
      refine XS.iconst X0.here hx rfl (hb hby d3_5) ?_
      exact k)
    obtain ⟨fs, hr, hrun, hended, hW, hsame⟩ := X0.leave (v := some (.int (0 : Int32))) (fun h => by rw [Bd.returns] at h; cases h)
    refine ⟨_, _, P18 _ ?_, hrun, hended, _, _, rfl, ?_, ⟨_, rfl⟩, hW, hsame.mono (by decide) (by decide)⟩
    · exact retI X0 hx Bd.returns (hb hby d3_6) hr
    · show Q_rmTe Z a1 p2 p3 p4 a5 kA vs w kP vp pw h0 n0 _ s₁.heap _
      rw [e0]
      exact ⟨(by unfold own_term; first | rfl | rw [if_neg c2] | simp only [if_neg c2] | simp [*]), N0, rfl⟩
theorem own_len1 (d : Int32) (r : List Int32) : ((d :: r).length : Int) = (r.length : Int) + 1 := by simp
def own_badL : List Int32 → Bool
  | [] => false
  | d :: r => decide (d < (48 : Int32)) || decide ((57 : Int32) < d) || own_badL r
def own_F : Int32 → List Int32 → Int32
  | v, [] => v
  | v, d :: r => own_F (((v * (10 : Int32)) + d) - (48 : Int32)) r
def own_digits (ls : List Int32) : Int32 := if own_badL ls = true then (-1 : Int32) else own_F (0 : Int32) ls
theorem own_shift {vs : List Value} {i j' : Int32} {d : Int32} {r : List Int32} (h0 : 0 ≤ i.toInt) (ei : j'.toInt = i.toInt + 1) (h3 : ∀ j, j < (d :: r).length → vs.getD (i.toInt.toNat + j) (.int (0 : Int32)) = .int ((d :: r).getD j 0)) : ∀ j, j < r.length → vs.getD (j'.toInt.toNat + j) (.int (0 : Int32)) = .int (r.getD j 0) := by
  intro j hj
  have q := h3 (j + 1) (by simpa using hj)
  rw [ei, show (i.toInt + 1).toNat + j = i.toInt.toNat + (j + 1) by omega, q]; simp
theorem own_sum {p2 p3 : Int32} {n : Nat} (hf0 : 0 ≤ p2.toInt) (hc0 : p3.toInt = (n : Int)) (hf1 : p2.toInt + p3.toInt ≤ 12) : (p2 + p3).toInt = p2.toInt + p3.toInt := by
  have a := c_iadd p2 p3; have r := rng32 (p2 + p3); omega
theorem own_lt1 {p2 p3 i : Int32} {n : Nat} (hf0 : 0 ≤ p2.toInt) (hc0 : p3.toInt = (n : Int)) (hf1 : p2.toInt + p3.toInt ≤ 12) (h : i.toInt < p2.toInt + p3.toInt) : i < (p2 + p3) := by
  rw [Int32.lt_iff_toInt_lt, own_sum hf0 hc0 hf1]; exact h
theorem own_lt2 {p2 p3 i : Int32} {n : Nat} (hf0 : 0 ≤ p2.toInt) (hc0 : p3.toInt = (n : Int)) (hf1 : p2.toInt + p3.toInt ≤ 12) (h : i.toInt = p2.toInt + p3.toInt) : ¬ (i < (p2 + p3)) := by
  rw [Int32.lt_iff_toInt_lt, own_sum hf0 hc0 hf1]; omega
theorem own_in12 {i : Int32} (h0 : 0 ≤ i.toInt) (h1 : i.toInt < 12) : ¬ i < 0 ∧ i < (12 : Int32) := by
  rw [Int32.lt_iff_toInt_lt, Int32.lt_iff_toInt_lt]; exact ⟨by show ¬ _ < (0 : Int); omega, by show _ < (12 : Int); omega⟩
theorem own_inc {i : Int32} (h0 : 0 ≤ i.toInt) (h1 : i.toInt < 12) : (i + (1 : Int32)).toInt = i.toInt + 1 := by
  have a := c_iadd i 1; have r := rng32 (i + 1); have e : (1 : Int32).toInt = 1 := rfl; omega
def Q_rmDi (Z : State) (a1 : Addr) (p2 : Int32) (p3 : Int32) (kA : ClassId) (vs : List Value) (ls : List Int32) (h0 : Heap) (n0 : Nat) (v : Option Value) (h : Heap) (L : List Loc) : Prop := v = some (.int (own_digits ls)) ∧ Fr n0 L ∧ h = h0
set_option maxRecDepth 65536 in
set_option maxHeartbeats 40000000 in
theorem rmDi (l : Launch) (Z : State) (a0 : Array Value) (hw : ∀ d ∈ tables_1, d.before a0 Z = true) (ws : List Jvm.Cond) (a1 : Addr) (p2 : Int32) (p3 : Int32) (kA : ClassId) (vs : List Value) (ls : List Int32) (h0 : Heap) (n0 : Nat) (Z0 : n0 ≤ h0.size) (VA : Arv Z h0 a1 kA .byte (12 : Int32) vs (.int (0 : Int32))) (hf0 : 0 ≤ p2.toInt) (hc0 : p3.toInt = (ls.length : Int)) (hf1 : p2.toInt + p3.toInt ≤ 12) (hls : ∀ j, j < ls.length → vs.getD (p2.toInt.toNat + j) (.int (0 : Int32)) = .int (ls.getD j 0)) :
    MetFree l (⟨"com/example/carrel/carrel/server/marc/MarcRecord", "digits", "([BII)I"⟩ : MethodName) (head1 (Jvm.Cond.code (⟨"com/example/carrel/carrel/server/marc/MarcRecord", "digits", "([BII)I"⟩ : MethodName) prog_103_method_11_code 5 (some .int) :: ws) ({ frames := 0, cells := 0, slots := 0, locals := 0 } : Room)) (fun a U => a = #[(.ref a1), (.int p2), (.int p3)] ∧ Z.Warmed39 U.vm ∧ U.heap = h0) (fun _ _ _ _ _ => True) (fun _ U o U' => ∃ v L, o = .returned v ∧ Q_rmDi Z a1 p2 p3 kA vs ls h0 n0 v U'.heap L ∧ FrameEnd U o U' L ({ frames := 0, cells := 0, slots := 0, locals := 0 } : Room).cells ({ frames := 0, cells := 0, slots := 0, locals := 0 } : Room).slots) := by
  refine MetFree.of_bodySF (plainFor_of_name pn_1) hisR ?_
  intro p e s m args below meth c s₁ Bd hml0 hP hK
  obtain ⟨rfl, hZ, hh⟩ := hP
  have hx := Bd.exec
  have hby := Bd.bytes
  have hml : c.maxLocals = 5 := hml0
  have hown : s.vm.findClass "com/example/carrel/carrel/server/marc/MarcRecord" = some m.cls := findClass_of_methodNamed Bd.named
  have hnm := (name_of_methodNamed Bd.named Bd.method).1
  have X0 : Stand p l e ({ frames := 0, cells := 0, slots := 0, locals := 0 } : Room) s m #[(.ref a1), (.int p2), (.int p3)] below meth c s₁ [] 0 0 := Stand.of_body Bd
  have e0 : s₁.heap = h0 := by rw [← hh, Bd.state]; rfl
  have N0 := Fr.nil n0
  have P0 : Rch p e below (s₁.setTop (entryFrame m #[(.ref a1), (.int p2), (.int p3)] 5)) (s₁.setTop (mkF m 0 #[.val (.ref a1), .val (.int p2), .val (.int p3), .unset, .unset] [])) := fun t k => castTop (by first | (simp [entryFrame, mkF, argsToLocals, Value.category]; done) | rfl) k
  have P1 : Rch p e below (s₁.setTop (entryFrame m #[(.ref a1), (.int p2), (.int p3)] 5)) (s₁.setTop (mkF m 5 #[.val (.ref a1), .val (.int p2), .val (.int p3), .val (.int (0 : Int32)), .val (.int p2)] [])) := fun t k => P0 t (by
    show Steps p.tables e below (s₁.setTop (mkF m 0 #[.val (.ref a1), .val (.int p2), .val (.int p3), .unset, .unset] [])) t
    refine XS.iconst X0.here hx rfl (hb hby d4_0) ?_
    show Steps p.tables e below (s₁.setTop (mkF m 1 #[.val (.ref a1), .val (.int p2), .val (.int p3), .unset, .unset] [(.int (0 : Int32))])) t
    refine XS.istoreN X0.here hx rfl (hb hby d4_1) rfl (l' := #[.val (.ref a1), .val (.int p2), .val (.int p3), .val (.int (0 : Int32)), .unset]) rfl ?_
    show Steps p.tables e below (s₁.setTop (mkF m 2 #[.val (.ref a1), .val (.int p2), .val (.int p3), .val (.int (0 : Int32)), .unset] [])) t
    refine XS.iloadN X0.here hx rfl (hb hby d4_2) rfl ?_
    show Steps p.tables e below (s₁.setTop (mkF m 3 #[.val (.ref a1), .val (.int p2), .val (.int p3), .val (.int (0 : Int32)), .unset] [(.int p2)])) t
    refine XS.istore X0.here hx rfl (hb hby d4_3) rfl (l' := #[.val (.ref a1), .val (.int p2), .val (.int p3), .val (.int (0 : Int32)), .val (.int p2)]) rfl ?_
    exact k)
  have loop : ∀ (L : List Int32) (i v : Int32), 0 ≤ i.toInt → i.toInt + (L.length : Int) = p2.toInt + p3.toInt → (∀ j, j < L.length → vs.getD (i.toInt.toNat + j) (.int (0 : Int32)) = .int (L.getD j 0)) → Rch p e below (s₁.setTop (entryFrame m #[(.ref a1), (.int p2), (.int p3)] 5)) (s₁.setTop (mkF m 5 #[.val (.ref a1), .val (.int p2), .val (.int p3), .val (.int v), .val (.int i)] [])) → (own_badL L = true ∧ ∃ i' v' : Int32, Rch p e below (s₁.setTop (entryFrame m #[(.ref a1), (.int p2), (.int p3)] 5)) (s₁.setTop (mkF m 31 #[.val (.ref a1), .val (.int p2), .val (.int p3), .val (.int v'), .val (.int i')] []))) ∨ (own_badL L = false ∧ ∃ i' : Int32, Rch p e below (s₁.setTop (entryFrame m #[(.ref a1), (.int p2), (.int p3)] 5)) (s₁.setTop (mkF m 52 #[.val (.ref a1), .val (.int p2), .val (.int p3), .val (.int (own_F v L)), .val (.int i')] []))) := by
    intro L
    induction L with
    | nil =>
      intro i v h0_ h1_ h3_ Pk
      have hc_ : ¬ (i < (p2 + p3)) := own_lt2 hf0 hc0 hf1 (by simpa using h1_)
      have P2 : Rch p e below (s₁.setTop (entryFrame m #[(.ref a1), (.int p2), (.int p3)] 5)) (s₁.setTop (mkF m 52 #[.val (.ref a1), .val (.int p2), .val (.int p3), .val (.int v), .val (.int i)] [])) := fun t k => Pk t (by
        show Steps p.tables e below (s₁.setTop (mkF m 5 #[.val (.ref a1), .val (.int p2), .val (.int p3), .val (.int v), .val (.int i)] [])) t
        refine XS.iload X0.here hx rfl (hb hby d4_5) rfl ?_
        show Steps p.tables e below (s₁.setTop (mkF m 7 #[.val (.ref a1), .val (.int p2), .val (.int p3), .val (.int v), .val (.int i)] [(.int i)])) t
        refine XS.iloadN X0.here hx rfl (hb hby d4_7) rfl ?_
        show Steps p.tables e below (s₁.setTop (mkF m 8 #[.val (.ref a1), .val (.int p2), .val (.int p3), .val (.int v), .val (.int i)] [(.int p2), (.int i)])) t
        refine XS.iloadN X0.here hx rfl (hb hby d4_8) rfl ?_
        show Steps p.tables e below (s₁.setTop (mkF m 9 #[.val (.ref a1), .val (.int p2), .val (.int p3), .val (.int v), .val (.int i)] [(.int p3), (.int p2), (.int i)])) t
        refine XS.iadd X0.here hx rfl (hb hby d4_9) rfl ?_
        show Steps p.tables e below (s₁.setTop (mkF m 10 #[.val (.ref a1), .val (.int p2), .val (.int p3), .val (.int v), .val (.int i)] [(.int (p2 + p3)), (.int i)])) t
        refine XS.icmpYes X0.here hx rfl (pc0 := 10) (pc' := 52) rfl (hb hby d4_10) rfl (flt hc_).2.1 (by decide) (by decide) ?_
        exact k)
      exact Or.inr ⟨rfl, i, P2⟩
    | cons d r ih =>
      intro i v h0_ h1_ h3_ Pk
      have hc_ : i < (p2 + p3) := own_lt1 hf0 hc0 hf1 (by have := own_len1 d r; omega)
      have hin_ : ¬ i < 0 ∧ i < (12 : Int32) := own_in12 h0_ (by have := own_len1 d r; omega)
      have hat_ : vs.getD (i).toNatClampNeg (.int (0 : Int32)) = .int d := by simpa using h3_ 0 (by simp)
      by_cases c1_ : d < (48 : Int32)
      · skip
        have P3 : Rch p e below (s₁.setTop (entryFrame m #[(.ref a1), (.int p2), (.int p3)] 5)) (s₁.setTop (mkF m 16 #[.val (.ref a1), .val (.int p2), .val (.int p3), .val (.int v), .val (.int i)] [(.int i), (.ref a1)])) := fun t k => Pk t (by
          show Steps p.tables e below (s₁.setTop (mkF m 5 #[.val (.ref a1), .val (.int p2), .val (.int p3), .val (.int v), .val (.int i)] [])) t
          refine XS.iload X0.here hx rfl (hb hby d4_5) rfl ?_
          show Steps p.tables e below (s₁.setTop (mkF m 7 #[.val (.ref a1), .val (.int p2), .val (.int p3), .val (.int v), .val (.int i)] [(.int i)])) t
          refine XS.iloadN X0.here hx rfl (hb hby d4_7) rfl ?_
          show Steps p.tables e below (s₁.setTop (mkF m 8 #[.val (.ref a1), .val (.int p2), .val (.int p3), .val (.int v), .val (.int i)] [(.int p2), (.int i)])) t
          refine XS.iloadN X0.here hx rfl (hb hby d4_8) rfl ?_
          show Steps p.tables e below (s₁.setTop (mkF m 9 #[.val (.ref a1), .val (.int p2), .val (.int p3), .val (.int v), .val (.int i)] [(.int p3), (.int p2), (.int i)])) t
          refine XS.iadd X0.here hx rfl (hb hby d4_9) rfl ?_
          show Steps p.tables e below (s₁.setTop (mkF m 10 #[.val (.ref a1), .val (.int p2), .val (.int p3), .val (.int v), .val (.int i)] [(.int (p2 + p3)), (.int i)])) t
          refine XS.icmpNo X0.here hx rfl (hb hby d4_10) rfl (tlt hc_).2.1 ?_
          show Steps p.tables e below (s₁.setTop (mkF m 13 #[.val (.ref a1), .val (.int p2), .val (.int p3), .val (.int v), .val (.int i)] [])) t
          refine XS.aloadN X0.here hx rfl (hb hby d4_13) rfl rfl ?_
          show Steps p.tables e below (s₁.setTop (mkF m 14 #[.val (.ref a1), .val (.int p2), .val (.int p3), .val (.int v), .val (.int i)] [(.ref a1)])) t
          refine XS.iload X0.here hx rfl (hb hby d4_14) rfl ?_
          exact k)
        have V_o4 := VA
        obtain ⟨co4, Aro4, qo4, So4, Mo4, Ho4, Go4⟩ := V_o4
        have hin5 : ¬ (i < 0 ∨ co4.slots.size ≤ (i).toNatClampNeg) := inb_of So4 hin_
        have hat5 : co4.slots[(i).toNatClampNeg]? = some (.int d) := Has.at Ho4 hin5 hat_
        have P6 : Rch p e below (s₁.setTop (entryFrame m #[(.ref a1), (.int p2), (.int p3)] 5)) (s₁.setTop (mkF m 17 #[.val (.ref a1), .val (.int p2), .val (.int p3), .val (.int v), .val (.int i)] [(.int d)])) := fun t k => P3 t (X0.baloadBytes hx (j := i) (v := (.int d)) (by rw [e0]; exact Aro4.1) (State.isArrayOf_alike hZ.alike Aro4.2.1) Aro4.2.2 hin5 hat5 (g := (mkF m 16 #[.val (.ref a1), .val (.int p2), .val (.int p3), .val (.int v), .val (.int i)] [(.int i), (.ref a1)])) rfl rfl (hb hby d4_16) t k)
        have P7 : Rch p e below (s₁.setTop (entryFrame m #[(.ref a1), (.int p2), (.int p3)] 5)) (s₁.setTop (mkF m 31 #[.val (.ref a1), .val (.int p2), .val (.int p3), .val (.int v), .val (.int i)] [])) := fun t k => P6 t (by
          show Steps p.tables e below (s₁.setTop (mkF m 17 #[.val (.ref a1), .val (.int p2), .val (.int p3), .val (.int v), .val (.int i)] [(.int d)])) t
          refine XS.bipush X0.here hx rfl (hb hby d4_17) ?_
          show Steps p.tables e below (s₁.setTop (mkF m 19 #[.val (.ref a1), .val (.int p2), .val (.int p3), .val (.int v), .val (.int i)] [(.int (48 : Int32)), (.int d)])) t
          refine XS.icmpYes X0.here hx rfl (pc0 := 19) (pc' := 31) rfl (hb hby d4_19) rfl (tlt c1_).1 (by decide) (by decide) ?_
          exact k)
        exact Or.inl ⟨by simp [own_badL, c1_], i, v, P7⟩
      by_cases c2_ : (57 : Int32) < d
      · skip
        have P8 : Rch p e below (s₁.setTop (entryFrame m #[(.ref a1), (.int p2), (.int p3)] 5)) (s₁.setTop (mkF m 16 #[.val (.ref a1), .val (.int p2), .val (.int p3), .val (.int v), .val (.int i)] [(.int i), (.ref a1)])) := fun t k => Pk t (by
          show Steps p.tables e below (s₁.setTop (mkF m 5 #[.val (.ref a1), .val (.int p2), .val (.int p3), .val (.int v), .val (.int i)] [])) t
          refine XS.iload X0.here hx rfl (hb hby d4_5) rfl ?_
          show Steps p.tables e below (s₁.setTop (mkF m 7 #[.val (.ref a1), .val (.int p2), .val (.int p3), .val (.int v), .val (.int i)] [(.int i)])) t
          refine XS.iloadN X0.here hx rfl (hb hby d4_7) rfl ?_
          show Steps p.tables e below (s₁.setTop (mkF m 8 #[.val (.ref a1), .val (.int p2), .val (.int p3), .val (.int v), .val (.int i)] [(.int p2), (.int i)])) t
          refine XS.iloadN X0.here hx rfl (hb hby d4_8) rfl ?_
          show Steps p.tables e below (s₁.setTop (mkF m 9 #[.val (.ref a1), .val (.int p2), .val (.int p3), .val (.int v), .val (.int i)] [(.int p3), (.int p2), (.int i)])) t
          refine XS.iadd X0.here hx rfl (hb hby d4_9) rfl ?_
          show Steps p.tables e below (s₁.setTop (mkF m 10 #[.val (.ref a1), .val (.int p2), .val (.int p3), .val (.int v), .val (.int i)] [(.int (p2 + p3)), (.int i)])) t
          refine XS.icmpNo X0.here hx rfl (hb hby d4_10) rfl (tlt hc_).2.1 ?_
          show Steps p.tables e below (s₁.setTop (mkF m 13 #[.val (.ref a1), .val (.int p2), .val (.int p3), .val (.int v), .val (.int i)] [])) t
          refine XS.aloadN X0.here hx rfl (hb hby d4_13) rfl rfl ?_
          show Steps p.tables e below (s₁.setTop (mkF m 14 #[.val (.ref a1), .val (.int p2), .val (.int p3), .val (.int v), .val (.int i)] [(.ref a1)])) t
          refine XS.iload X0.here hx rfl (hb hby d4_14) rfl ?_
          exact k)
        have V_o9 := VA
        obtain ⟨co9, Aro9, qo9, So9, Mo9, Ho9, Go9⟩ := V_o9
        have hin10 : ¬ (i < 0 ∨ co9.slots.size ≤ (i).toNatClampNeg) := inb_of So9 hin_
        have hat10 : co9.slots[(i).toNatClampNeg]? = some (.int d) := Has.at Ho9 hin10 hat_
        have P11 : Rch p e below (s₁.setTop (entryFrame m #[(.ref a1), (.int p2), (.int p3)] 5)) (s₁.setTop (mkF m 17 #[.val (.ref a1), .val (.int p2), .val (.int p3), .val (.int v), .val (.int i)] [(.int d)])) := fun t k => P8 t (X0.baloadBytes hx (j := i) (v := (.int d)) (by rw [e0]; exact Aro9.1) (State.isArrayOf_alike hZ.alike Aro9.2.1) Aro9.2.2 hin10 hat10 (g := (mkF m 16 #[.val (.ref a1), .val (.int p2), .val (.int p3), .val (.int v), .val (.int i)] [(.int i), (.ref a1)])) rfl rfl (hb hby d4_16) t k)
        have P12 : Rch p e below (s₁.setTop (entryFrame m #[(.ref a1), (.int p2), (.int p3)] 5)) (s₁.setTop (mkF m 25 #[.val (.ref a1), .val (.int p2), .val (.int p3), .val (.int v), .val (.int i)] [(.int i), (.ref a1)])) := fun t k => P11 t (by
          show Steps p.tables e below (s₁.setTop (mkF m 17 #[.val (.ref a1), .val (.int p2), .val (.int p3), .val (.int v), .val (.int i)] [(.int d)])) t
          refine XS.bipush X0.here hx rfl (hb hby d4_17) ?_
          show Steps p.tables e below (s₁.setTop (mkF m 19 #[.val (.ref a1), .val (.int p2), .val (.int p3), .val (.int v), .val (.int i)] [(.int (48 : Int32)), (.int d)])) t
          refine XS.icmpNo X0.here hx rfl (hb hby d4_19) rfl (flt c1_).1 ?_
          show Steps p.tables e below (s₁.setTop (mkF m 22 #[.val (.ref a1), .val (.int p2), .val (.int p3), .val (.int v), .val (.int i)] [])) t
          refine XS.aloadN X0.here hx rfl (hb hby d4_22) rfl rfl ?_
          show Steps p.tables e below (s₁.setTop (mkF m 23 #[.val (.ref a1), .val (.int p2), .val (.int p3), .val (.int v), .val (.int i)] [(.ref a1)])) t
          refine XS.iload X0.here hx rfl (hb hby d4_23) rfl ?_
          exact k)
        have V_o13 := VA
        obtain ⟨co13, Aro13, qo13, So13, Mo13, Ho13, Go13⟩ := V_o13
        have hin14 : ¬ (i < 0 ∨ co13.slots.size ≤ (i).toNatClampNeg) := inb_of So13 hin_
        have hat14 : co13.slots[(i).toNatClampNeg]? = some (.int d) := Has.at Ho13 hin14 hat_
        have P15 : Rch p e below (s₁.setTop (entryFrame m #[(.ref a1), (.int p2), (.int p3)] 5)) (s₁.setTop (mkF m 26 #[.val (.ref a1), .val (.int p2), .val (.int p3), .val (.int v), .val (.int i)] [(.int d)])) := fun t k => P12 t (X0.baloadBytes hx (j := i) (v := (.int d)) (by rw [e0]; exact Aro13.1) (State.isArrayOf_alike hZ.alike Aro13.2.1) Aro13.2.2 hin14 hat14 (g := (mkF m 25 #[.val (.ref a1), .val (.int p2), .val (.int p3), .val (.int v), .val (.int i)] [(.int i), (.ref a1)])) rfl rfl (hb hby d4_25) t k)
        have P16 : Rch p e below (s₁.setTop (entryFrame m #[(.ref a1), (.int p2), (.int p3)] 5)) (s₁.setTop (mkF m 31 #[.val (.ref a1), .val (.int p2), .val (.int p3), .val (.int v), .val (.int i)] [])) := fun t k => P15 t (by
          show Steps p.tables e below (s₁.setTop (mkF m 26 #[.val (.ref a1), .val (.int p2), .val (.int p3), .val (.int v), .val (.int i)] [(.int d)])) t
          refine XS.bipush X0.here hx rfl (hb hby d4_26) ?_
          show Steps p.tables e below (s₁.setTop (mkF m 28 #[.val (.ref a1), .val (.int p2), .val (.int p3), .val (.int v), .val (.int i)] [(.int (57 : Int32)), (.int d)])) t
          refine XS.icmpNo X0.here hx rfl (hb hby d4_28) rfl (tlt c2_).2.2.2 ?_
          exact k)
        exact Or.inl ⟨by simp [own_badL, c2_], i, v, P16⟩
      have P17 : Rch p e below (s₁.setTop (entryFrame m #[(.ref a1), (.int p2), (.int p3)] 5)) (s₁.setTop (mkF m 16 #[.val (.ref a1), .val (.int p2), .val (.int p3), .val (.int v), .val (.int i)] [(.int i), (.ref a1)])) := fun t k => Pk t (by
        show Steps p.tables e below (s₁.setTop (mkF m 5 #[.val (.ref a1), .val (.int p2), .val (.int p3), .val (.int v), .val (.int i)] [])) t
        refine XS.iload X0.here hx rfl (hb hby d4_5) rfl ?_
        show Steps p.tables e below (s₁.setTop (mkF m 7 #[.val (.ref a1), .val (.int p2), .val (.int p3), .val (.int v), .val (.int i)] [(.int i)])) t
        refine XS.iloadN X0.here hx rfl (hb hby d4_7) rfl ?_
        show Steps p.tables e below (s₁.setTop (mkF m 8 #[.val (.ref a1), .val (.int p2), .val (.int p3), .val (.int v), .val (.int i)] [(.int p2), (.int i)])) t
        refine XS.iloadN X0.here hx rfl (hb hby d4_8) rfl ?_
        show Steps p.tables e below (s₁.setTop (mkF m 9 #[.val (.ref a1), .val (.int p2), .val (.int p3), .val (.int v), .val (.int i)] [(.int p3), (.int p2), (.int i)])) t
        refine XS.iadd X0.here hx rfl (hb hby d4_9) rfl ?_
        show Steps p.tables e below (s₁.setTop (mkF m 10 #[.val (.ref a1), .val (.int p2), .val (.int p3), .val (.int v), .val (.int i)] [(.int (p2 + p3)), (.int i)])) t
        refine XS.icmpNo X0.here hx rfl (hb hby d4_10) rfl (tlt hc_).2.1 ?_
        show Steps p.tables e below (s₁.setTop (mkF m 13 #[.val (.ref a1), .val (.int p2), .val (.int p3), .val (.int v), .val (.int i)] [])) t
        refine XS.aloadN X0.here hx rfl (hb hby d4_13) rfl rfl ?_
        show Steps p.tables e below (s₁.setTop (mkF m 14 #[.val (.ref a1), .val (.int p2), .val (.int p3), .val (.int v), .val (.int i)] [(.ref a1)])) t
        refine XS.iload X0.here hx rfl (hb hby d4_14) rfl ?_
        exact k)
      have V_o18 := VA
      obtain ⟨co18, Aro18, qo18, So18, Mo18, Ho18, Go18⟩ := V_o18
      have hin19 : ¬ (i < 0 ∨ co18.slots.size ≤ (i).toNatClampNeg) := inb_of So18 hin_
      have hat19 : co18.slots[(i).toNatClampNeg]? = some (.int d) := Has.at Ho18 hin19 hat_
      have P20 : Rch p e below (s₁.setTop (entryFrame m #[(.ref a1), (.int p2), (.int p3)] 5)) (s₁.setTop (mkF m 17 #[.val (.ref a1), .val (.int p2), .val (.int p3), .val (.int v), .val (.int i)] [(.int d)])) := fun t k => P17 t (X0.baloadBytes hx (j := i) (v := (.int d)) (by rw [e0]; exact Aro18.1) (State.isArrayOf_alike hZ.alike Aro18.2.1) Aro18.2.2 hin19 hat19 (g := (mkF m 16 #[.val (.ref a1), .val (.int p2), .val (.int p3), .val (.int v), .val (.int i)] [(.int i), (.ref a1)])) rfl rfl (hb hby d4_16) t k)
      have P21 : Rch p e below (s₁.setTop (entryFrame m #[(.ref a1), (.int p2), (.int p3)] 5)) (s₁.setTop (mkF m 25 #[.val (.ref a1), .val (.int p2), .val (.int p3), .val (.int v), .val (.int i)] [(.int i), (.ref a1)])) := fun t k => P20 t (by
        show Steps p.tables e below (s₁.setTop (mkF m 17 #[.val (.ref a1), .val (.int p2), .val (.int p3), .val (.int v), .val (.int i)] [(.int d)])) t
        refine XS.bipush X0.here hx rfl (hb hby d4_17) ?_
        show Steps p.tables e below (s₁.setTop (mkF m 19 #[.val (.ref a1), .val (.int p2), .val (.int p3), .val (.int v), .val (.int i)] [(.int (48 : Int32)), (.int d)])) t
        refine XS.icmpNo X0.here hx rfl (hb hby d4_19) rfl (flt c1_).1 ?_
        show Steps p.tables e below (s₁.setTop (mkF m 22 #[.val (.ref a1), .val (.int p2), .val (.int p3), .val (.int v), .val (.int i)] [])) t
        refine XS.aloadN X0.here hx rfl (hb hby d4_22) rfl rfl ?_
        show Steps p.tables e below (s₁.setTop (mkF m 23 #[.val (.ref a1), .val (.int p2), .val (.int p3), .val (.int v), .val (.int i)] [(.ref a1)])) t
        refine XS.iload X0.here hx rfl (hb hby d4_23) rfl ?_
        exact k)
      have V_o22 := VA
      obtain ⟨co22, Aro22, qo22, So22, Mo22, Ho22, Go22⟩ := V_o22
      have hin23 : ¬ (i < 0 ∨ co22.slots.size ≤ (i).toNatClampNeg) := inb_of So22 hin_
      have hat23 : co22.slots[(i).toNatClampNeg]? = some (.int d) := Has.at Ho22 hin23 hat_
      have P24 : Rch p e below (s₁.setTop (entryFrame m #[(.ref a1), (.int p2), (.int p3)] 5)) (s₁.setTop (mkF m 26 #[.val (.ref a1), .val (.int p2), .val (.int p3), .val (.int v), .val (.int i)] [(.int d)])) := fun t k => P21 t (X0.baloadBytes hx (j := i) (v := (.int d)) (by rw [e0]; exact Aro22.1) (State.isArrayOf_alike hZ.alike Aro22.2.1) Aro22.2.2 hin23 hat23 (g := (mkF m 25 #[.val (.ref a1), .val (.int p2), .val (.int p3), .val (.int v), .val (.int i)] [(.int i), (.ref a1)])) rfl rfl (hb hby d4_25) t k)
      obtain ⟨x25, hx25⟩ : ∃ z : Int32, z = (v * (10 : Int32)) := ⟨_, rfl⟩
      have P26 : Rch p e below (s₁.setTop (entryFrame m #[(.ref a1), (.int p2), (.int p3)] 5)) (s₁.setTop (mkF m 40 #[.val (.ref a1), .val (.int p2), .val (.int p3), .val (.int v), .val (.int i)] [(.int i), (.ref a1), (.int x25)])) := fun t k => P24 t (by
        subst hx25
        show Steps p.tables e below (s₁.setTop (mkF m 26 #[.val (.ref a1), .val (.int p2), .val (.int p3), .val (.int v), .val (.int i)] [(.int d)])) t
        refine XS.bipush X0.here hx rfl (hb hby d4_26) ?_
        show Steps p.tables e below (s₁.setTop (mkF m 28 #[.val (.ref a1), .val (.int p2), .val (.int p3), .val (.int v), .val (.int i)] [(.int (57 : Int32)), (.int d)])) t
        refine XS.icmpYes X0.here hx rfl (pc0 := 28) (pc' := 33) rfl (hb hby d4_28) rfl (flt c2_).2.2.2 (by decide) (by decide) ?_
        show Steps p.tables e below (s₁.setTop (mkF m 33 #[.val (.ref a1), .val (.int p2), .val (.int p3), .val (.int v), .val (.int i)] [])) t
        refine XS.iloadN X0.here hx rfl (hb hby d4_33) rfl ?_
        show Steps p.tables e below (s₁.setTop (mkF m 34 #[.val (.ref a1), .val (.int p2), .val (.int p3), .val (.int v), .val (.int i)] [(.int v)])) t
        refine XS.bipush X0.here hx rfl (hb hby d4_34) ?_
        show Steps p.tables e below (s₁.setTop (mkF m 36 #[.val (.ref a1), .val (.int p2), .val (.int p3), .val (.int v), .val (.int i)] [(.int (10 : Int32)), (.int v)])) t
        refine XS.imul X0.here hx rfl (hb hby d4_36) rfl ?_
        show Steps p.tables e below (s₁.setTop (mkF m 37 #[.val (.ref a1), .val (.int p2), .val (.int p3), .val (.int v), .val (.int i)] [(.int (v * (10 : Int32)))])) t
        refine XS.aloadN X0.here hx rfl (hb hby d4_37) rfl rfl ?_
        show Steps p.tables e below (s₁.setTop (mkF m 38 #[.val (.ref a1), .val (.int p2), .val (.int p3), .val (.int v), .val (.int i)] [(.ref a1), (.int (v * (10 : Int32)))])) t
        refine XS.iload X0.here hx rfl (hb hby d4_38) rfl ?_
        exact k)
      have V_o27 := VA
      obtain ⟨co27, Aro27, qo27, So27, Mo27, Ho27, Go27⟩ := V_o27
      have hin28 : ¬ (i < 0 ∨ co27.slots.size ≤ (i).toNatClampNeg) := inb_of So27 hin_
      have hat28 : co27.slots[(i).toNatClampNeg]? = some (.int d) := Has.at Ho27 hin28 hat_
      have P29 : Rch p e below (s₁.setTop (entryFrame m #[(.ref a1), (.int p2), (.int p3)] 5)) (s₁.setTop (mkF m 41 #[.val (.ref a1), .val (.int p2), .val (.int p3), .val (.int v), .val (.int i)] [(.int d), (.int x25)])) := fun t k => P26 t (X0.baloadBytes hx (j := i) (v := (.int d)) (by rw [e0]; exact Aro27.1) (State.isArrayOf_alike hZ.alike Aro27.2.1) Aro27.2.2 hin28 hat28 (g := (mkF m 40 #[.val (.ref a1), .val (.int p2), .val (.int p3), .val (.int v), .val (.int i)] [(.int i), (.ref a1), (.int x25)])) rfl rfl (hb hby d4_40) t k)
      obtain ⟨x30, hx30⟩ : ∃ z : Int32, z = ((x25 + d) - (48 : Int32)) := ⟨_, rfl⟩
      obtain ⟨x31, hx31⟩ : ∃ z : Int32, z = (i + (1 : Int32)) := ⟨_, rfl⟩
      have P32 : Rch p e below (s₁.setTop (entryFrame m #[(.ref a1), (.int p2), (.int p3)] 5)) (s₁.setTop (mkF m 5 #[.val (.ref a1), .val (.int p2), .val (.int p3), .val (.int x30), .val (.int x31)] [])) := fun t k => P29 t (by
        subst hx30 hx31
        show Steps p.tables e below (s₁.setTop (mkF m 41 #[.val (.ref a1), .val (.int p2), .val (.int p3), .val (.int v), .val (.int i)] [(.int d), (.int x25)])) t
        refine XS.iadd X0.here hx rfl (hb hby d4_41) rfl ?_
        show Steps p.tables e below (s₁.setTop (mkF m 42 #[.val (.ref a1), .val (.int p2), .val (.int p3), .val (.int v), .val (.int i)] [(.int (x25 + d))])) t
        refine XS.bipush X0.here hx rfl (hb hby d4_42) ?_
        show Steps p.tables e below (s₁.setTop (mkF m 44 #[.val (.ref a1), .val (.int p2), .val (.int p3), .val (.int v), .val (.int i)] [(.int (48 : Int32)), (.int (x25 + d))])) t
        refine XS.isub X0.here hx rfl (hb hby d4_44) rfl ?_
        show Steps p.tables e below (s₁.setTop (mkF m 45 #[.val (.ref a1), .val (.int p2), .val (.int p3), .val (.int v), .val (.int i)] [(.int ((x25 + d) - (48 : Int32)))])) t
        refine XS.istoreN X0.here hx rfl (hb hby d4_45) rfl (l' := #[.val (.ref a1), .val (.int p2), .val (.int p3), .val (.int ((x25 + d) - (48 : Int32))), .val (.int i)]) rfl ?_
        show Steps p.tables e below (s₁.setTop (mkF m 46 #[.val (.ref a1), .val (.int p2), .val (.int p3), .val (.int ((x25 + d) - (48 : Int32))), .val (.int i)] [])) t
        refine XS.iinc X0.here hx rfl (hb hby d4_46) rfl (l' := #[.val (.ref a1), .val (.int p2), .val (.int p3), .val (.int ((x25 + d) - (48 : Int32))), .val (.int (i + (1 : Int32)))]) rfl ?_
        show Steps p.tables e below (s₁.setTop (mkF m 49 #[.val (.ref a1), .val (.int p2), .val (.int p3), .val (.int ((x25 + d) - (48 : Int32))), .val (.int (i + (1 : Int32)))] [])) t
        refine XS.goto X0.here hx rfl (pc0 := 49) (pc' := 5) rfl (hb hby d4_49) (by decide) (by decide) ?_
        exact k)
      have ei_ : (i + (1 : Int32)).toInt = i.toInt + 1 := own_inc h0_ (by have := own_len1 d r; omega)
      have nx_ := ih (i + (1 : Int32)) (((v * (10 : Int32)) + d) - (48 : Int32)) (by rw [ei_]; omega) (by have := own_len1 d r; rw [ei_]; omega) (own_shift h0_ ei_ h3_) (by subst hx31 hx30 hx25; exact P32)
      have eb_ : own_badL (d :: r) = own_badL r := by simp [own_badL, c1_, c2_]
      rw [eb_]; exact nx_
  rcases loop ls p2 (0 : Int32) hf0 (by rw [hc0]) hls P1 with ⟨hb_, i', v', Pb_⟩ | ⟨hb_, i', Pb_⟩
  · have P33 : Rch p e below (s₁.setTop (entryFrame m #[(.ref a1), (.int p2), (.int p3)] 5)) (s₁.setTop (mkF m 32 #[.val (.ref a1), .val (.int p2), .val (.int p3), .val (.int v'), .val (.int i')] [(.int (-1 : Int32))])) := fun t k => Pb_ t (by
      show Steps p.tables e below (s₁.setTop (mkF m 31 #[.val (.ref a1), .val (.int p2), .val (.int p3), .val (.int v'), .val (.int i')] [])) t
      refine XS.iconst X0.here hx rfl (hb hby d4_31) ?_
      exact k)
    obtain ⟨fs, hr, hrun, hended, hW, hsame⟩ := X0.leave (v := some (.int (-1 : Int32))) (fun h => by rw [Bd.returns] at h; cases h)
    refine ⟨_, _, P33 _ ?_, hrun, hended, _, _, rfl, ?_, ⟨_, rfl⟩, hW, hsame.mono (by decide) (by decide)⟩
    · exact retI X0 hx Bd.returns (hb hby d4_32) hr
    · show Q_rmDi Z a1 p2 p3 kA vs ls h0 n0 _ s₁.heap _
      rw [e0]
      exact ⟨(by unfold own_digits; rw [if_pos hb_]), N0, rfl⟩
  · obtain ⟨x34, hx34⟩ : ∃ z : Int32, z = (own_F (0 : Int32) ls) := ⟨_, rfl⟩
    have P35 : Rch p e below (s₁.setTop (entryFrame m #[(.ref a1), (.int p2), (.int p3)] 5)) (s₁.setTop (mkF m 53 #[.val (.ref a1), .val (.int p2), .val (.int p3), .val (.int x34), .val (.int i')] [(.int x34)])) := fun t k => Pb_ t (by
      subst hx34
      show Steps p.tables e below (s₁.setTop (mkF m 52 #[.val (.ref a1), .val (.int p2), .val (.int p3), .val (.int (own_F (0 : Int32) ls)), .val (.int i')] [])) t
      refine XS.iloadN X0.here hx rfl (hb hby d4_52) rfl ?_
      exact k)
    obtain ⟨fs, hr, hrun, hended, hW, hsame⟩ := X0.leave (v := some (.int x34)) (fun h => by rw [Bd.returns] at h; cases h)
    refine ⟨_, _, P35 _ ?_, hrun, hended, _, _, rfl, ?_, ⟨_, rfl⟩, hW, hsame.mono (by decide) (by decide)⟩
    · exact retI X0 hx Bd.returns (hb hby d4_53) hr
    · show Q_rmDi Z a1 p2 p3 kA vs ls h0 n0 _ s₁.heap _
      rw [e0]
      exact ⟨(by rw [hx34]; unfold own_digits; rw [if_neg (by rw [hb_]; decide)]), N0, rfl⟩

def own_pows : List Int32 := [(1 : Int32), (10 : Int32), (100 : Int32), (1000 : Int32), (10000 : Int32), (100000 : Int32), (1000000 : Int32), (10000000 : Int32), (100000000 : Int32)]
def own_W (D : List Int32) (f k : Int32) : Int32 := D.getD (f + k).toNatClampNeg 0
def own_pw (c k : Int32) : Int32 := own_pows.getD ((c - (1 : Int32)) - k).toNatClampNeg 0
def own_win (D : List Int32) (f c : Int32) : List Int32 := (List.range c.toInt.toNat).map fun j => D.getD (f.toInt.toNat + j) 0
theorem own_gd : ∀ (L : List Int32) (i : Nat), (L.map Value.int).getD i (.int (0 : Int32)) = .int (L.getD i 0)
  | [], i => by simp
  | a :: r, 0 => rfl
  | a :: r, i + 1 => by simpa using own_gd r i
theorem own_nb (x : Int32) : -128 ≤ (nar .byte x).toInt ∧ (nar .byte x).toInt ≤ 127 := by
  have := c_i2b x
  show -128 ≤ x.toInt8.toInt32.toInt ∧ x.toInt8.toInt32.toInt ≤ 127
  omega
theorem own_rg : ∀ (L : List Int32) (i : Nat), -128 ≤ ((L.map (nar .byte)).getD i 0).toInt ∧ ((L.map (nar .byte)).getD i 0).toInt ≤ 127
  | [], i => by simp
  | a :: r, 0 => own_nb a
  | a :: r, i + 1 => by simpa using own_rg r i
theorem own_f3 (y : Int32) : 0 ≤ (y &&& (3 : Int32)).toInt ∧ (y &&& (3 : Int32)).toInt ≤ 3 := by
  have := c_mask y 3 2 (by decide) (by decide); rw [this]; omega
theorem own_c9 (y : Int32) : 0 ≤ ((y &&& (2147483647 : Int32)) % (10 : Int32)).toInt ∧ ((y &&& (2147483647 : Int32)) % (10 : Int32)).toInt ≤ 9 := by
  have m := c_mask y 2147483647 31 (by decide) (by decide)
  have q := (c_irem (y &&& 2147483647) 10 10 rfl).1 (by omega)
  omega
theorem own_fk {f k : Int32} (hf : 0 ≤ f.toInt ∧ f.toInt ≤ 3) (h0 : 0 ≤ k.toInt) (h1 : k.toInt ≤ 8) : ¬ (f + k) < 0 ∧ (f + k) < (12 : Int32) := by
  have a := c_iadd f k; have r := rng32 (f + k)
  rw [Int32.lt_iff_toInt_lt, Int32.lt_iff_toInt_lt]
  exact ⟨by show ¬ _ < (0 : Int); omega, by show _ < (12 : Int); omega⟩
theorem own_pk {c k : Int32} (hc : 0 ≤ c.toInt ∧ c.toInt ≤ 9) (h0 : 0 ≤ k.toInt) (h1 : k < c) : ¬ ((c - (1 : Int32)) - k) < 0 ∧ ((c - (1 : Int32)) - k) < (9 : Int32) := by
  rw [Int32.lt_iff_toInt_lt] at h1
  have a := c_isub c 1; have r := rng32 (c - 1); have a2 := c_isub (c - 1) k; have r2 := rng32 (c - 1 - k); have e : (1 : Int32).toInt = 1 := rfl
  rw [Int32.lt_iff_toInt_lt, Int32.lt_iff_toInt_lt]
  exact ⟨by show ¬ _ < (0 : Int); omega, by show _ < (9 : Int); omega⟩
theorem own_wl (D : List Int32) (f : Int32) {c : Int32} (h : 0 ≤ c.toInt) : c.toInt = ((own_win D f c).length : Int) := by
  unfold own_win; rw [List.length_map, List.length_range]; omega
theorem own_wg {V : List Value} {D : List Int32} (h : ∀ i, V.getD i (.int (0 : Int32)) = .int (D.getD i 0)) (f c : Int32) : ∀ j, j < (own_win D f c).length → V.getD (f.toInt.toNat + j) (.int (0 : Int32)) = .int ((own_win D f c).getD j 0) := by
  intro j hj
  rw [h]
  have hj' : j < c.toInt.toNat := by unfold own_win at hj; rwa [List.length_map, List.length_range] at hj
  congr 1
  unfold own_win
  generalize c.toInt.toNat = n at *
  generalize f.toInt.toNat = a at *
  rw [List.getD_eq_getElem?_getD (l := List.map _ _), List.getElem?_map, List.getElem?_range hj']; rfl

def own_p10 : Nat → Int32
  | 0 => 1
  | n + 1 => own_p10 n * 10
def own_S : List Int32 → Int32
  | [] => 0
  | d :: r => (d - 48) * own_p10 r.length + own_S r
theorem own_FS : ∀ (L : List Int32) (v : Int32), own_F v L = v * own_p10 L.length + own_S L
  | [], v => by simp [own_F, own_p10, own_S]
  | d :: r, v => by
    show own_F (((v * (10 : Int32)) + d) - (48 : Int32)) r = v * (own_p10 r.length * 10) + ((d - 48) * own_p10 r.length + own_S r)
    rw [own_FS r, show v * (10 : Int32) + d - 48 = v * 10 + (d - 48) by rw [Int32.sub_eq_add_neg, Int32.add_assoc, ← Int32.sub_eq_add_neg], Int32.add_mul, Int32.mul_assoc, Int32.mul_comm 10, Int32.add_assoc]
def own_bd (d : Int32) : Bool := decide (d < (48 : Int32)) || decide ((57 : Int32) < d)
theorem own_dgb (d : Int32) (h : -128 ≤ d.toInt ∧ d.toInt ≤ 127) : (own_bd d = true → own_digf d = -1) ∧ (own_bd d = false → own_digf d = d - 48 ∧ ¬ (own_digf d < 0)) := by
  have m := c_mask d 255 8 (by decide) (by decide)
  have e48 : (48 : Int32).toInt = 48 := rfl
  have e57 : (57 : Int32).toInt = 57 := rfl
  unfold own_bd own_digf
  by_cases h1 : d < (48 : Int32)
  · have h1' := Int32.lt_iff_toInt_lt.mp h1
    refine ⟨fun _ => ?_, fun q => by simp [h1] at q⟩
    by_cases h2 : (d &&& (255 : Int32)) < (48 : Int32)
    · rw [if_pos h2]
    · rw [if_neg h2]
      have h2' : ¬ (d &&& (255 : Int32)).toInt < (48 : Int32).toInt := fun q => h2 (Int32.lt_iff_toInt_lt.mpr q)
      rw [if_pos (Int32.lt_iff_toInt_lt.mpr (by omega))]
  · have h1' : ¬ d.toInt < (48 : Int32).toInt := fun q => h1 (Int32.lt_iff_toInt_lt.mpr q)
    have e : (d &&& (255 : Int32)) = d := Int32.toInt_inj.mp (by rw [m]; omega)
    rw [e, if_neg h1]
    by_cases h2 : (57 : Int32) < d
    · refine ⟨fun _ => if_pos h2, fun q => by simp [h2] at q⟩
    · have h2' : ¬ (57 : Int32).toInt < d.toInt := fun q => h2 (Int32.lt_iff_toInt_lt.mpr q)
      refine ⟨fun q => by simp [h1, h2] at q, fun _ => ⟨if_neg h2, ?_⟩⟩
      rw [if_neg h2, Int32.lt_iff_toInt_lt]
      have s := c_isub d 48; have r := rng32 (d - 48); have e0 : (0 : Int32).toInt = 0 := rfl
      omega
theorem own_bad1 {c k w : Int32} (hw : -128 ≤ w.toInt ∧ w.toInt ≤ 127) (hk : k < c) (hb : own_bd w = true) : own_bad c k w = 1 := by
  unfold own_bad; rw [if_pos hk, (own_dgb w hw).1 hb]; rfl
theorem own_bad0 {c k w : Int32} (hw : -128 ≤ w.toInt ∧ w.toInt ≤ 127) (hb : own_bd w = false) : own_bad c k w = 0 := by
  unfold own_bad; split
  · rw [if_neg ((own_dgb w hw).2 hb).2]
  · rfl
theorem own_badn {c k w : Int32} (hk : ¬ k < c) : own_bad c k w = 0 := by unfold own_bad; rw [if_neg hk]
theorem own_termg {c k w p : Int32} (hw : -128 ≤ w.toInt ∧ w.toInt ≤ 127) (hk : k < c) (hb : own_bd w = false) : own_term c k w p = (w - 48) * p := by
  unfold own_term; rw [if_pos hk, ((own_dgb w hw).2 hb).1]
theorem own_termn {c k w p : Int32} (hk : ¬ k < c) : own_term c k w p = 0 := by unfold own_term; rw [if_neg hk]
theorem own_Wk (D : List Int32) (f k : Int32) (n : Nat) (hf : 0 ≤ f.toInt ∧ f.toInt ≤ 3) (hk : k.toInt = (n : Int)) (hn : n ≤ 8) : own_W D f k = D.getD (f.toInt.toNat + n) 0 := by
  unfold own_W
  have a := c_iadd f k; have r := rng32 (f + k)
  congr 1
  show (f + k).toInt.toNat = _
  omega
theorem own_bL (d : Int32) (r : List Int32) : own_badL (d :: r) = (own_bd d || own_badL r) := rfl

theorem own_main (D : List Int32) (hD : ∀ i, -128 ≤ (D.getD i 0).toInt ∧ (D.getD i 0).toInt ≤ 127) (f c : Int32) (hf : 0 ≤ f.toInt ∧ f.toInt ≤ 3) (hc : 0 ≤ c.toInt ∧ c.toInt ≤ 9) : own_digits (own_win D f c) = (if (if (own_bad c (0 : Int32) (own_W D f (0 : Int32))) = (0 : Int32) then (if (own_bad c (1 : Int32) (own_W D f (1 : Int32))) = (0 : Int32) then (if (own_bad c (2 : Int32) (own_W D f (2 : Int32))) = (0 : Int32) then (if (own_bad c (3 : Int32) (own_W D f (3 : Int32))) = (0 : Int32) then (if (own_bad c (4 : Int32) (own_W D f (4 : Int32))) = (0 : Int32) then (if (own_bad c (5 : Int32) (own_W D f (5 : Int32))) = (0 : Int32) then (if (own_bad c (6 : Int32) (own_W D f (6 : Int32))) = (0 : Int32) then (if (own_bad c (7 : Int32) (own_W D f (7 : Int32))) = (0 : Int32) then (if (own_bad c (8 : Int32) (own_W D f (8 : Int32))) = (0 : Int32) then (0 : Int32) else (1 : Int32)) else (1 : Int32)) else (1 : Int32)) else (1 : Int32)) else (1 : Int32)) else (1 : Int32)) else (1 : Int32)) else (1 : Int32)) else (1 : Int32)) = (0 : Int32) then (((((((((own_term c (0 : Int32) (own_W D f (0 : Int32)) (own_pw c (0 : Int32))) + (own_term c (1 : Int32) (own_W D f (1 : Int32)) (own_pw c (1 : Int32)))) + (own_term c (2 : Int32) (own_W D f (2 : Int32)) (own_pw c (2 : Int32)))) + (own_term c (3 : Int32) (own_W D f (3 : Int32)) (own_pw c (3 : Int32)))) + (own_term c (4 : Int32) (own_W D f (4 : Int32)) (own_pw c (4 : Int32)))) + (own_term c (5 : Int32) (own_W D f (5 : Int32)) (own_pw c (5 : Int32)))) + (own_term c (6 : Int32) (own_W D f (6 : Int32)) (own_pw c (6 : Int32)))) + (own_term c (7 : Int32) (own_W D f (7 : Int32)) (own_pw c (7 : Int32)))) + (own_term c (8 : Int32) (own_W D f (8 : Int32)) (own_pw c (8 : Int32)))) else (-1 : Int32)) := by
  have w0 := own_Wk D f 0 0 hf rfl (by decide)
  have w1 := own_Wk D f 1 1 hf rfl (by decide)
  have w2 := own_Wk D f 2 2 hf rfl (by decide)
  have w3 := own_Wk D f 3 3 hf rfl (by decide)
  have w4 := own_Wk D f 4 4 hf rfl (by decide)
  have w5 := own_Wk D f 5 5 hf rfl (by decide)
  have w6 := own_Wk D f 6 6 hf rfl (by decide)
  have w7 := own_Wk D f 7 7 hf rfl (by decide)
  have w8 := own_Wk D f 8 8 hf rfl (by decide)
  rw [w0, w1, w2, w3, w4, w5, w6, w7, w8]
  have hc' : c = 0 ∨ c = 1 ∨ c = 2 ∨ c = 3 ∨ c = 4 ∨ c = 5 ∨ c = 6 ∨ c = 7 ∨ c = 8 ∨ c = 9 := by
    have g : ∀ n : Int32, c.toInt = n.toInt → c = n := fun n h => Int32.toInt_inj.mp h
    have h : c.toInt = 0 ∨ c.toInt = 1 ∨ c.toInt = 2 ∨ c.toInt = 3 ∨ c.toInt = 4 ∨ c.toInt = 5 ∨ c.toInt = 6 ∨ c.toInt = 7 ∨ c.toInt = 8 ∨ c.toInt = 9 := by omega
    rcases h with h | h | h | h | h | h | h | h | h | h
    · exact Or.inl (g 0 h)
    · exact Or.inr (Or.inl (g 1 h))
    · exact Or.inr (Or.inr (Or.inl (g 2 h)))
    · exact Or.inr (Or.inr (Or.inr (Or.inl (g 3 h))))
    · exact Or.inr (Or.inr (Or.inr (Or.inr (Or.inl (g 4 h)))))
    · exact Or.inr (Or.inr (Or.inr (Or.inr (Or.inr (Or.inl (g 5 h))))))
    · exact Or.inr (Or.inr (Or.inr (Or.inr (Or.inr (Or.inr (Or.inl (g 6 h)))))))
    · exact Or.inr (Or.inr (Or.inr (Or.inr (Or.inr (Or.inr (Or.inr (Or.inl (g 7 h))))))))
    · exact Or.inr (Or.inr (Or.inr (Or.inr (Or.inr (Or.inr (Or.inr (Or.inr (Or.inl (g 8 h)))))))))
    · exact Or.inr (Or.inr (Or.inr (Or.inr (Or.inr (Or.inr (Or.inr (Or.inr (Or.inr (g 9 h)))))))))
  rcases hc' with rfl | rfl | rfl | rfl | rfl | rfl | rfl | rfl | rfl | rfl
  · rw [show own_win D f 0 = [] from rfl]
    generalize D.getD (f.toInt.toNat + 0) 0 = a0 at *
    generalize D.getD (f.toInt.toNat + 1) 0 = a1 at *
    generalize D.getD (f.toInt.toNat + 2) 0 = a2 at *
    generalize D.getD (f.toInt.toNat + 3) 0 = a3 at *
    generalize D.getD (f.toInt.toNat + 4) 0 = a4 at *
    generalize D.getD (f.toInt.toNat + 5) 0 = a5 at *
    generalize D.getD (f.toInt.toNat + 6) 0 = a6 at *
    generalize D.getD (f.toInt.toNat + 7) 0 = a7 at *
    generalize D.getD (f.toInt.toNat + 8) 0 = a8 at *
    unfold own_digits; rw [if_neg (by decide)]
    rw [own_badn (c := 0) (k := 0) (by decide), own_badn (c := 0) (k := 1) (by decide), own_badn (c := 0) (k := 2) (by decide), own_badn (c := 0) (k := 3) (by decide), own_badn (c := 0) (k := 4) (by decide), own_badn (c := 0) (k := 5) (by decide), own_badn (c := 0) (k := 6) (by decide), own_badn (c := 0) (k := 7) (by decide), own_badn (c := 0) (k := 8) (by decide), own_FS]
    rw [own_termn (c := 0) (k := 0) (by decide), own_termn (c := 0) (k := 1) (by decide), own_termn (c := 0) (k := 2) (by decide), own_termn (c := 0) (k := 3) (by decide), own_termn (c := 0) (k := 4) (by decide), own_termn (c := 0) (k := 5) (by decide), own_termn (c := 0) (k := 6) (by decide), own_termn (c := 0) (k := 7) (by decide), own_termn (c := 0) (k := 8) (by decide)]
    show 0 * _ + own_S [] = if (0 : Int32) = 0 then _ else _
    rw [if_pos rfl, Int32.zero_mul, Int32.zero_add]
    rfl
  · rw [show own_win D f 1 = [D.getD (f.toInt.toNat + 0) 0] from rfl]
    have r0 := hD (f.toInt.toNat + 0)
    generalize D.getD (f.toInt.toNat + 0) 0 = a0 at *
    generalize D.getD (f.toInt.toNat + 1) 0 = a1 at *
    generalize D.getD (f.toInt.toNat + 2) 0 = a2 at *
    generalize D.getD (f.toInt.toNat + 3) 0 = a3 at *
    generalize D.getD (f.toInt.toNat + 4) 0 = a4 at *
    generalize D.getD (f.toInt.toNat + 5) 0 = a5 at *
    generalize D.getD (f.toInt.toNat + 6) 0 = a6 at *
    generalize D.getD (f.toInt.toNat + 7) 0 = a7 at *
    generalize D.getD (f.toInt.toNat + 8) 0 = a8 at *
    by_cases b0 : own_bd a0 = true
    · unfold own_digits; rw [if_pos (by simp [own_bL, b0])]; rw [own_bad1 r0 (by decide) b0]; rfl
    have b0 := Bool.eq_false_iff.mpr b0
    unfold own_digits; rw [if_neg (by simp only [own_bL, b0, Bool.false_or]; decide)]
    rw [own_bad0 r0 b0, own_badn (c := 1) (k := 1) (by decide), own_badn (c := 1) (k := 2) (by decide), own_badn (c := 1) (k := 3) (by decide), own_badn (c := 1) (k := 4) (by decide), own_badn (c := 1) (k := 5) (by decide), own_badn (c := 1) (k := 6) (by decide), own_badn (c := 1) (k := 7) (by decide), own_badn (c := 1) (k := 8) (by decide), own_FS]
    rw [own_termg r0 (by decide) b0, own_termn (c := 1) (k := 1) (by decide), own_termn (c := 1) (k := 2) (by decide), own_termn (c := 1) (k := 3) (by decide), own_termn (c := 1) (k := 4) (by decide), own_termn (c := 1) (k := 5) (by decide), own_termn (c := 1) (k := 6) (by decide), own_termn (c := 1) (k := 7) (by decide), own_termn (c := 1) (k := 8) (by decide)]
    rw [show own_pw 1 0 = 1 from by decide]
    show 0 * _ + own_S [a0] = if (0 : Int32) = 0 then _ else _
    rw [if_pos rfl, Int32.zero_mul, Int32.zero_add]
    rw [show own_S [a0] = (a0 - 48) * 1 from by simp only [own_S, List.length_cons, List.length_nil, show own_p10 0 = 1 from by decide, Int32.add_zero]]
    simp only [Int32.add_assoc, Int32.add_zero, Int32.zero_add]
  · rw [show own_win D f 2 = [D.getD (f.toInt.toNat + 0) 0, D.getD (f.toInt.toNat + 1) 0] from rfl]
    have r0 := hD (f.toInt.toNat + 0)
    have r1 := hD (f.toInt.toNat + 1)
    generalize D.getD (f.toInt.toNat + 0) 0 = a0 at *
    generalize D.getD (f.toInt.toNat + 1) 0 = a1 at *
    generalize D.getD (f.toInt.toNat + 2) 0 = a2 at *
    generalize D.getD (f.toInt.toNat + 3) 0 = a3 at *
    generalize D.getD (f.toInt.toNat + 4) 0 = a4 at *
    generalize D.getD (f.toInt.toNat + 5) 0 = a5 at *
    generalize D.getD (f.toInt.toNat + 6) 0 = a6 at *
    generalize D.getD (f.toInt.toNat + 7) 0 = a7 at *
    generalize D.getD (f.toInt.toNat + 8) 0 = a8 at *
    by_cases b0 : own_bd a0 = true
    · unfold own_digits; rw [if_pos (by simp [own_bL, b0])]; rw [own_bad1 r0 (by decide) b0]; rfl
    have b0 := Bool.eq_false_iff.mpr b0
    by_cases b1 : own_bd a1 = true
    · unfold own_digits; rw [if_pos (by simp [own_bL, b0, b1])]; rw [own_bad0 r0 b0, own_bad1 r1 (by decide) b1]; rfl
    have b1 := Bool.eq_false_iff.mpr b1
    unfold own_digits; rw [if_neg (by simp only [own_bL, b0, b1, Bool.false_or]; decide)]
    rw [own_bad0 r0 b0, own_bad0 r1 b1, own_badn (c := 2) (k := 2) (by decide), own_badn (c := 2) (k := 3) (by decide), own_badn (c := 2) (k := 4) (by decide), own_badn (c := 2) (k := 5) (by decide), own_badn (c := 2) (k := 6) (by decide), own_badn (c := 2) (k := 7) (by decide), own_badn (c := 2) (k := 8) (by decide), own_FS]
    rw [own_termg r0 (by decide) b0, own_termg r1 (by decide) b1, own_termn (c := 2) (k := 2) (by decide), own_termn (c := 2) (k := 3) (by decide), own_termn (c := 2) (k := 4) (by decide), own_termn (c := 2) (k := 5) (by decide), own_termn (c := 2) (k := 6) (by decide), own_termn (c := 2) (k := 7) (by decide), own_termn (c := 2) (k := 8) (by decide)]
    rw [show own_pw 2 0 = 10 from by decide, show own_pw 2 1 = 1 from by decide]
    show 0 * _ + own_S [a0, a1] = if (0 : Int32) = 0 then _ else _
    rw [if_pos rfl, Int32.zero_mul, Int32.zero_add]
    rw [show own_S [a0, a1] = (a0 - 48) * 10 + ((a1 - 48) * 1) from by simp only [own_S, List.length_cons, List.length_nil, show own_p10 (0 + 1) = 10 from by decide, show own_p10 0 = 1 from by decide, Int32.add_zero]]
    simp only [Int32.add_assoc, Int32.add_zero, Int32.zero_add]
  · rw [show own_win D f 3 = [D.getD (f.toInt.toNat + 0) 0, D.getD (f.toInt.toNat + 1) 0, D.getD (f.toInt.toNat + 2) 0] from rfl]
    have r0 := hD (f.toInt.toNat + 0)
    have r1 := hD (f.toInt.toNat + 1)
    have r2 := hD (f.toInt.toNat + 2)
    generalize D.getD (f.toInt.toNat + 0) 0 = a0 at *
    generalize D.getD (f.toInt.toNat + 1) 0 = a1 at *
    generalize D.getD (f.toInt.toNat + 2) 0 = a2 at *
    generalize D.getD (f.toInt.toNat + 3) 0 = a3 at *
    generalize D.getD (f.toInt.toNat + 4) 0 = a4 at *
    generalize D.getD (f.toInt.toNat + 5) 0 = a5 at *
    generalize D.getD (f.toInt.toNat + 6) 0 = a6 at *
    generalize D.getD (f.toInt.toNat + 7) 0 = a7 at *
    generalize D.getD (f.toInt.toNat + 8) 0 = a8 at *
    by_cases b0 : own_bd a0 = true
    · unfold own_digits; rw [if_pos (by simp [own_bL, b0])]; rw [own_bad1 r0 (by decide) b0]; rfl
    have b0 := Bool.eq_false_iff.mpr b0
    by_cases b1 : own_bd a1 = true
    · unfold own_digits; rw [if_pos (by simp [own_bL, b0, b1])]; rw [own_bad0 r0 b0, own_bad1 r1 (by decide) b1]; rfl
    have b1 := Bool.eq_false_iff.mpr b1
    by_cases b2 : own_bd a2 = true
    · unfold own_digits; rw [if_pos (by simp [own_bL, b0, b1, b2])]; rw [own_bad0 r0 b0, own_bad0 r1 b1, own_bad1 r2 (by decide) b2]; rfl
    have b2 := Bool.eq_false_iff.mpr b2
    unfold own_digits; rw [if_neg (by simp only [own_bL, b0, b1, b2, Bool.false_or]; decide)]
    rw [own_bad0 r0 b0, own_bad0 r1 b1, own_bad0 r2 b2, own_badn (c := 3) (k := 3) (by decide), own_badn (c := 3) (k := 4) (by decide), own_badn (c := 3) (k := 5) (by decide), own_badn (c := 3) (k := 6) (by decide), own_badn (c := 3) (k := 7) (by decide), own_badn (c := 3) (k := 8) (by decide), own_FS]
    rw [own_termg r0 (by decide) b0, own_termg r1 (by decide) b1, own_termg r2 (by decide) b2, own_termn (c := 3) (k := 3) (by decide), own_termn (c := 3) (k := 4) (by decide), own_termn (c := 3) (k := 5) (by decide), own_termn (c := 3) (k := 6) (by decide), own_termn (c := 3) (k := 7) (by decide), own_termn (c := 3) (k := 8) (by decide)]
    rw [show own_pw 3 0 = 100 from by decide, show own_pw 3 1 = 10 from by decide, show own_pw 3 2 = 1 from by decide]
    show 0 * _ + own_S [a0, a1, a2] = if (0 : Int32) = 0 then _ else _
    rw [if_pos rfl, Int32.zero_mul, Int32.zero_add]
    rw [show own_S [a0, a1, a2] = (a0 - 48) * 100 + ((a1 - 48) * 10 + ((a2 - 48) * 1)) from by simp only [own_S, List.length_cons, List.length_nil, show own_p10 (0 + 1 + 1) = 100 from by decide, show own_p10 (0 + 1) = 10 from by decide, show own_p10 0 = 1 from by decide, Int32.add_zero]]
    simp only [Int32.add_assoc, Int32.add_zero, Int32.zero_add]
  · rw [show own_win D f 4 = [D.getD (f.toInt.toNat + 0) 0, D.getD (f.toInt.toNat + 1) 0, D.getD (f.toInt.toNat + 2) 0, D.getD (f.toInt.toNat + 3) 0] from rfl]
    have r0 := hD (f.toInt.toNat + 0)
    have r1 := hD (f.toInt.toNat + 1)
    have r2 := hD (f.toInt.toNat + 2)
    have r3 := hD (f.toInt.toNat + 3)
    generalize D.getD (f.toInt.toNat + 0) 0 = a0 at *
    generalize D.getD (f.toInt.toNat + 1) 0 = a1 at *
    generalize D.getD (f.toInt.toNat + 2) 0 = a2 at *
    generalize D.getD (f.toInt.toNat + 3) 0 = a3 at *
    generalize D.getD (f.toInt.toNat + 4) 0 = a4 at *
    generalize D.getD (f.toInt.toNat + 5) 0 = a5 at *
    generalize D.getD (f.toInt.toNat + 6) 0 = a6 at *
    generalize D.getD (f.toInt.toNat + 7) 0 = a7 at *
    generalize D.getD (f.toInt.toNat + 8) 0 = a8 at *
    by_cases b0 : own_bd a0 = true
    · unfold own_digits; rw [if_pos (by simp [own_bL, b0])]; rw [own_bad1 r0 (by decide) b0]; rfl
    have b0 := Bool.eq_false_iff.mpr b0
    by_cases b1 : own_bd a1 = true
    · unfold own_digits; rw [if_pos (by simp [own_bL, b0, b1])]; rw [own_bad0 r0 b0, own_bad1 r1 (by decide) b1]; rfl
    have b1 := Bool.eq_false_iff.mpr b1
    by_cases b2 : own_bd a2 = true
    · unfold own_digits; rw [if_pos (by simp [own_bL, b0, b1, b2])]; rw [own_bad0 r0 b0, own_bad0 r1 b1, own_bad1 r2 (by decide) b2]; rfl
    have b2 := Bool.eq_false_iff.mpr b2
    by_cases b3 : own_bd a3 = true
    · unfold own_digits; rw [if_pos (by simp [own_bL, b0, b1, b2, b3])]; rw [own_bad0 r0 b0, own_bad0 r1 b1, own_bad0 r2 b2, own_bad1 r3 (by decide) b3]; rfl
    have b3 := Bool.eq_false_iff.mpr b3
    unfold own_digits; rw [if_neg (by simp only [own_bL, b0, b1, b2, b3, Bool.false_or]; decide)]
    rw [own_bad0 r0 b0, own_bad0 r1 b1, own_bad0 r2 b2, own_bad0 r3 b3, own_badn (c := 4) (k := 4) (by decide), own_badn (c := 4) (k := 5) (by decide), own_badn (c := 4) (k := 6) (by decide), own_badn (c := 4) (k := 7) (by decide), own_badn (c := 4) (k := 8) (by decide), own_FS]
    rw [own_termg r0 (by decide) b0, own_termg r1 (by decide) b1, own_termg r2 (by decide) b2, own_termg r3 (by decide) b3, own_termn (c := 4) (k := 4) (by decide), own_termn (c := 4) (k := 5) (by decide), own_termn (c := 4) (k := 6) (by decide), own_termn (c := 4) (k := 7) (by decide), own_termn (c := 4) (k := 8) (by decide)]
    rw [show own_pw 4 0 = 1000 from by decide, show own_pw 4 1 = 100 from by decide, show own_pw 4 2 = 10 from by decide, show own_pw 4 3 = 1 from by decide]
    show 0 * _ + own_S [a0, a1, a2, a3] = if (0 : Int32) = 0 then _ else _
    rw [if_pos rfl, Int32.zero_mul, Int32.zero_add]
    rw [show own_S [a0, a1, a2, a3] = (a0 - 48) * 1000 + ((a1 - 48) * 100 + ((a2 - 48) * 10 + ((a3 - 48) * 1))) from by simp only [own_S, List.length_cons, List.length_nil, show own_p10 (0 + 1 + 1 + 1) = 1000 from by decide, show own_p10 (0 + 1 + 1) = 100 from by decide, show own_p10 (0 + 1) = 10 from by decide, show own_p10 0 = 1 from by decide, Int32.add_zero]]
    simp only [Int32.add_assoc, Int32.add_zero, Int32.zero_add]
  · rw [show own_win D f 5 = [D.getD (f.toInt.toNat + 0) 0, D.getD (f.toInt.toNat + 1) 0, D.getD (f.toInt.toNat + 2) 0, D.getD (f.toInt.toNat + 3) 0, D.getD (f.toInt.toNat + 4) 0] from rfl]
    have r0 := hD (f.toInt.toNat + 0)
    have r1 := hD (f.toInt.toNat + 1)
    have r2 := hD (f.toInt.toNat + 2)
    have r3 := hD (f.toInt.toNat + 3)
    have r4 := hD (f.toInt.toNat + 4)
    generalize D.getD (f.toInt.toNat + 0) 0 = a0 at *
    generalize D.getD (f.toInt.toNat + 1) 0 = a1 at *
    generalize D.getD (f.toInt.toNat + 2) 0 = a2 at *
    generalize D.getD (f.toInt.toNat + 3) 0 = a3 at *
    generalize D.getD (f.toInt.toNat + 4) 0 = a4 at *
    generalize D.getD (f.toInt.toNat + 5) 0 = a5 at *
    generalize D.getD (f.toInt.toNat + 6) 0 = a6 at *
    generalize D.getD (f.toInt.toNat + 7) 0 = a7 at *
    generalize D.getD (f.toInt.toNat + 8) 0 = a8 at *
    by_cases b0 : own_bd a0 = true
    · unfold own_digits; rw [if_pos (by simp [own_bL, b0])]; rw [own_bad1 r0 (by decide) b0]; rfl
    have b0 := Bool.eq_false_iff.mpr b0
    by_cases b1 : own_bd a1 = true
    · unfold own_digits; rw [if_pos (by simp [own_bL, b0, b1])]; rw [own_bad0 r0 b0, own_bad1 r1 (by decide) b1]; rfl
    have b1 := Bool.eq_false_iff.mpr b1
    by_cases b2 : own_bd a2 = true
    · unfold own_digits; rw [if_pos (by simp [own_bL, b0, b1, b2])]; rw [own_bad0 r0 b0, own_bad0 r1 b1, own_bad1 r2 (by decide) b2]; rfl
    have b2 := Bool.eq_false_iff.mpr b2
    by_cases b3 : own_bd a3 = true
    · unfold own_digits; rw [if_pos (by simp [own_bL, b0, b1, b2, b3])]; rw [own_bad0 r0 b0, own_bad0 r1 b1, own_bad0 r2 b2, own_bad1 r3 (by decide) b3]; rfl
    have b3 := Bool.eq_false_iff.mpr b3
    by_cases b4 : own_bd a4 = true
    · unfold own_digits; rw [if_pos (by simp [own_bL, b0, b1, b2, b3, b4])]; rw [own_bad0 r0 b0, own_bad0 r1 b1, own_bad0 r2 b2, own_bad0 r3 b3, own_bad1 r4 (by decide) b4]; rfl
    have b4 := Bool.eq_false_iff.mpr b4
    unfold own_digits; rw [if_neg (by simp only [own_bL, b0, b1, b2, b3, b4, Bool.false_or]; decide)]
    rw [own_bad0 r0 b0, own_bad0 r1 b1, own_bad0 r2 b2, own_bad0 r3 b3, own_bad0 r4 b4, own_badn (c := 5) (k := 5) (by decide), own_badn (c := 5) (k := 6) (by decide), own_badn (c := 5) (k := 7) (by decide), own_badn (c := 5) (k := 8) (by decide), own_FS]
    rw [own_termg r0 (by decide) b0, own_termg r1 (by decide) b1, own_termg r2 (by decide) b2, own_termg r3 (by decide) b3, own_termg r4 (by decide) b4, own_termn (c := 5) (k := 5) (by decide), own_termn (c := 5) (k := 6) (by decide), own_termn (c := 5) (k := 7) (by decide), own_termn (c := 5) (k := 8) (by decide)]
    rw [show own_pw 5 0 = 10000 from by decide, show own_pw 5 1 = 1000 from by decide, show own_pw 5 2 = 100 from by decide, show own_pw 5 3 = 10 from by decide, show own_pw 5 4 = 1 from by decide]
    show 0 * _ + own_S [a0, a1, a2, a3, a4] = if (0 : Int32) = 0 then _ else _
    rw [if_pos rfl, Int32.zero_mul, Int32.zero_add]
    rw [show own_S [a0, a1, a2, a3, a4] = (a0 - 48) * 10000 + ((a1 - 48) * 1000 + ((a2 - 48) * 100 + ((a3 - 48) * 10 + ((a4 - 48) * 1)))) from by simp only [own_S, List.length_cons, List.length_nil, show own_p10 (0 + 1 + 1 + 1 + 1) = 10000 from by decide, show own_p10 (0 + 1 + 1 + 1) = 1000 from by decide, show own_p10 (0 + 1 + 1) = 100 from by decide, show own_p10 (0 + 1) = 10 from by decide, show own_p10 0 = 1 from by decide, Int32.add_zero]]
    simp only [Int32.add_assoc, Int32.add_zero, Int32.zero_add]
  · rw [show own_win D f 6 = [D.getD (f.toInt.toNat + 0) 0, D.getD (f.toInt.toNat + 1) 0, D.getD (f.toInt.toNat + 2) 0, D.getD (f.toInt.toNat + 3) 0, D.getD (f.toInt.toNat + 4) 0, D.getD (f.toInt.toNat + 5) 0] from rfl]
    have r0 := hD (f.toInt.toNat + 0)
    have r1 := hD (f.toInt.toNat + 1)
    have r2 := hD (f.toInt.toNat + 2)
    have r3 := hD (f.toInt.toNat + 3)
    have r4 := hD (f.toInt.toNat + 4)
    have r5 := hD (f.toInt.toNat + 5)
    generalize D.getD (f.toInt.toNat + 0) 0 = a0 at *
    generalize D.getD (f.toInt.toNat + 1) 0 = a1 at *
    generalize D.getD (f.toInt.toNat + 2) 0 = a2 at *
    generalize D.getD (f.toInt.toNat + 3) 0 = a3 at *
    generalize D.getD (f.toInt.toNat + 4) 0 = a4 at *
    generalize D.getD (f.toInt.toNat + 5) 0 = a5 at *
    generalize D.getD (f.toInt.toNat + 6) 0 = a6 at *
    generalize D.getD (f.toInt.toNat + 7) 0 = a7 at *
    generalize D.getD (f.toInt.toNat + 8) 0 = a8 at *
    by_cases b0 : own_bd a0 = true
    · unfold own_digits; rw [if_pos (by simp [own_bL, b0])]; rw [own_bad1 r0 (by decide) b0]; rfl
    have b0 := Bool.eq_false_iff.mpr b0
    by_cases b1 : own_bd a1 = true
    · unfold own_digits; rw [if_pos (by simp [own_bL, b0, b1])]; rw [own_bad0 r0 b0, own_bad1 r1 (by decide) b1]; rfl
    have b1 := Bool.eq_false_iff.mpr b1
    by_cases b2 : own_bd a2 = true
    · unfold own_digits; rw [if_pos (by simp [own_bL, b0, b1, b2])]; rw [own_bad0 r0 b0, own_bad0 r1 b1, own_bad1 r2 (by decide) b2]; rfl
    have b2 := Bool.eq_false_iff.mpr b2
    by_cases b3 : own_bd a3 = true
    · unfold own_digits; rw [if_pos (by simp [own_bL, b0, b1, b2, b3])]; rw [own_bad0 r0 b0, own_bad0 r1 b1, own_bad0 r2 b2, own_bad1 r3 (by decide) b3]; rfl
    have b3 := Bool.eq_false_iff.mpr b3
    by_cases b4 : own_bd a4 = true
    · unfold own_digits; rw [if_pos (by simp [own_bL, b0, b1, b2, b3, b4])]; rw [own_bad0 r0 b0, own_bad0 r1 b1, own_bad0 r2 b2, own_bad0 r3 b3, own_bad1 r4 (by decide) b4]; rfl
    have b4 := Bool.eq_false_iff.mpr b4
    by_cases b5 : own_bd a5 = true
    · unfold own_digits; rw [if_pos (by simp [own_bL, b0, b1, b2, b3, b4, b5])]; rw [own_bad0 r0 b0, own_bad0 r1 b1, own_bad0 r2 b2, own_bad0 r3 b3, own_bad0 r4 b4, own_bad1 r5 (by decide) b5]; rfl
    have b5 := Bool.eq_false_iff.mpr b5
    unfold own_digits; rw [if_neg (by simp only [own_bL, b0, b1, b2, b3, b4, b5, Bool.false_or]; decide)]
    rw [own_bad0 r0 b0, own_bad0 r1 b1, own_bad0 r2 b2, own_bad0 r3 b3, own_bad0 r4 b4, own_bad0 r5 b5, own_badn (c := 6) (k := 6) (by decide), own_badn (c := 6) (k := 7) (by decide), own_badn (c := 6) (k := 8) (by decide), own_FS]
    rw [own_termg r0 (by decide) b0, own_termg r1 (by decide) b1, own_termg r2 (by decide) b2, own_termg r3 (by decide) b3, own_termg r4 (by decide) b4, own_termg r5 (by decide) b5, own_termn (c := 6) (k := 6) (by decide), own_termn (c := 6) (k := 7) (by decide), own_termn (c := 6) (k := 8) (by decide)]
    rw [show own_pw 6 0 = 100000 from by decide, show own_pw 6 1 = 10000 from by decide, show own_pw 6 2 = 1000 from by decide, show own_pw 6 3 = 100 from by decide, show own_pw 6 4 = 10 from by decide, show own_pw 6 5 = 1 from by decide]
    show 0 * _ + own_S [a0, a1, a2, a3, a4, a5] = if (0 : Int32) = 0 then _ else _
    rw [if_pos rfl, Int32.zero_mul, Int32.zero_add]
    rw [show own_S [a0, a1, a2, a3, a4, a5] = (a0 - 48) * 100000 + ((a1 - 48) * 10000 + ((a2 - 48) * 1000 + ((a3 - 48) * 100 + ((a4 - 48) * 10 + ((a5 - 48) * 1))))) from by simp only [own_S, List.length_cons, List.length_nil, show own_p10 (0 + 1 + 1 + 1 + 1 + 1) = 100000 from by decide, show own_p10 (0 + 1 + 1 + 1 + 1) = 10000 from by decide, show own_p10 (0 + 1 + 1 + 1) = 1000 from by decide, show own_p10 (0 + 1 + 1) = 100 from by decide, show own_p10 (0 + 1) = 10 from by decide, show own_p10 0 = 1 from by decide, Int32.add_zero]]
    simp only [Int32.add_assoc, Int32.add_zero, Int32.zero_add]
  · rw [show own_win D f 7 = [D.getD (f.toInt.toNat + 0) 0, D.getD (f.toInt.toNat + 1) 0, D.getD (f.toInt.toNat + 2) 0, D.getD (f.toInt.toNat + 3) 0, D.getD (f.toInt.toNat + 4) 0, D.getD (f.toInt.toNat + 5) 0, D.getD (f.toInt.toNat + 6) 0] from rfl]
    have r0 := hD (f.toInt.toNat + 0)
    have r1 := hD (f.toInt.toNat + 1)
    have r2 := hD (f.toInt.toNat + 2)
    have r3 := hD (f.toInt.toNat + 3)
    have r4 := hD (f.toInt.toNat + 4)
    have r5 := hD (f.toInt.toNat + 5)
    have r6 := hD (f.toInt.toNat + 6)
    generalize D.getD (f.toInt.toNat + 0) 0 = a0 at *
    generalize D.getD (f.toInt.toNat + 1) 0 = a1 at *
    generalize D.getD (f.toInt.toNat + 2) 0 = a2 at *
    generalize D.getD (f.toInt.toNat + 3) 0 = a3 at *
    generalize D.getD (f.toInt.toNat + 4) 0 = a4 at *
    generalize D.getD (f.toInt.toNat + 5) 0 = a5 at *
    generalize D.getD (f.toInt.toNat + 6) 0 = a6 at *
    generalize D.getD (f.toInt.toNat + 7) 0 = a7 at *
    generalize D.getD (f.toInt.toNat + 8) 0 = a8 at *
    by_cases b0 : own_bd a0 = true
    · unfold own_digits; rw [if_pos (by simp [own_bL, b0])]; rw [own_bad1 r0 (by decide) b0]; rfl
    have b0 := Bool.eq_false_iff.mpr b0
    by_cases b1 : own_bd a1 = true
    · unfold own_digits; rw [if_pos (by simp [own_bL, b0, b1])]; rw [own_bad0 r0 b0, own_bad1 r1 (by decide) b1]; rfl
    have b1 := Bool.eq_false_iff.mpr b1
    by_cases b2 : own_bd a2 = true
    · unfold own_digits; rw [if_pos (by simp [own_bL, b0, b1, b2])]; rw [own_bad0 r0 b0, own_bad0 r1 b1, own_bad1 r2 (by decide) b2]; rfl
    have b2 := Bool.eq_false_iff.mpr b2
    by_cases b3 : own_bd a3 = true
    · unfold own_digits; rw [if_pos (by simp [own_bL, b0, b1, b2, b3])]; rw [own_bad0 r0 b0, own_bad0 r1 b1, own_bad0 r2 b2, own_bad1 r3 (by decide) b3]; rfl
    have b3 := Bool.eq_false_iff.mpr b3
    by_cases b4 : own_bd a4 = true
    · unfold own_digits; rw [if_pos (by simp [own_bL, b0, b1, b2, b3, b4])]; rw [own_bad0 r0 b0, own_bad0 r1 b1, own_bad0 r2 b2, own_bad0 r3 b3, own_bad1 r4 (by decide) b4]; rfl
    have b4 := Bool.eq_false_iff.mpr b4
    by_cases b5 : own_bd a5 = true
    · unfold own_digits; rw [if_pos (by simp [own_bL, b0, b1, b2, b3, b4, b5])]; rw [own_bad0 r0 b0, own_bad0 r1 b1, own_bad0 r2 b2, own_bad0 r3 b3, own_bad0 r4 b4, own_bad1 r5 (by decide) b5]; rfl
    have b5 := Bool.eq_false_iff.mpr b5
    by_cases b6 : own_bd a6 = true
    · unfold own_digits; rw [if_pos (by simp [own_bL, b0, b1, b2, b3, b4, b5, b6])]; rw [own_bad0 r0 b0, own_bad0 r1 b1, own_bad0 r2 b2, own_bad0 r3 b3, own_bad0 r4 b4, own_bad0 r5 b5, own_bad1 r6 (by decide) b6]; rfl
    have b6 := Bool.eq_false_iff.mpr b6
    unfold own_digits; rw [if_neg (by simp only [own_bL, b0, b1, b2, b3, b4, b5, b6, Bool.false_or]; decide)]
    rw [own_bad0 r0 b0, own_bad0 r1 b1, own_bad0 r2 b2, own_bad0 r3 b3, own_bad0 r4 b4, own_bad0 r5 b5, own_bad0 r6 b6, own_badn (c := 7) (k := 7) (by decide), own_badn (c := 7) (k := 8) (by decide), own_FS]
    rw [own_termg r0 (by decide) b0, own_termg r1 (by decide) b1, own_termg r2 (by decide) b2, own_termg r3 (by decide) b3, own_termg r4 (by decide) b4, own_termg r5 (by decide) b5, own_termg r6 (by decide) b6, own_termn (c := 7) (k := 7) (by decide), own_termn (c := 7) (k := 8) (by decide)]
    rw [show own_pw 7 0 = 1000000 from by decide, show own_pw 7 1 = 100000 from by decide, show own_pw 7 2 = 10000 from by decide, show own_pw 7 3 = 1000 from by decide, show own_pw 7 4 = 100 from by decide, show own_pw 7 5 = 10 from by decide, show own_pw 7 6 = 1 from by decide]
    show 0 * _ + own_S [a0, a1, a2, a3, a4, a5, a6] = if (0 : Int32) = 0 then _ else _
    rw [if_pos rfl, Int32.zero_mul, Int32.zero_add]
    rw [show own_S [a0, a1, a2, a3, a4, a5, a6] = (a0 - 48) * 1000000 + ((a1 - 48) * 100000 + ((a2 - 48) * 10000 + ((a3 - 48) * 1000 + ((a4 - 48) * 100 + ((a5 - 48) * 10 + ((a6 - 48) * 1)))))) from by simp only [own_S, List.length_cons, List.length_nil, show own_p10 (0 + 1 + 1 + 1 + 1 + 1 + 1) = 1000000 from by decide, show own_p10 (0 + 1 + 1 + 1 + 1 + 1) = 100000 from by decide, show own_p10 (0 + 1 + 1 + 1 + 1) = 10000 from by decide, show own_p10 (0 + 1 + 1 + 1) = 1000 from by decide, show own_p10 (0 + 1 + 1) = 100 from by decide, show own_p10 (0 + 1) = 10 from by decide, show own_p10 0 = 1 from by decide, Int32.add_zero]]
    simp only [Int32.add_assoc, Int32.add_zero, Int32.zero_add]
  · rw [show own_win D f 8 = [D.getD (f.toInt.toNat + 0) 0, D.getD (f.toInt.toNat + 1) 0, D.getD (f.toInt.toNat + 2) 0, D.getD (f.toInt.toNat + 3) 0, D.getD (f.toInt.toNat + 4) 0, D.getD (f.toInt.toNat + 5) 0, D.getD (f.toInt.toNat + 6) 0, D.getD (f.toInt.toNat + 7) 0] from rfl]
    have r0 := hD (f.toInt.toNat + 0)
    have r1 := hD (f.toInt.toNat + 1)
    have r2 := hD (f.toInt.toNat + 2)
    have r3 := hD (f.toInt.toNat + 3)
    have r4 := hD (f.toInt.toNat + 4)
    have r5 := hD (f.toInt.toNat + 5)
    have r6 := hD (f.toInt.toNat + 6)
    have r7 := hD (f.toInt.toNat + 7)
    generalize D.getD (f.toInt.toNat + 0) 0 = a0 at *
    generalize D.getD (f.toInt.toNat + 1) 0 = a1 at *
    generalize D.getD (f.toInt.toNat + 2) 0 = a2 at *
    generalize D.getD (f.toInt.toNat + 3) 0 = a3 at *
    generalize D.getD (f.toInt.toNat + 4) 0 = a4 at *
    generalize D.getD (f.toInt.toNat + 5) 0 = a5 at *
    generalize D.getD (f.toInt.toNat + 6) 0 = a6 at *
    generalize D.getD (f.toInt.toNat + 7) 0 = a7 at *
    generalize D.getD (f.toInt.toNat + 8) 0 = a8 at *
    by_cases b0 : own_bd a0 = true
    · unfold own_digits; rw [if_pos (by simp [own_bL, b0])]; rw [own_bad1 r0 (by decide) b0]; rfl
    have b0 := Bool.eq_false_iff.mpr b0
    by_cases b1 : own_bd a1 = true
    · unfold own_digits; rw [if_pos (by simp [own_bL, b0, b1])]; rw [own_bad0 r0 b0, own_bad1 r1 (by decide) b1]; rfl
    have b1 := Bool.eq_false_iff.mpr b1
    by_cases b2 : own_bd a2 = true
    · unfold own_digits; rw [if_pos (by simp [own_bL, b0, b1, b2])]; rw [own_bad0 r0 b0, own_bad0 r1 b1, own_bad1 r2 (by decide) b2]; rfl
    have b2 := Bool.eq_false_iff.mpr b2
    by_cases b3 : own_bd a3 = true
    · unfold own_digits; rw [if_pos (by simp [own_bL, b0, b1, b2, b3])]; rw [own_bad0 r0 b0, own_bad0 r1 b1, own_bad0 r2 b2, own_bad1 r3 (by decide) b3]; rfl
    have b3 := Bool.eq_false_iff.mpr b3
    by_cases b4 : own_bd a4 = true
    · unfold own_digits; rw [if_pos (by simp [own_bL, b0, b1, b2, b3, b4])]; rw [own_bad0 r0 b0, own_bad0 r1 b1, own_bad0 r2 b2, own_bad0 r3 b3, own_bad1 r4 (by decide) b4]; rfl
    have b4 := Bool.eq_false_iff.mpr b4
    by_cases b5 : own_bd a5 = true
    · unfold own_digits; rw [if_pos (by simp [own_bL, b0, b1, b2, b3, b4, b5])]; rw [own_bad0 r0 b0, own_bad0 r1 b1, own_bad0 r2 b2, own_bad0 r3 b3, own_bad0 r4 b4, own_bad1 r5 (by decide) b5]; rfl
    have b5 := Bool.eq_false_iff.mpr b5
    by_cases b6 : own_bd a6 = true
    · unfold own_digits; rw [if_pos (by simp [own_bL, b0, b1, b2, b3, b4, b5, b6])]; rw [own_bad0 r0 b0, own_bad0 r1 b1, own_bad0 r2 b2, own_bad0 r3 b3, own_bad0 r4 b4, own_bad0 r5 b5, own_bad1 r6 (by decide) b6]; rfl
    have b6 := Bool.eq_false_iff.mpr b6
    by_cases b7 : own_bd a7 = true
    · unfold own_digits; rw [if_pos (by simp [own_bL, b0, b1, b2, b3, b4, b5, b6, b7])]; rw [own_bad0 r0 b0, own_bad0 r1 b1, own_bad0 r2 b2, own_bad0 r3 b3, own_bad0 r4 b4, own_bad0 r5 b5, own_bad0 r6 b6, own_bad1 r7 (by decide) b7]; rfl
    have b7 := Bool.eq_false_iff.mpr b7
    unfold own_digits; rw [if_neg (by simp only [own_bL, b0, b1, b2, b3, b4, b5, b6, b7, Bool.false_or]; decide)]
    rw [own_bad0 r0 b0, own_bad0 r1 b1, own_bad0 r2 b2, own_bad0 r3 b3, own_bad0 r4 b4, own_bad0 r5 b5, own_bad0 r6 b6, own_bad0 r7 b7, own_badn (c := 8) (k := 8) (by decide), own_FS]
    rw [own_termg r0 (by decide) b0, own_termg r1 (by decide) b1, own_termg r2 (by decide) b2, own_termg r3 (by decide) b3, own_termg r4 (by decide) b4, own_termg r5 (by decide) b5, own_termg r6 (by decide) b6, own_termg r7 (by decide) b7, own_termn (c := 8) (k := 8) (by decide)]
    rw [show own_pw 8 0 = 10000000 from by decide, show own_pw 8 1 = 1000000 from by decide, show own_pw 8 2 = 100000 from by decide, show own_pw 8 3 = 10000 from by decide, show own_pw 8 4 = 1000 from by decide, show own_pw 8 5 = 100 from by decide, show own_pw 8 6 = 10 from by decide, show own_pw 8 7 = 1 from by decide]
    show 0 * _ + own_S [a0, a1, a2, a3, a4, a5, a6, a7] = if (0 : Int32) = 0 then _ else _
    rw [if_pos rfl, Int32.zero_mul, Int32.zero_add]
    rw [show own_S [a0, a1, a2, a3, a4, a5, a6, a7] = (a0 - 48) * 10000000 + ((a1 - 48) * 1000000 + ((a2 - 48) * 100000 + ((a3 - 48) * 10000 + ((a4 - 48) * 1000 + ((a5 - 48) * 100 + ((a6 - 48) * 10 + ((a7 - 48) * 1))))))) from by simp only [own_S, List.length_cons, List.length_nil, show own_p10 (0 + 1 + 1 + 1 + 1 + 1 + 1 + 1) = 10000000 from by decide, show own_p10 (0 + 1 + 1 + 1 + 1 + 1 + 1) = 1000000 from by decide, show own_p10 (0 + 1 + 1 + 1 + 1 + 1) = 100000 from by decide, show own_p10 (0 + 1 + 1 + 1 + 1) = 10000 from by decide, show own_p10 (0 + 1 + 1 + 1) = 1000 from by decide, show own_p10 (0 + 1 + 1) = 100 from by decide, show own_p10 (0 + 1) = 10 from by decide, show own_p10 0 = 1 from by decide, Int32.add_zero]]
    simp only [Int32.add_assoc, Int32.add_zero, Int32.zero_add]
  · rw [show own_win D f 9 = [D.getD (f.toInt.toNat + 0) 0, D.getD (f.toInt.toNat + 1) 0, D.getD (f.toInt.toNat + 2) 0, D.getD (f.toInt.toNat + 3) 0, D.getD (f.toInt.toNat + 4) 0, D.getD (f.toInt.toNat + 5) 0, D.getD (f.toInt.toNat + 6) 0, D.getD (f.toInt.toNat + 7) 0, D.getD (f.toInt.toNat + 8) 0] from rfl]
    have r0 := hD (f.toInt.toNat + 0)
    have r1 := hD (f.toInt.toNat + 1)
    have r2 := hD (f.toInt.toNat + 2)
    have r3 := hD (f.toInt.toNat + 3)
    have r4 := hD (f.toInt.toNat + 4)
    have r5 := hD (f.toInt.toNat + 5)
    have r6 := hD (f.toInt.toNat + 6)
    have r7 := hD (f.toInt.toNat + 7)
    have r8 := hD (f.toInt.toNat + 8)
    generalize D.getD (f.toInt.toNat + 0) 0 = a0 at *
    generalize D.getD (f.toInt.toNat + 1) 0 = a1 at *
    generalize D.getD (f.toInt.toNat + 2) 0 = a2 at *
    generalize D.getD (f.toInt.toNat + 3) 0 = a3 at *
    generalize D.getD (f.toInt.toNat + 4) 0 = a4 at *
    generalize D.getD (f.toInt.toNat + 5) 0 = a5 at *
    generalize D.getD (f.toInt.toNat + 6) 0 = a6 at *
    generalize D.getD (f.toInt.toNat + 7) 0 = a7 at *
    generalize D.getD (f.toInt.toNat + 8) 0 = a8 at *
    by_cases b0 : own_bd a0 = true
    · unfold own_digits; rw [if_pos (by simp [own_bL, b0])]; rw [own_bad1 r0 (by decide) b0]; rfl
    have b0 := Bool.eq_false_iff.mpr b0
    by_cases b1 : own_bd a1 = true
    · unfold own_digits; rw [if_pos (by simp [own_bL, b0, b1])]; rw [own_bad0 r0 b0, own_bad1 r1 (by decide) b1]; rfl
    have b1 := Bool.eq_false_iff.mpr b1
    by_cases b2 : own_bd a2 = true
    · unfold own_digits; rw [if_pos (by simp [own_bL, b0, b1, b2])]; rw [own_bad0 r0 b0, own_bad0 r1 b1, own_bad1 r2 (by decide) b2]; rfl
    have b2 := Bool.eq_false_iff.mpr b2
    by_cases b3 : own_bd a3 = true
    · unfold own_digits; rw [if_pos (by simp [own_bL, b0, b1, b2, b3])]; rw [own_bad0 r0 b0, own_bad0 r1 b1, own_bad0 r2 b2, own_bad1 r3 (by decide) b3]; rfl
    have b3 := Bool.eq_false_iff.mpr b3
    by_cases b4 : own_bd a4 = true
    · unfold own_digits; rw [if_pos (by simp [own_bL, b0, b1, b2, b3, b4])]; rw [own_bad0 r0 b0, own_bad0 r1 b1, own_bad0 r2 b2, own_bad0 r3 b3, own_bad1 r4 (by decide) b4]; rfl
    have b4 := Bool.eq_false_iff.mpr b4
    by_cases b5 : own_bd a5 = true
    · unfold own_digits; rw [if_pos (by simp [own_bL, b0, b1, b2, b3, b4, b5])]; rw [own_bad0 r0 b0, own_bad0 r1 b1, own_bad0 r2 b2, own_bad0 r3 b3, own_bad0 r4 b4, own_bad1 r5 (by decide) b5]; rfl
    have b5 := Bool.eq_false_iff.mpr b5
    by_cases b6 : own_bd a6 = true
    · unfold own_digits; rw [if_pos (by simp [own_bL, b0, b1, b2, b3, b4, b5, b6])]; rw [own_bad0 r0 b0, own_bad0 r1 b1, own_bad0 r2 b2, own_bad0 r3 b3, own_bad0 r4 b4, own_bad0 r5 b5, own_bad1 r6 (by decide) b6]; rfl
    have b6 := Bool.eq_false_iff.mpr b6
    by_cases b7 : own_bd a7 = true
    · unfold own_digits; rw [if_pos (by simp [own_bL, b0, b1, b2, b3, b4, b5, b6, b7])]; rw [own_bad0 r0 b0, own_bad0 r1 b1, own_bad0 r2 b2, own_bad0 r3 b3, own_bad0 r4 b4, own_bad0 r5 b5, own_bad0 r6 b6, own_bad1 r7 (by decide) b7]; rfl
    have b7 := Bool.eq_false_iff.mpr b7
    by_cases b8 : own_bd a8 = true
    · unfold own_digits; rw [if_pos (by simp [own_bL, b0, b1, b2, b3, b4, b5, b6, b7, b8])]; rw [own_bad0 r0 b0, own_bad0 r1 b1, own_bad0 r2 b2, own_bad0 r3 b3, own_bad0 r4 b4, own_bad0 r5 b5, own_bad0 r6 b6, own_bad0 r7 b7, own_bad1 r8 (by decide) b8]; rfl
    have b8 := Bool.eq_false_iff.mpr b8
    unfold own_digits; rw [if_neg (by simp only [own_bL, b0, b1, b2, b3, b4, b5, b6, b7, b8, Bool.false_or]; decide)]
    rw [own_bad0 r0 b0, own_bad0 r1 b1, own_bad0 r2 b2, own_bad0 r3 b3, own_bad0 r4 b4, own_bad0 r5 b5, own_bad0 r6 b6, own_bad0 r7 b7, own_bad0 r8 b8, own_FS]
    rw [own_termg r0 (by decide) b0, own_termg r1 (by decide) b1, own_termg r2 (by decide) b2, own_termg r3 (by decide) b3, own_termg r4 (by decide) b4, own_termg r5 (by decide) b5, own_termg r6 (by decide) b6, own_termg r7 (by decide) b7, own_termg r8 (by decide) b8]
    rw [show own_pw 9 0 = 100000000 from by decide, show own_pw 9 1 = 10000000 from by decide, show own_pw 9 2 = 1000000 from by decide, show own_pw 9 3 = 100000 from by decide, show own_pw 9 4 = 10000 from by decide, show own_pw 9 5 = 1000 from by decide, show own_pw 9 6 = 100 from by decide, show own_pw 9 7 = 10 from by decide, show own_pw 9 8 = 1 from by decide]
    show 0 * _ + own_S [a0, a1, a2, a3, a4, a5, a6, a7, a8] = if (0 : Int32) = 0 then _ else _
    rw [if_pos rfl, Int32.zero_mul, Int32.zero_add]
    rw [show own_S [a0, a1, a2, a3, a4, a5, a6, a7, a8] = (a0 - 48) * 100000000 + ((a1 - 48) * 10000000 + ((a2 - 48) * 1000000 + ((a3 - 48) * 100000 + ((a4 - 48) * 10000 + ((a5 - 48) * 1000 + ((a6 - 48) * 100 + ((a7 - 48) * 10 + ((a8 - 48) * 1)))))))) from by simp only [own_S, List.length_cons, List.length_nil, show own_p10 (0 + 1 + 1 + 1 + 1 + 1 + 1 + 1 + 1) = 100000000 from by decide, show own_p10 (0 + 1 + 1 + 1 + 1 + 1 + 1 + 1) = 10000000 from by decide, show own_p10 (0 + 1 + 1 + 1 + 1 + 1 + 1) = 1000000 from by decide, show own_p10 (0 + 1 + 1 + 1 + 1 + 1) = 100000 from by decide, show own_p10 (0 + 1 + 1 + 1 + 1) = 10000 from by decide, show own_p10 (0 + 1 + 1 + 1) = 1000 from by decide, show own_p10 (0 + 1 + 1) = 100 from by decide, show own_p10 (0 + 1) = 10 from by decide, show own_p10 0 = 1 from by decide, Int32.add_zero]]
    simp only [Int32.add_assoc, Int32.add_zero, Int32.zero_add]


def Q_rm0 (Z : State) (q1 : Int64) (q2 : Int64) (p3 : Int32) (p4 : Int32) (p5 : Int32) (h0 : Heap) (n0 : Nat) (v : Option Value) (h : Heap) (L : List Loc) : Prop := v = some (.int (1 : Int32)) ∧ Fr n0 L
set_option maxRecDepth 65536 in
set_option maxHeartbeats 40000000 in
theorem rm0 (l : Launch) (Z : State) (a0 : Array Value) (hw : ∀ d ∈ tables_1, d.before a0 Z = true) (ws : List Jvm.Cond) (q1 : Int64) (q2 : Int64) (p3 : Int32) (p4 : Int32) (p5 : Int32) (h0 : Heap) (n0 : Nat) (Z0 : n0 ≤ h0.size) :
    MetFree l x (head1 (Jvm.Cond.code x code maxLocals ret :: ws) room_1) (fun a U => a = #[(.long q1), (.long q2), (.int p3), (.int p4), (.int p5)] ∧ Z.Warmed39 U.vm ∧ U.heap = h0) (fun _ _ _ _ _ => True) (fun _ U o U' => ∃ v L, o = .returned v ∧ Q_rm0 Z q1 q2 p3 p4 p5 h0 n0 v U'.heap L ∧ FrameEnd U o U' L room_1.cells room_1.slots) := by
  refine MetFree.of_bodySF (plainFor_of_name pn_0) hisR ?_
  intro p e s m args below meth c s₁ Bd hml0 hP hK
  obtain ⟨rfl, hZ, hh⟩ := hP
  have hx := Bd.exec
  have hby := Bd.bytes
  have hml : c.maxLocals = 14 := hml0
  have hown : s.vm.findClass "com/example/carrel/carrel/server/marc/MarcRecordDigitsPinLaw" = some m.cls := findClass_of_methodNamed Bd.named
  have hnm := (name_of_methodNamed Bd.named Bd.method).1
  have X0 : Stand p l e room_1 s m #[(.long q1), (.long q2), (.int p3), (.int p4), (.int p5)] below meth c s₁ [] 0 0 := Stand.of_body Bd
  have e0 : s₁.heap = h0 := by rw [← hh, Bd.state]; rfl
  have N0 := Fr.nil n0
  have P0 : Rch p e below (s₁.setTop (entryFrame m #[(.long q1), (.long q2), (.int p3), (.int p4), (.int p5)] maxLocals)) (s₁.setTop (mkF m 0 #[.val (.long q1), .second, .val (.long q2), .second, .val (.int p3), .val (.int p4), .val (.int p5), .unset, .unset, .unset, .unset, .unset, .unset, .unset] [])) := fun t k => castTop (by first | (simp [entryFrame, mkF, argsToLocals, Value.category, maxLocals]; done) | rfl) k
  have P1 : Rch p e below (s₁.setTop (entryFrame m #[(.long q1), (.long q2), (.int p3), (.int p4), (.int p5)] maxLocals)) (s₁.setTop (mkF m 2 #[.val (.long q1), .second, .val (.long q2), .second, .val (.int p3), .val (.int p4), .val (.int p5), .unset, .unset, .unset, .unset, .unset, .unset, .unset] [(.int (12 : Int32))])) := fun t k => P0 t (by
    show Steps p.tables e below (s₁.setTop (mkF m 0 #[.val (.long q1), .second, .val (.long q2), .second, .val (.int p3), .val (.int p4), .val (.int p5), .unset, .unset, .unset, .unset, .unset, .unset, .unset] [])) t
    refine XS.bipush X0.here hx rfl (hb hby at_0) ?_
    exact k)
  obtain ⟨T2, h2, k2, X2, e2, E2, A2, st2⟩ := newP X0 hx hZ (hw _ (List.mem_of_getElem? (i := 0) rfl)) e0 (g := (mkF m 2 #[.val (.long q1), .second, .val (.long q2), .second, .val (.int p3), .val (.int p4), .val (.int p5), .unset, .unset, .unset, .unset, .unset, .unset, .unset] [(.int (12 : Int32))])) rfl (hb hby at_2) rfl (by decide) (cap := 12) (by decide) (by decide) (by decide) (by decide)
  obtain ⟨b2, g2⟩ : ∃ z, z = h0.size := ⟨_, rfl⟩
  rw [← g2] at A2 st2
  have g_b2 : n0 ≤ b2 := Nat.le_trans Z0 (Nat.le_of_eq g2.symm)
  have sz_b2 : h0.size ≤ b2 := Nat.le_trans (Keep.refl h0 []).1 (Nat.le_of_eq g2.symm)
  have V2 : Arv Z h2 b2 k2 .byte (12 : Int32) [(.int (0 : Int32)), (.int (0 : Int32)), (.int (0 : Int32)), (.int (0 : Int32)), (.int (0 : Int32)), (.int (0 : Int32)), (.int (0 : Int32)), (.int (0 : Int32)), (.int (0 : Int32)), (.int (0 : Int32)), (.int (0 : Int32)), (.int (0 : Int32))] (.int (0 : Int32)) := (Arv.new A2 (by decide)).pad (pad_rep [] (.int (0 : Int32)) 12)
  have P3 : Rch p e below (s₁.setTop (entryFrame m #[(.long q1), (.long q2), (.int p3), (.int p4), (.int p5)] maxLocals)) (T2.setTop (mkF m 4 #[.val (.long q1), .second, .val (.long q2), .second, .val (.int p3), .val (.int p4), .val (.int p5), .unset, .unset, .unset, .unset, .unset, .unset, .unset] [(.ref b2)])) := fun t k => P1 t (st2 t k)
  have P4 : Rch p e below (s₁.setTop (entryFrame m #[(.long q1), (.long q2), (.int p3), (.int p4), (.int p5)] maxLocals)) (T2.setTop (mkF m 11 #[.val (.long q1), .second, .val (.long q2), .second, .val (.int p3), .val (.int p4), .val (.int p5), .unset, .unset, .unset, .unset, .unset, .unset, .unset] [(.int (0 : Int32)), (.int p3), (.int (0 : Int32)), (.long q1), (.int (0 : Int32)), (.ref b2), (.ref b2)])) := fun t k => P3 t (by
    show Steps p.tables e below (T2.setTop (mkF m 4 #[.val (.long q1), .second, .val (.long q2), .second, .val (.int p3), .val (.int p4), .val (.int p5), .unset, .unset, .unset, .unset, .unset, .unset, .unset] [(.ref b2)])) t
    refine XS.dup X2.here hx rfl (hb hby at_4) rfl rfl ?_
    show Steps p.tables e below (T2.setTop (mkF m 5 #[.val (.long q1), .second, .val (.long q2), .second, .val (.int p3), .val (.int p4), .val (.int p5), .unset, .unset, .unset, .unset, .unset, .unset, .unset] [(.ref b2), (.ref b2)])) t
    refine XS.iconst X2.here hx rfl (hb hby at_5) ?_
    show Steps p.tables e below (T2.setTop (mkF m 6 #[.val (.long q1), .second, .val (.long q2), .second, .val (.int p3), .val (.int p4), .val (.int p5), .unset, .unset, .unset, .unset, .unset, .unset, .unset] [(.int (0 : Int32)), (.ref b2), (.ref b2)])) t
    refine XS.lloadN X2.here hx rfl (hb hby at_6) rfl ?_
    show Steps p.tables e below (T2.setTop (mkF m 7 #[.val (.long q1), .second, .val (.long q2), .second, .val (.int p3), .val (.int p4), .val (.int p5), .unset, .unset, .unset, .unset, .unset, .unset, .unset] [(.long q1), (.int (0 : Int32)), (.ref b2), (.ref b2)])) t
    refine XS.iconst X2.here hx rfl (hb hby at_7) ?_
    show Steps p.tables e below (T2.setTop (mkF m 8 #[.val (.long q1), .second, .val (.long q2), .second, .val (.int p3), .val (.int p4), .val (.int p5), .unset, .unset, .unset, .unset, .unset, .unset, .unset] [(.int (0 : Int32)), (.long q1), (.int (0 : Int32)), (.ref b2), (.ref b2)])) t
    refine XS.iload X2.here hx rfl (hb hby at_8) rfl ?_
    show Steps p.tables e below (T2.setTop (mkF m 10 #[.val (.long q1), .second, .val (.long q2), .second, .val (.int p3), .val (.int p4), .val (.int p5), .unset, .unset, .unset, .unset, .unset, .unset, .unset] [(.int p3), (.int (0 : Int32)), (.long q1), (.int (0 : Int32)), (.ref b2), (.ref b2)])) t
    refine XS.iconst X2.here hx rfl (hb hby at_10) ?_
    exact k)
  have f6 : n0 ≤ h2.size := (Nat.le_trans Z0 E2.1)
  obtain ⟨_, _, ⟨T5, L5, k5, n5⟩, -, X5, ⟨Lc5, hQ5, l5, y5, z5⟩, st5⟩ := Jvm.LawKit.callS X2 hx (y := (⟨"com/example/carrel/carrel/server/marc/MarcRecordDigitsPinLaw", "draw", "(JIII)B"⟩ : MethodName)) hown (mvT hZ (hw _ (List.mem_of_getElem? (i := 1) rfl))) (mvT hZ (hw _ (List.mem_of_getElem? (i := 2) rfl))) (mvT hZ (hw _ (List.mem_of_getElem? (i := 3) rfl))) (mvT hZ (hw _ (List.mem_of_getElem? (i := 4) rfl))) (by decide) (backOf (W := 3) (rmDr l Z a0 hw [] q1 (0 : Int32) p3 (0 : Int32) h2 n0 f6 ) hZ (hw _ (List.mem_of_getElem? (i := 4) rfl)) (hw _ (List.mem_of_getElem? (i := 3) rfl)) (by decide) (by decide)) (g := (mkF m 11 #[.val (.long q1), .second, .val (.long q2), .second, .val (.int p3), .val (.int p4), .val (.int p5), .unset, .unset, .unset, .unset, .unset, .unset, .unset] [(.int (0 : Int32)), (.int p3), (.int (0 : Int32)), (.long q1), (.int (0 : Int32)), (.ref b2), (.ref b2)])) rfl (by rw [hml]; rfl) (argsL := [(.long q1), (.int (0 : Int32)), (.int p3), (.int (0 : Int32))]) (rest := [(.int (0 : Int32)), (.ref b2), (.ref b2)]) (lenOf pd_1 rfl) rfl (by show 2 * 0 + _ ≤ _; exact Nat.le_of_eq rfl) (hb hby at_11) (fun _ _ => ⟨rfl, e2, (by decide : 1 + 0 ≤ _), (by decide : 12 + 0 ≤ _)⟩)
  dsimp only [Pt.U, Pt.locs, Pt.cells, Pt.slots] at X5 l5 y5 z5 st5 hQ5
  subst y5 z5
  obtain ⟨rfl, N5q, e5⟩ := hQ5
  have N5 : Fr n0 L5 := by rw [l5]; exact Fr.app N0 N5q
  have P7 : Rch p e below (s₁.setTop (entryFrame m #[(.long q1), (.long q2), (.int p3), (.int p4), (.int p5)] maxLocals)) (T5.setTop (mkF m 14 #[.val (.long q1), .second, .val (.long q2), .second, .val (.int p3), .val (.int p4), .val (.int p5), .unset, .unset, .unset, .unset, .unset, .unset, .unset] [(.int (own_draw q1 (0 : Int32) p3 (0 : Int32))), (.int (0 : Int32)), (.ref b2), (.ref b2)])) := fun t k => P4 t (st5 t k)
  obtain ⟨x8, hx8⟩ : ∃ z : Int32, z = (own_draw q1 (0 : Int32) p3 (0 : Int32)) := ⟨_, rfl⟩
  rw [← hx8] at P7
  have V_o9 := V2
  obtain ⟨co9, Aro9, qo9, So9, Mo9, Ho9, Go9⟩ := V_o9
  have hin10 : ¬ ((0 : Int32) < 0 ∨ co9.slots.size ≤ ((0 : Int32)).toNatClampNeg) := inb_of So9 ⟨by decide, by decide⟩
  obtain ⟨T10, h10, X10, e10, W10, st10⟩ := stB X5 hx hZ e5 Aro9 (j := (0 : Int32)) hin10 (g := (mkF m 14 #[.val (.long q1), .second, .val (.long q2), .second, .val (.int p3), .val (.int p4), .val (.int p5), .unset, .unset, .unset, .unset, .unset, .unset, .unset] [(.int x8), (.int (0 : Int32)), (.ref b2), (.ref b2)])) rfl rfl (hb hby at_14)
  have V10 : Arv Z h10 b2 k2 .byte (12 : Int32) [(.int (nar .byte x8)), (.int (0 : Int32)), (.int (0 : Int32)), (.int (0 : Int32)), (.int (0 : Int32)), (.int (0 : Int32)), (.int (0 : Int32)), (.int (0 : Int32)), (.int (0 : Int32)), (.int (0 : Int32)), (.int (0 : Int32)), (.int (0 : Int32))] (.int (0 : Int32)) := Arv.set Aro9 qo9 So9 Mo9 Ho9 Go9 (fits_nar_byte _) W10 0 rfl (Nat.le_of_ble_eq_true rfl)
  have P11 : Rch p e below (s₁.setTop (entryFrame m #[(.long q1), (.long q2), (.int p3), (.int p4), (.int p5)] maxLocals)) (T10.setTop (mkF m 15 #[.val (.long q1), .second, .val (.long q2), .second, .val (.int p3), .val (.int p4), .val (.int p5), .unset, .unset, .unset, .unset, .unset, .unset, .unset] [(.ref b2)])) := fun t k => P7 t (st10 t k)
  have N10 := Fr.snoc X10 N5 g_b2
  have P12 : Rch p e below (s₁.setTop (entryFrame m #[(.long q1), (.long q2), (.int p3), (.int p4), (.int p5)] maxLocals)) (T10.setTop (mkF m 23 #[.val (.long q1), .second, .val (.long q2), .second, .val (.int p3), .val (.int p4), .val (.int p5), .unset, .unset, .unset, .unset, .unset, .unset, .unset] [(.int (1 : Int32)), (.int p3), (.int (8 : Int32)), (.long q1), (.int (1 : Int32)), (.ref b2), (.ref b2)])) := fun t k => P11 t (by
    show Steps p.tables e below (T10.setTop (mkF m 15 #[.val (.long q1), .second, .val (.long q2), .second, .val (.int p3), .val (.int p4), .val (.int p5), .unset, .unset, .unset, .unset, .unset, .unset, .unset] [(.ref b2)])) t
    refine XS.dup X10.here hx rfl (hb hby at_15) rfl rfl ?_
    show Steps p.tables e below (T10.setTop (mkF m 16 #[.val (.long q1), .second, .val (.long q2), .second, .val (.int p3), .val (.int p4), .val (.int p5), .unset, .unset, .unset, .unset, .unset, .unset, .unset] [(.ref b2), (.ref b2)])) t
    refine XS.iconst X10.here hx rfl (hb hby at_16) ?_
    show Steps p.tables e below (T10.setTop (mkF m 17 #[.val (.long q1), .second, .val (.long q2), .second, .val (.int p3), .val (.int p4), .val (.int p5), .unset, .unset, .unset, .unset, .unset, .unset, .unset] [(.int (1 : Int32)), (.ref b2), (.ref b2)])) t
    refine XS.lloadN X10.here hx rfl (hb hby at_17) rfl ?_
    show Steps p.tables e below (T10.setTop (mkF m 18 #[.val (.long q1), .second, .val (.long q2), .second, .val (.int p3), .val (.int p4), .val (.int p5), .unset, .unset, .unset, .unset, .unset, .unset, .unset] [(.long q1), (.int (1 : Int32)), (.ref b2), (.ref b2)])) t
    refine XS.bipush X10.here hx rfl (hb hby at_18) ?_
    show Steps p.tables e below (T10.setTop (mkF m 20 #[.val (.long q1), .second, .val (.long q2), .second, .val (.int p3), .val (.int p4), .val (.int p5), .unset, .unset, .unset, .unset, .unset, .unset, .unset] [(.int (8 : Int32)), (.long q1), (.int (1 : Int32)), (.ref b2), (.ref b2)])) t
    refine XS.iload X10.here hx rfl (hb hby at_20) rfl ?_
    show Steps p.tables e below (T10.setTop (mkF m 22 #[.val (.long q1), .second, .val (.long q2), .second, .val (.int p3), .val (.int p4), .val (.int p5), .unset, .unset, .unset, .unset, .unset, .unset, .unset] [(.int p3), (.int (8 : Int32)), (.long q1), (.int (1 : Int32)), (.ref b2), (.ref b2)])) t
    refine XS.iconst X10.here hx rfl (hb hby at_22) ?_
    exact k)
  have f14 : n0 ≤ h10.size := (Nat.le_trans f6 (Keep.of_wr W10).1)
  obtain ⟨_, _, ⟨T13, L13, k13, n13⟩, -, X13, ⟨Lc13, hQ13, l13, y13, z13⟩, st13⟩ := Jvm.LawKit.callS X10 hx (y := (⟨"com/example/carrel/carrel/server/marc/MarcRecordDigitsPinLaw", "draw", "(JIII)B"⟩ : MethodName)) hown (mvT hZ (hw _ (List.mem_of_getElem? (i := 1) rfl))) (mvT hZ (hw _ (List.mem_of_getElem? (i := 2) rfl))) (mvT hZ (hw _ (List.mem_of_getElem? (i := 3) rfl))) (mvT hZ (hw _ (List.mem_of_getElem? (i := 4) rfl))) (by decide) (backOf (W := 3) (rmDr l Z a0 hw [] q1 (8 : Int32) p3 (1 : Int32) h10 n0 f14 ) hZ (hw _ (List.mem_of_getElem? (i := 4) rfl)) (hw _ (List.mem_of_getElem? (i := 3) rfl)) (by decide) (by decide)) (g := (mkF m 23 #[.val (.long q1), .second, .val (.long q2), .second, .val (.int p3), .val (.int p4), .val (.int p5), .unset, .unset, .unset, .unset, .unset, .unset, .unset] [(.int (1 : Int32)), (.int p3), (.int (8 : Int32)), (.long q1), (.int (1 : Int32)), (.ref b2), (.ref b2)])) rfl (by rw [hml]; rfl) (argsL := [(.long q1), (.int (8 : Int32)), (.int p3), (.int (1 : Int32))]) (rest := [(.int (1 : Int32)), (.ref b2), (.ref b2)]) (lenOf pd_1 rfl) rfl (by show 2 * 0 + _ ≤ _; exact Nat.le_of_eq rfl) (hb hby at_23) (fun _ _ => ⟨rfl, e10, (by decide : 1 + 0 ≤ _), (by decide : 12 + 0 ≤ _)⟩)
  dsimp only [Pt.U, Pt.locs, Pt.cells, Pt.slots] at X13 l13 y13 z13 st13 hQ13
  subst y13 z13
  obtain ⟨rfl, N13q, e13⟩ := hQ13
  have N13 : Fr n0 L13 := by rw [l13]; exact Fr.app N10 N13q
  have P15 : Rch p e below (s₁.setTop (entryFrame m #[(.long q1), (.long q2), (.int p3), (.int p4), (.int p5)] maxLocals)) (T13.setTop (mkF m 26 #[.val (.long q1), .second, .val (.long q2), .second, .val (.int p3), .val (.int p4), .val (.int p5), .unset, .unset, .unset, .unset, .unset, .unset, .unset] [(.int (own_draw q1 (8 : Int32) p3 (1 : Int32))), (.int (1 : Int32)), (.ref b2), (.ref b2)])) := fun t k => P12 t (st13 t k)
  obtain ⟨x16, hx16⟩ : ∃ z : Int32, z = (own_draw q1 (8 : Int32) p3 (1 : Int32)) := ⟨_, rfl⟩
  rw [← hx16] at P15
  have V_o17 := V10
  obtain ⟨co17, Aro17, qo17, So17, Mo17, Ho17, Go17⟩ := V_o17
  have hin18 : ¬ ((1 : Int32) < 0 ∨ co17.slots.size ≤ ((1 : Int32)).toNatClampNeg) := inb_of So17 ⟨by decide, by decide⟩
  obtain ⟨T18, h18, X18, e18, W18, st18⟩ := stB X13 hx hZ e13 Aro17 (j := (1 : Int32)) hin18 (g := (mkF m 26 #[.val (.long q1), .second, .val (.long q2), .second, .val (.int p3), .val (.int p4), .val (.int p5), .unset, .unset, .unset, .unset, .unset, .unset, .unset] [(.int x16), (.int (1 : Int32)), (.ref b2), (.ref b2)])) rfl rfl (hb hby at_26)
  have V18 : Arv Z h18 b2 k2 .byte (12 : Int32) [(.int (nar .byte x8)), (.int (nar .byte x16)), (.int (0 : Int32)), (.int (0 : Int32)), (.int (0 : Int32)), (.int (0 : Int32)), (.int (0 : Int32)), (.int (0 : Int32)), (.int (0 : Int32)), (.int (0 : Int32)), (.int (0 : Int32)), (.int (0 : Int32))] (.int (0 : Int32)) := Arv.set Aro17 qo17 So17 Mo17 Ho17 Go17 (fits_nar_byte _) W18 1 rfl (Nat.le_of_ble_eq_true rfl)
  have P19 : Rch p e below (s₁.setTop (entryFrame m #[(.long q1), (.long q2), (.int p3), (.int p4), (.int p5)] maxLocals)) (T18.setTop (mkF m 27 #[.val (.long q1), .second, .val (.long q2), .second, .val (.int p3), .val (.int p4), .val (.int p5), .unset, .unset, .unset, .unset, .unset, .unset, .unset] [(.ref b2)])) := fun t k => P15 t (st18 t k)
  have N18 := Fr.snoc X18 N13 g_b2
  have P20 : Rch p e below (s₁.setTop (entryFrame m #[(.long q1), (.long q2), (.int p3), (.int p4), (.int p5)] maxLocals)) (T18.setTop (mkF m 35 #[.val (.long q1), .second, .val (.long q2), .second, .val (.int p3), .val (.int p4), .val (.int p5), .unset, .unset, .unset, .unset, .unset, .unset, .unset] [(.int (2 : Int32)), (.int p3), (.int (16 : Int32)), (.long q1), (.int (2 : Int32)), (.ref b2), (.ref b2)])) := fun t k => P19 t (by
    show Steps p.tables e below (T18.setTop (mkF m 27 #[.val (.long q1), .second, .val (.long q2), .second, .val (.int p3), .val (.int p4), .val (.int p5), .unset, .unset, .unset, .unset, .unset, .unset, .unset] [(.ref b2)])) t
    refine XS.dup X18.here hx rfl (hb hby at_27) rfl rfl ?_
    show Steps p.tables e below (T18.setTop (mkF m 28 #[.val (.long q1), .second, .val (.long q2), .second, .val (.int p3), .val (.int p4), .val (.int p5), .unset, .unset, .unset, .unset, .unset, .unset, .unset] [(.ref b2), (.ref b2)])) t
    refine XS.iconst X18.here hx rfl (hb hby at_28) ?_
    show Steps p.tables e below (T18.setTop (mkF m 29 #[.val (.long q1), .second, .val (.long q2), .second, .val (.int p3), .val (.int p4), .val (.int p5), .unset, .unset, .unset, .unset, .unset, .unset, .unset] [(.int (2 : Int32)), (.ref b2), (.ref b2)])) t
    refine XS.lloadN X18.here hx rfl (hb hby at_29) rfl ?_
    show Steps p.tables e below (T18.setTop (mkF m 30 #[.val (.long q1), .second, .val (.long q2), .second, .val (.int p3), .val (.int p4), .val (.int p5), .unset, .unset, .unset, .unset, .unset, .unset, .unset] [(.long q1), (.int (2 : Int32)), (.ref b2), (.ref b2)])) t
    refine XS.bipush X18.here hx rfl (hb hby at_30) ?_
    show Steps p.tables e below (T18.setTop (mkF m 32 #[.val (.long q1), .second, .val (.long q2), .second, .val (.int p3), .val (.int p4), .val (.int p5), .unset, .unset, .unset, .unset, .unset, .unset, .unset] [(.int (16 : Int32)), (.long q1), (.int (2 : Int32)), (.ref b2), (.ref b2)])) t
    refine XS.iload X18.here hx rfl (hb hby at_32) rfl ?_
    show Steps p.tables e below (T18.setTop (mkF m 34 #[.val (.long q1), .second, .val (.long q2), .second, .val (.int p3), .val (.int p4), .val (.int p5), .unset, .unset, .unset, .unset, .unset, .unset, .unset] [(.int p3), (.int (16 : Int32)), (.long q1), (.int (2 : Int32)), (.ref b2), (.ref b2)])) t
    refine XS.iconst X18.here hx rfl (hb hby at_34) ?_
    exact k)
  have f22 : n0 ≤ h18.size := (Nat.le_trans f14 (Keep.of_wr W18).1)
  obtain ⟨_, _, ⟨T21, L21, k21, n21⟩, -, X21, ⟨Lc21, hQ21, l21, y21, z21⟩, st21⟩ := Jvm.LawKit.callS X18 hx (y := (⟨"com/example/carrel/carrel/server/marc/MarcRecordDigitsPinLaw", "draw", "(JIII)B"⟩ : MethodName)) hown (mvT hZ (hw _ (List.mem_of_getElem? (i := 1) rfl))) (mvT hZ (hw _ (List.mem_of_getElem? (i := 2) rfl))) (mvT hZ (hw _ (List.mem_of_getElem? (i := 3) rfl))) (mvT hZ (hw _ (List.mem_of_getElem? (i := 4) rfl))) (by decide) (backOf (W := 3) (rmDr l Z a0 hw [] q1 (16 : Int32) p3 (2 : Int32) h18 n0 f22 ) hZ (hw _ (List.mem_of_getElem? (i := 4) rfl)) (hw _ (List.mem_of_getElem? (i := 3) rfl)) (by decide) (by decide)) (g := (mkF m 35 #[.val (.long q1), .second, .val (.long q2), .second, .val (.int p3), .val (.int p4), .val (.int p5), .unset, .unset, .unset, .unset, .unset, .unset, .unset] [(.int (2 : Int32)), (.int p3), (.int (16 : Int32)), (.long q1), (.int (2 : Int32)), (.ref b2), (.ref b2)])) rfl (by rw [hml]; rfl) (argsL := [(.long q1), (.int (16 : Int32)), (.int p3), (.int (2 : Int32))]) (rest := [(.int (2 : Int32)), (.ref b2), (.ref b2)]) (lenOf pd_1 rfl) rfl (by show 2 * 0 + _ ≤ _; exact Nat.le_of_eq rfl) (hb hby at_35) (fun _ _ => ⟨rfl, e18, (by decide : 1 + 0 ≤ _), (by decide : 12 + 0 ≤ _)⟩)
  dsimp only [Pt.U, Pt.locs, Pt.cells, Pt.slots] at X21 l21 y21 z21 st21 hQ21
  subst y21 z21
  obtain ⟨rfl, N21q, e21⟩ := hQ21
  have N21 : Fr n0 L21 := by rw [l21]; exact Fr.app N18 N21q
  have P23 : Rch p e below (s₁.setTop (entryFrame m #[(.long q1), (.long q2), (.int p3), (.int p4), (.int p5)] maxLocals)) (T21.setTop (mkF m 38 #[.val (.long q1), .second, .val (.long q2), .second, .val (.int p3), .val (.int p4), .val (.int p5), .unset, .unset, .unset, .unset, .unset, .unset, .unset] [(.int (own_draw q1 (16 : Int32) p3 (2 : Int32))), (.int (2 : Int32)), (.ref b2), (.ref b2)])) := fun t k => P20 t (st21 t k)
  obtain ⟨x24, hx24⟩ : ∃ z : Int32, z = (own_draw q1 (16 : Int32) p3 (2 : Int32)) := ⟨_, rfl⟩
  rw [← hx24] at P23
  have V_o25 := V18
  obtain ⟨co25, Aro25, qo25, So25, Mo25, Ho25, Go25⟩ := V_o25
  have hin26 : ¬ ((2 : Int32) < 0 ∨ co25.slots.size ≤ ((2 : Int32)).toNatClampNeg) := inb_of So25 ⟨by decide, by decide⟩
  obtain ⟨T26, h26, X26, e26, W26, st26⟩ := stB X21 hx hZ e21 Aro25 (j := (2 : Int32)) hin26 (g := (mkF m 38 #[.val (.long q1), .second, .val (.long q2), .second, .val (.int p3), .val (.int p4), .val (.int p5), .unset, .unset, .unset, .unset, .unset, .unset, .unset] [(.int x24), (.int (2 : Int32)), (.ref b2), (.ref b2)])) rfl rfl (hb hby at_38)
  have V26 : Arv Z h26 b2 k2 .byte (12 : Int32) [(.int (nar .byte x8)), (.int (nar .byte x16)), (.int (nar .byte x24)), (.int (0 : Int32)), (.int (0 : Int32)), (.int (0 : Int32)), (.int (0 : Int32)), (.int (0 : Int32)), (.int (0 : Int32)), (.int (0 : Int32)), (.int (0 : Int32)), (.int (0 : Int32))] (.int (0 : Int32)) := Arv.set Aro25 qo25 So25 Mo25 Ho25 Go25 (fits_nar_byte _) W26 2 rfl (Nat.le_of_ble_eq_true rfl)
  have P27 : Rch p e below (s₁.setTop (entryFrame m #[(.long q1), (.long q2), (.int p3), (.int p4), (.int p5)] maxLocals)) (T26.setTop (mkF m 39 #[.val (.long q1), .second, .val (.long q2), .second, .val (.int p3), .val (.int p4), .val (.int p5), .unset, .unset, .unset, .unset, .unset, .unset, .unset] [(.ref b2)])) := fun t k => P23 t (st26 t k)
  have N26 := Fr.snoc X26 N21 g_b2
  have P28 : Rch p e below (s₁.setTop (entryFrame m #[(.long q1), (.long q2), (.int p3), (.int p4), (.int p5)] maxLocals)) (T26.setTop (mkF m 47 #[.val (.long q1), .second, .val (.long q2), .second, .val (.int p3), .val (.int p4), .val (.int p5), .unset, .unset, .unset, .unset, .unset, .unset, .unset] [(.int (3 : Int32)), (.int p3), (.int (24 : Int32)), (.long q1), (.int (3 : Int32)), (.ref b2), (.ref b2)])) := fun t k => P27 t (by
    show Steps p.tables e below (T26.setTop (mkF m 39 #[.val (.long q1), .second, .val (.long q2), .second, .val (.int p3), .val (.int p4), .val (.int p5), .unset, .unset, .unset, .unset, .unset, .unset, .unset] [(.ref b2)])) t
    refine XS.dup X26.here hx rfl (hb hby at_39) rfl rfl ?_
    show Steps p.tables e below (T26.setTop (mkF m 40 #[.val (.long q1), .second, .val (.long q2), .second, .val (.int p3), .val (.int p4), .val (.int p5), .unset, .unset, .unset, .unset, .unset, .unset, .unset] [(.ref b2), (.ref b2)])) t
    refine XS.iconst X26.here hx rfl (hb hby at_40) ?_
    show Steps p.tables e below (T26.setTop (mkF m 41 #[.val (.long q1), .second, .val (.long q2), .second, .val (.int p3), .val (.int p4), .val (.int p5), .unset, .unset, .unset, .unset, .unset, .unset, .unset] [(.int (3 : Int32)), (.ref b2), (.ref b2)])) t
    refine XS.lloadN X26.here hx rfl (hb hby at_41) rfl ?_
    show Steps p.tables e below (T26.setTop (mkF m 42 #[.val (.long q1), .second, .val (.long q2), .second, .val (.int p3), .val (.int p4), .val (.int p5), .unset, .unset, .unset, .unset, .unset, .unset, .unset] [(.long q1), (.int (3 : Int32)), (.ref b2), (.ref b2)])) t
    refine XS.bipush X26.here hx rfl (hb hby at_42) ?_
    show Steps p.tables e below (T26.setTop (mkF m 44 #[.val (.long q1), .second, .val (.long q2), .second, .val (.int p3), .val (.int p4), .val (.int p5), .unset, .unset, .unset, .unset, .unset, .unset, .unset] [(.int (24 : Int32)), (.long q1), (.int (3 : Int32)), (.ref b2), (.ref b2)])) t
    refine XS.iload X26.here hx rfl (hb hby at_44) rfl ?_
    show Steps p.tables e below (T26.setTop (mkF m 46 #[.val (.long q1), .second, .val (.long q2), .second, .val (.int p3), .val (.int p4), .val (.int p5), .unset, .unset, .unset, .unset, .unset, .unset, .unset] [(.int p3), (.int (24 : Int32)), (.long q1), (.int (3 : Int32)), (.ref b2), (.ref b2)])) t
    refine XS.iconst X26.here hx rfl (hb hby at_46) ?_
    exact k)
  have f30 : n0 ≤ h26.size := (Nat.le_trans f22 (Keep.of_wr W26).1)
  obtain ⟨_, _, ⟨T29, L29, k29, n29⟩, -, X29, ⟨Lc29, hQ29, l29, y29, z29⟩, st29⟩ := Jvm.LawKit.callS X26 hx (y := (⟨"com/example/carrel/carrel/server/marc/MarcRecordDigitsPinLaw", "draw", "(JIII)B"⟩ : MethodName)) hown (mvT hZ (hw _ (List.mem_of_getElem? (i := 1) rfl))) (mvT hZ (hw _ (List.mem_of_getElem? (i := 2) rfl))) (mvT hZ (hw _ (List.mem_of_getElem? (i := 3) rfl))) (mvT hZ (hw _ (List.mem_of_getElem? (i := 4) rfl))) (by decide) (backOf (W := 3) (rmDr l Z a0 hw [] q1 (24 : Int32) p3 (3 : Int32) h26 n0 f30 ) hZ (hw _ (List.mem_of_getElem? (i := 4) rfl)) (hw _ (List.mem_of_getElem? (i := 3) rfl)) (by decide) (by decide)) (g := (mkF m 47 #[.val (.long q1), .second, .val (.long q2), .second, .val (.int p3), .val (.int p4), .val (.int p5), .unset, .unset, .unset, .unset, .unset, .unset, .unset] [(.int (3 : Int32)), (.int p3), (.int (24 : Int32)), (.long q1), (.int (3 : Int32)), (.ref b2), (.ref b2)])) rfl (by rw [hml]; rfl) (argsL := [(.long q1), (.int (24 : Int32)), (.int p3), (.int (3 : Int32))]) (rest := [(.int (3 : Int32)), (.ref b2), (.ref b2)]) (lenOf pd_1 rfl) rfl (by show 2 * 0 + _ ≤ _; exact Nat.le_of_eq rfl) (hb hby at_47) (fun _ _ => ⟨rfl, e26, (by decide : 1 + 0 ≤ _), (by decide : 12 + 0 ≤ _)⟩)
  dsimp only [Pt.U, Pt.locs, Pt.cells, Pt.slots] at X29 l29 y29 z29 st29 hQ29
  subst y29 z29
  obtain ⟨rfl, N29q, e29⟩ := hQ29
  have N29 : Fr n0 L29 := by rw [l29]; exact Fr.app N26 N29q
  have P31 : Rch p e below (s₁.setTop (entryFrame m #[(.long q1), (.long q2), (.int p3), (.int p4), (.int p5)] maxLocals)) (T29.setTop (mkF m 50 #[.val (.long q1), .second, .val (.long q2), .second, .val (.int p3), .val (.int p4), .val (.int p5), .unset, .unset, .unset, .unset, .unset, .unset, .unset] [(.int (own_draw q1 (24 : Int32) p3 (3 : Int32))), (.int (3 : Int32)), (.ref b2), (.ref b2)])) := fun t k => P28 t (st29 t k)
  obtain ⟨x32, hx32⟩ : ∃ z : Int32, z = (own_draw q1 (24 : Int32) p3 (3 : Int32)) := ⟨_, rfl⟩
  rw [← hx32] at P31
  have V_o33 := V26
  obtain ⟨co33, Aro33, qo33, So33, Mo33, Ho33, Go33⟩ := V_o33
  have hin34 : ¬ ((3 : Int32) < 0 ∨ co33.slots.size ≤ ((3 : Int32)).toNatClampNeg) := inb_of So33 ⟨by decide, by decide⟩
  obtain ⟨T34, h34, X34, e34, W34, st34⟩ := stB X29 hx hZ e29 Aro33 (j := (3 : Int32)) hin34 (g := (mkF m 50 #[.val (.long q1), .second, .val (.long q2), .second, .val (.int p3), .val (.int p4), .val (.int p5), .unset, .unset, .unset, .unset, .unset, .unset, .unset] [(.int x32), (.int (3 : Int32)), (.ref b2), (.ref b2)])) rfl rfl (hb hby at_50)
  have V34 : Arv Z h34 b2 k2 .byte (12 : Int32) [(.int (nar .byte x8)), (.int (nar .byte x16)), (.int (nar .byte x24)), (.int (nar .byte x32)), (.int (0 : Int32)), (.int (0 : Int32)), (.int (0 : Int32)), (.int (0 : Int32)), (.int (0 : Int32)), (.int (0 : Int32)), (.int (0 : Int32)), (.int (0 : Int32))] (.int (0 : Int32)) := Arv.set Aro33 qo33 So33 Mo33 Ho33 Go33 (fits_nar_byte _) W34 3 rfl (Nat.le_of_ble_eq_true rfl)
  have P35 : Rch p e below (s₁.setTop (entryFrame m #[(.long q1), (.long q2), (.int p3), (.int p4), (.int p5)] maxLocals)) (T34.setTop (mkF m 51 #[.val (.long q1), .second, .val (.long q2), .second, .val (.int p3), .val (.int p4), .val (.int p5), .unset, .unset, .unset, .unset, .unset, .unset, .unset] [(.ref b2)])) := fun t k => P31 t (st34 t k)
  have N34 := Fr.snoc X34 N29 g_b2
  have P36 : Rch p e below (s₁.setTop (entryFrame m #[(.long q1), (.long q2), (.int p3), (.int p4), (.int p5)] maxLocals)) (T34.setTop (mkF m 59 #[.val (.long q1), .second, .val (.long q2), .second, .val (.int p3), .val (.int p4), .val (.int p5), .unset, .unset, .unset, .unset, .unset, .unset, .unset] [(.int (4 : Int32)), (.int p3), (.int (32 : Int32)), (.long q1), (.int (4 : Int32)), (.ref b2), (.ref b2)])) := fun t k => P35 t (by
    show Steps p.tables e below (T34.setTop (mkF m 51 #[.val (.long q1), .second, .val (.long q2), .second, .val (.int p3), .val (.int p4), .val (.int p5), .unset, .unset, .unset, .unset, .unset, .unset, .unset] [(.ref b2)])) t
    refine XS.dup X34.here hx rfl (hb hby at_51) rfl rfl ?_
    show Steps p.tables e below (T34.setTop (mkF m 52 #[.val (.long q1), .second, .val (.long q2), .second, .val (.int p3), .val (.int p4), .val (.int p5), .unset, .unset, .unset, .unset, .unset, .unset, .unset] [(.ref b2), (.ref b2)])) t
    refine XS.iconst X34.here hx rfl (hb hby at_52) ?_
    show Steps p.tables e below (T34.setTop (mkF m 53 #[.val (.long q1), .second, .val (.long q2), .second, .val (.int p3), .val (.int p4), .val (.int p5), .unset, .unset, .unset, .unset, .unset, .unset, .unset] [(.int (4 : Int32)), (.ref b2), (.ref b2)])) t
    refine XS.lloadN X34.here hx rfl (hb hby at_53) rfl ?_
    show Steps p.tables e below (T34.setTop (mkF m 54 #[.val (.long q1), .second, .val (.long q2), .second, .val (.int p3), .val (.int p4), .val (.int p5), .unset, .unset, .unset, .unset, .unset, .unset, .unset] [(.long q1), (.int (4 : Int32)), (.ref b2), (.ref b2)])) t
    refine XS.bipush X34.here hx rfl (hb hby at_54) ?_
    show Steps p.tables e below (T34.setTop (mkF m 56 #[.val (.long q1), .second, .val (.long q2), .second, .val (.int p3), .val (.int p4), .val (.int p5), .unset, .unset, .unset, .unset, .unset, .unset, .unset] [(.int (32 : Int32)), (.long q1), (.int (4 : Int32)), (.ref b2), (.ref b2)])) t
    refine XS.iload X34.here hx rfl (hb hby at_56) rfl ?_
    show Steps p.tables e below (T34.setTop (mkF m 58 #[.val (.long q1), .second, .val (.long q2), .second, .val (.int p3), .val (.int p4), .val (.int p5), .unset, .unset, .unset, .unset, .unset, .unset, .unset] [(.int p3), (.int (32 : Int32)), (.long q1), (.int (4 : Int32)), (.ref b2), (.ref b2)])) t
    refine XS.iconst X34.here hx rfl (hb hby at_58) ?_
    exact k)
  have f38 : n0 ≤ h34.size := (Nat.le_trans f30 (Keep.of_wr W34).1)
  obtain ⟨_, _, ⟨T37, L37, k37, n37⟩, -, X37, ⟨Lc37, hQ37, l37, y37, z37⟩, st37⟩ := Jvm.LawKit.callS X34 hx (y := (⟨"com/example/carrel/carrel/server/marc/MarcRecordDigitsPinLaw", "draw", "(JIII)B"⟩ : MethodName)) hown (mvT hZ (hw _ (List.mem_of_getElem? (i := 1) rfl))) (mvT hZ (hw _ (List.mem_of_getElem? (i := 2) rfl))) (mvT hZ (hw _ (List.mem_of_getElem? (i := 3) rfl))) (mvT hZ (hw _ (List.mem_of_getElem? (i := 4) rfl))) (by decide) (backOf (W := 3) (rmDr l Z a0 hw [] q1 (32 : Int32) p3 (4 : Int32) h34 n0 f38 ) hZ (hw _ (List.mem_of_getElem? (i := 4) rfl)) (hw _ (List.mem_of_getElem? (i := 3) rfl)) (by decide) (by decide)) (g := (mkF m 59 #[.val (.long q1), .second, .val (.long q2), .second, .val (.int p3), .val (.int p4), .val (.int p5), .unset, .unset, .unset, .unset, .unset, .unset, .unset] [(.int (4 : Int32)), (.int p3), (.int (32 : Int32)), (.long q1), (.int (4 : Int32)), (.ref b2), (.ref b2)])) rfl (by rw [hml]; rfl) (argsL := [(.long q1), (.int (32 : Int32)), (.int p3), (.int (4 : Int32))]) (rest := [(.int (4 : Int32)), (.ref b2), (.ref b2)]) (lenOf pd_1 rfl) rfl (by show 2 * 0 + _ ≤ _; exact Nat.le_of_eq rfl) (hb hby at_59) (fun _ _ => ⟨rfl, e34, (by decide : 1 + 0 ≤ _), (by decide : 12 + 0 ≤ _)⟩)
  dsimp only [Pt.U, Pt.locs, Pt.cells, Pt.slots] at X37 l37 y37 z37 st37 hQ37
  subst y37 z37
  obtain ⟨rfl, N37q, e37⟩ := hQ37
  have N37 : Fr n0 L37 := by rw [l37]; exact Fr.app N34 N37q
  have P39 : Rch p e below (s₁.setTop (entryFrame m #[(.long q1), (.long q2), (.int p3), (.int p4), (.int p5)] maxLocals)) (T37.setTop (mkF m 62 #[.val (.long q1), .second, .val (.long q2), .second, .val (.int p3), .val (.int p4), .val (.int p5), .unset, .unset, .unset, .unset, .unset, .unset, .unset] [(.int (own_draw q1 (32 : Int32) p3 (4 : Int32))), (.int (4 : Int32)), (.ref b2), (.ref b2)])) := fun t k => P36 t (st37 t k)
  obtain ⟨x40, hx40⟩ : ∃ z : Int32, z = (own_draw q1 (32 : Int32) p3 (4 : Int32)) := ⟨_, rfl⟩
  rw [← hx40] at P39
  have V_o41 := V34
  obtain ⟨co41, Aro41, qo41, So41, Mo41, Ho41, Go41⟩ := V_o41
  have hin42 : ¬ ((4 : Int32) < 0 ∨ co41.slots.size ≤ ((4 : Int32)).toNatClampNeg) := inb_of So41 ⟨by decide, by decide⟩
  obtain ⟨T42, h42, X42, e42, W42, st42⟩ := stB X37 hx hZ e37 Aro41 (j := (4 : Int32)) hin42 (g := (mkF m 62 #[.val (.long q1), .second, .val (.long q2), .second, .val (.int p3), .val (.int p4), .val (.int p5), .unset, .unset, .unset, .unset, .unset, .unset, .unset] [(.int x40), (.int (4 : Int32)), (.ref b2), (.ref b2)])) rfl rfl (hb hby at_62)
  have V42 : Arv Z h42 b2 k2 .byte (12 : Int32) [(.int (nar .byte x8)), (.int (nar .byte x16)), (.int (nar .byte x24)), (.int (nar .byte x32)), (.int (nar .byte x40)), (.int (0 : Int32)), (.int (0 : Int32)), (.int (0 : Int32)), (.int (0 : Int32)), (.int (0 : Int32)), (.int (0 : Int32)), (.int (0 : Int32))] (.int (0 : Int32)) := Arv.set Aro41 qo41 So41 Mo41 Ho41 Go41 (fits_nar_byte _) W42 4 rfl (Nat.le_of_ble_eq_true rfl)
  have P43 : Rch p e below (s₁.setTop (entryFrame m #[(.long q1), (.long q2), (.int p3), (.int p4), (.int p5)] maxLocals)) (T42.setTop (mkF m 63 #[.val (.long q1), .second, .val (.long q2), .second, .val (.int p3), .val (.int p4), .val (.int p5), .unset, .unset, .unset, .unset, .unset, .unset, .unset] [(.ref b2)])) := fun t k => P39 t (st42 t k)
  have N42 := Fr.snoc X42 N37 g_b2
  have P44 : Rch p e below (s₁.setTop (entryFrame m #[(.long q1), (.long q2), (.int p3), (.int p4), (.int p5)] maxLocals)) (T42.setTop (mkF m 71 #[.val (.long q1), .second, .val (.long q2), .second, .val (.int p3), .val (.int p4), .val (.int p5), .unset, .unset, .unset, .unset, .unset, .unset, .unset] [(.int (5 : Int32)), (.int p3), (.int (40 : Int32)), (.long q1), (.int (5 : Int32)), (.ref b2), (.ref b2)])) := fun t k => P43 t (by
    show Steps p.tables e below (T42.setTop (mkF m 63 #[.val (.long q1), .second, .val (.long q2), .second, .val (.int p3), .val (.int p4), .val (.int p5), .unset, .unset, .unset, .unset, .unset, .unset, .unset] [(.ref b2)])) t
    refine XS.dup X42.here hx rfl (hb hby at_63) rfl rfl ?_
    show Steps p.tables e below (T42.setTop (mkF m 64 #[.val (.long q1), .second, .val (.long q2), .second, .val (.int p3), .val (.int p4), .val (.int p5), .unset, .unset, .unset, .unset, .unset, .unset, .unset] [(.ref b2), (.ref b2)])) t
    refine XS.iconst X42.here hx rfl (hb hby at_64) ?_
    show Steps p.tables e below (T42.setTop (mkF m 65 #[.val (.long q1), .second, .val (.long q2), .second, .val (.int p3), .val (.int p4), .val (.int p5), .unset, .unset, .unset, .unset, .unset, .unset, .unset] [(.int (5 : Int32)), (.ref b2), (.ref b2)])) t
    refine XS.lloadN X42.here hx rfl (hb hby at_65) rfl ?_
    show Steps p.tables e below (T42.setTop (mkF m 66 #[.val (.long q1), .second, .val (.long q2), .second, .val (.int p3), .val (.int p4), .val (.int p5), .unset, .unset, .unset, .unset, .unset, .unset, .unset] [(.long q1), (.int (5 : Int32)), (.ref b2), (.ref b2)])) t
    refine XS.bipush X42.here hx rfl (hb hby at_66) ?_
    show Steps p.tables e below (T42.setTop (mkF m 68 #[.val (.long q1), .second, .val (.long q2), .second, .val (.int p3), .val (.int p4), .val (.int p5), .unset, .unset, .unset, .unset, .unset, .unset, .unset] [(.int (40 : Int32)), (.long q1), (.int (5 : Int32)), (.ref b2), (.ref b2)])) t
    refine XS.iload X42.here hx rfl (hb hby at_68) rfl ?_
    show Steps p.tables e below (T42.setTop (mkF m 70 #[.val (.long q1), .second, .val (.long q2), .second, .val (.int p3), .val (.int p4), .val (.int p5), .unset, .unset, .unset, .unset, .unset, .unset, .unset] [(.int p3), (.int (40 : Int32)), (.long q1), (.int (5 : Int32)), (.ref b2), (.ref b2)])) t
    refine XS.iconst X42.here hx rfl (hb hby at_70) ?_
    exact k)
  have f46 : n0 ≤ h42.size := (Nat.le_trans f38 (Keep.of_wr W42).1)
  obtain ⟨_, _, ⟨T45, L45, k45, n45⟩, -, X45, ⟨Lc45, hQ45, l45, y45, z45⟩, st45⟩ := Jvm.LawKit.callS X42 hx (y := (⟨"com/example/carrel/carrel/server/marc/MarcRecordDigitsPinLaw", "draw", "(JIII)B"⟩ : MethodName)) hown (mvT hZ (hw _ (List.mem_of_getElem? (i := 1) rfl))) (mvT hZ (hw _ (List.mem_of_getElem? (i := 2) rfl))) (mvT hZ (hw _ (List.mem_of_getElem? (i := 3) rfl))) (mvT hZ (hw _ (List.mem_of_getElem? (i := 4) rfl))) (by decide) (backOf (W := 3) (rmDr l Z a0 hw [] q1 (40 : Int32) p3 (5 : Int32) h42 n0 f46 ) hZ (hw _ (List.mem_of_getElem? (i := 4) rfl)) (hw _ (List.mem_of_getElem? (i := 3) rfl)) (by decide) (by decide)) (g := (mkF m 71 #[.val (.long q1), .second, .val (.long q2), .second, .val (.int p3), .val (.int p4), .val (.int p5), .unset, .unset, .unset, .unset, .unset, .unset, .unset] [(.int (5 : Int32)), (.int p3), (.int (40 : Int32)), (.long q1), (.int (5 : Int32)), (.ref b2), (.ref b2)])) rfl (by rw [hml]; rfl) (argsL := [(.long q1), (.int (40 : Int32)), (.int p3), (.int (5 : Int32))]) (rest := [(.int (5 : Int32)), (.ref b2), (.ref b2)]) (lenOf pd_1 rfl) rfl (by show 2 * 0 + _ ≤ _; exact Nat.le_of_eq rfl) (hb hby at_71) (fun _ _ => ⟨rfl, e42, (by decide : 1 + 0 ≤ _), (by decide : 12 + 0 ≤ _)⟩)
  dsimp only [Pt.U, Pt.locs, Pt.cells, Pt.slots] at X45 l45 y45 z45 st45 hQ45
  subst y45 z45
  obtain ⟨rfl, N45q, e45⟩ := hQ45
  have N45 : Fr n0 L45 := by rw [l45]; exact Fr.app N42 N45q
  have P47 : Rch p e below (s₁.setTop (entryFrame m #[(.long q1), (.long q2), (.int p3), (.int p4), (.int p5)] maxLocals)) (T45.setTop (mkF m 74 #[.val (.long q1), .second, .val (.long q2), .second, .val (.int p3), .val (.int p4), .val (.int p5), .unset, .unset, .unset, .unset, .unset, .unset, .unset] [(.int (own_draw q1 (40 : Int32) p3 (5 : Int32))), (.int (5 : Int32)), (.ref b2), (.ref b2)])) := fun t k => P44 t (st45 t k)
  obtain ⟨x48, hx48⟩ : ∃ z : Int32, z = (own_draw q1 (40 : Int32) p3 (5 : Int32)) := ⟨_, rfl⟩
  rw [← hx48] at P47
  have V_o49 := V42
  obtain ⟨co49, Aro49, qo49, So49, Mo49, Ho49, Go49⟩ := V_o49
  have hin50 : ¬ ((5 : Int32) < 0 ∨ co49.slots.size ≤ ((5 : Int32)).toNatClampNeg) := inb_of So49 ⟨by decide, by decide⟩
  obtain ⟨T50, h50, X50, e50, W50, st50⟩ := stB X45 hx hZ e45 Aro49 (j := (5 : Int32)) hin50 (g := (mkF m 74 #[.val (.long q1), .second, .val (.long q2), .second, .val (.int p3), .val (.int p4), .val (.int p5), .unset, .unset, .unset, .unset, .unset, .unset, .unset] [(.int x48), (.int (5 : Int32)), (.ref b2), (.ref b2)])) rfl rfl (hb hby at_74)
  have V50 : Arv Z h50 b2 k2 .byte (12 : Int32) [(.int (nar .byte x8)), (.int (nar .byte x16)), (.int (nar .byte x24)), (.int (nar .byte x32)), (.int (nar .byte x40)), (.int (nar .byte x48)), (.int (0 : Int32)), (.int (0 : Int32)), (.int (0 : Int32)), (.int (0 : Int32)), (.int (0 : Int32)), (.int (0 : Int32))] (.int (0 : Int32)) := Arv.set Aro49 qo49 So49 Mo49 Ho49 Go49 (fits_nar_byte _) W50 5 rfl (Nat.le_of_ble_eq_true rfl)
  have P51 : Rch p e below (s₁.setTop (entryFrame m #[(.long q1), (.long q2), (.int p3), (.int p4), (.int p5)] maxLocals)) (T50.setTop (mkF m 75 #[.val (.long q1), .second, .val (.long q2), .second, .val (.int p3), .val (.int p4), .val (.int p5), .unset, .unset, .unset, .unset, .unset, .unset, .unset] [(.ref b2)])) := fun t k => P47 t (st50 t k)
  have N50 := Fr.snoc X50 N45 g_b2
  have P52 : Rch p e below (s₁.setTop (entryFrame m #[(.long q1), (.long q2), (.int p3), (.int p4), (.int p5)] maxLocals)) (T50.setTop (mkF m 85 #[.val (.long q1), .second, .val (.long q2), .second, .val (.int p3), .val (.int p4), .val (.int p5), .unset, .unset, .unset, .unset, .unset, .unset, .unset] [(.int (6 : Int32)), (.int p3), (.int (48 : Int32)), (.long q1), (.int (6 : Int32)), (.ref b2), (.ref b2)])) := fun t k => P51 t (by
    show Steps p.tables e below (T50.setTop (mkF m 75 #[.val (.long q1), .second, .val (.long q2), .second, .val (.int p3), .val (.int p4), .val (.int p5), .unset, .unset, .unset, .unset, .unset, .unset, .unset] [(.ref b2)])) t
    refine XS.dup X50.here hx rfl (hb hby at_75) rfl rfl ?_
    show Steps p.tables e below (T50.setTop (mkF m 76 #[.val (.long q1), .second, .val (.long q2), .second, .val (.int p3), .val (.int p4), .val (.int p5), .unset, .unset, .unset, .unset, .unset, .unset, .unset] [(.ref b2), (.ref b2)])) t
    refine XS.bipush X50.here hx rfl (hb hby at_76) ?_
    show Steps p.tables e below (T50.setTop (mkF m 78 #[.val (.long q1), .second, .val (.long q2), .second, .val (.int p3), .val (.int p4), .val (.int p5), .unset, .unset, .unset, .unset, .unset, .unset, .unset] [(.int (6 : Int32)), (.ref b2), (.ref b2)])) t
    refine XS.lloadN X50.here hx rfl (hb hby at_78) rfl ?_
    show Steps p.tables e below (T50.setTop (mkF m 79 #[.val (.long q1), .second, .val (.long q2), .second, .val (.int p3), .val (.int p4), .val (.int p5), .unset, .unset, .unset, .unset, .unset, .unset, .unset] [(.long q1), (.int (6 : Int32)), (.ref b2), (.ref b2)])) t
    refine XS.bipush X50.here hx rfl (hb hby at_79) ?_
    show Steps p.tables e below (T50.setTop (mkF m 81 #[.val (.long q1), .second, .val (.long q2), .second, .val (.int p3), .val (.int p4), .val (.int p5), .unset, .unset, .unset, .unset, .unset, .unset, .unset] [(.int (48 : Int32)), (.long q1), (.int (6 : Int32)), (.ref b2), (.ref b2)])) t
    refine XS.iload X50.here hx rfl (hb hby at_81) rfl ?_
    show Steps p.tables e below (T50.setTop (mkF m 83 #[.val (.long q1), .second, .val (.long q2), .second, .val (.int p3), .val (.int p4), .val (.int p5), .unset, .unset, .unset, .unset, .unset, .unset, .unset] [(.int p3), (.int (48 : Int32)), (.long q1), (.int (6 : Int32)), (.ref b2), (.ref b2)])) t
    refine XS.bipush X50.here hx rfl (hb hby at_83) ?_
    exact k)
  have f54 : n0 ≤ h50.size := (Nat.le_trans f46 (Keep.of_wr W50).1)
  obtain ⟨_, _, ⟨T53, L53, k53, n53⟩, -, X53, ⟨Lc53, hQ53, l53, y53, z53⟩, st53⟩ := Jvm.LawKit.callS X50 hx (y := (⟨"com/example/carrel/carrel/server/marc/MarcRecordDigitsPinLaw", "draw", "(JIII)B"⟩ : MethodName)) hown (mvT hZ (hw _ (List.mem_of_getElem? (i := 1) rfl))) (mvT hZ (hw _ (List.mem_of_getElem? (i := 2) rfl))) (mvT hZ (hw _ (List.mem_of_getElem? (i := 3) rfl))) (mvT hZ (hw _ (List.mem_of_getElem? (i := 4) rfl))) (by decide) (backOf (W := 3) (rmDr l Z a0 hw [] q1 (48 : Int32) p3 (6 : Int32) h50 n0 f54 ) hZ (hw _ (List.mem_of_getElem? (i := 4) rfl)) (hw _ (List.mem_of_getElem? (i := 3) rfl)) (by decide) (by decide)) (g := (mkF m 85 #[.val (.long q1), .second, .val (.long q2), .second, .val (.int p3), .val (.int p4), .val (.int p5), .unset, .unset, .unset, .unset, .unset, .unset, .unset] [(.int (6 : Int32)), (.int p3), (.int (48 : Int32)), (.long q1), (.int (6 : Int32)), (.ref b2), (.ref b2)])) rfl (by rw [hml]; rfl) (argsL := [(.long q1), (.int (48 : Int32)), (.int p3), (.int (6 : Int32))]) (rest := [(.int (6 : Int32)), (.ref b2), (.ref b2)]) (lenOf pd_1 rfl) rfl (by show 2 * 0 + _ ≤ _; exact Nat.le_of_eq rfl) (hb hby at_85) (fun _ _ => ⟨rfl, e50, (by decide : 1 + 0 ≤ _), (by decide : 12 + 0 ≤ _)⟩)
  dsimp only [Pt.U, Pt.locs, Pt.cells, Pt.slots] at X53 l53 y53 z53 st53 hQ53
  subst y53 z53
  obtain ⟨rfl, N53q, e53⟩ := hQ53
  have N53 : Fr n0 L53 := by rw [l53]; exact Fr.app N50 N53q
  have P55 : Rch p e below (s₁.setTop (entryFrame m #[(.long q1), (.long q2), (.int p3), (.int p4), (.int p5)] maxLocals)) (T53.setTop (mkF m 88 #[.val (.long q1), .second, .val (.long q2), .second, .val (.int p3), .val (.int p4), .val (.int p5), .unset, .unset, .unset, .unset, .unset, .unset, .unset] [(.int (own_draw q1 (48 : Int32) p3 (6 : Int32))), (.int (6 : Int32)), (.ref b2), (.ref b2)])) := fun t k => P52 t (st53 t k)
  obtain ⟨x56, hx56⟩ : ∃ z : Int32, z = (own_draw q1 (48 : Int32) p3 (6 : Int32)) := ⟨_, rfl⟩
  rw [← hx56] at P55
  have V_o57 := V50
  obtain ⟨co57, Aro57, qo57, So57, Mo57, Ho57, Go57⟩ := V_o57
  have hin58 : ¬ ((6 : Int32) < 0 ∨ co57.slots.size ≤ ((6 : Int32)).toNatClampNeg) := inb_of So57 ⟨by decide, by decide⟩
  obtain ⟨T58, h58, X58, e58, W58, st58⟩ := stB X53 hx hZ e53 Aro57 (j := (6 : Int32)) hin58 (g := (mkF m 88 #[.val (.long q1), .second, .val (.long q2), .second, .val (.int p3), .val (.int p4), .val (.int p5), .unset, .unset, .unset, .unset, .unset, .unset, .unset] [(.int x56), (.int (6 : Int32)), (.ref b2), (.ref b2)])) rfl rfl (hb hby at_88)
  have V58 : Arv Z h58 b2 k2 .byte (12 : Int32) [(.int (nar .byte x8)), (.int (nar .byte x16)), (.int (nar .byte x24)), (.int (nar .byte x32)), (.int (nar .byte x40)), (.int (nar .byte x48)), (.int (nar .byte x56)), (.int (0 : Int32)), (.int (0 : Int32)), (.int (0 : Int32)), (.int (0 : Int32)), (.int (0 : Int32))] (.int (0 : Int32)) := Arv.set Aro57 qo57 So57 Mo57 Ho57 Go57 (fits_nar_byte _) W58 6 rfl (Nat.le_of_ble_eq_true rfl)
  have P59 : Rch p e below (s₁.setTop (entryFrame m #[(.long q1), (.long q2), (.int p3), (.int p4), (.int p5)] maxLocals)) (T58.setTop (mkF m 89 #[.val (.long q1), .second, .val (.long q2), .second, .val (.int p3), .val (.int p4), .val (.int p5), .unset, .unset, .unset, .unset, .unset, .unset, .unset] [(.ref b2)])) := fun t k => P55 t (st58 t k)
  have N58 := Fr.snoc X58 N53 g_b2
  have P60 : Rch p e below (s₁.setTop (entryFrame m #[(.long q1), (.long q2), (.int p3), (.int p4), (.int p5)] maxLocals)) (T58.setTop (mkF m 99 #[.val (.long q1), .second, .val (.long q2), .second, .val (.int p3), .val (.int p4), .val (.int p5), .unset, .unset, .unset, .unset, .unset, .unset, .unset] [(.int (7 : Int32)), (.int p3), (.int (56 : Int32)), (.long q1), (.int (7 : Int32)), (.ref b2), (.ref b2)])) := fun t k => P59 t (by
    show Steps p.tables e below (T58.setTop (mkF m 89 #[.val (.long q1), .second, .val (.long q2), .second, .val (.int p3), .val (.int p4), .val (.int p5), .unset, .unset, .unset, .unset, .unset, .unset, .unset] [(.ref b2)])) t
    refine XS.dup X58.here hx rfl (hb hby at_89) rfl rfl ?_
    show Steps p.tables e below (T58.setTop (mkF m 90 #[.val (.long q1), .second, .val (.long q2), .second, .val (.int p3), .val (.int p4), .val (.int p5), .unset, .unset, .unset, .unset, .unset, .unset, .unset] [(.ref b2), (.ref b2)])) t
    refine XS.bipush X58.here hx rfl (hb hby at_90) ?_
    show Steps p.tables e below (T58.setTop (mkF m 92 #[.val (.long q1), .second, .val (.long q2), .second, .val (.int p3), .val (.int p4), .val (.int p5), .unset, .unset, .unset, .unset, .unset, .unset, .unset] [(.int (7 : Int32)), (.ref b2), (.ref b2)])) t
    refine XS.lloadN X58.here hx rfl (hb hby at_92) rfl ?_
    show Steps p.tables e below (T58.setTop (mkF m 93 #[.val (.long q1), .second, .val (.long q2), .second, .val (.int p3), .val (.int p4), .val (.int p5), .unset, .unset, .unset, .unset, .unset, .unset, .unset] [(.long q1), (.int (7 : Int32)), (.ref b2), (.ref b2)])) t
    refine XS.bipush X58.here hx rfl (hb hby at_93) ?_
    show Steps p.tables e below (T58.setTop (mkF m 95 #[.val (.long q1), .second, .val (.long q2), .second, .val (.int p3), .val (.int p4), .val (.int p5), .unset, .unset, .unset, .unset, .unset, .unset, .unset] [(.int (56 : Int32)), (.long q1), (.int (7 : Int32)), (.ref b2), (.ref b2)])) t
    refine XS.iload X58.here hx rfl (hb hby at_95) rfl ?_
    show Steps p.tables e below (T58.setTop (mkF m 97 #[.val (.long q1), .second, .val (.long q2), .second, .val (.int p3), .val (.int p4), .val (.int p5), .unset, .unset, .unset, .unset, .unset, .unset, .unset] [(.int p3), (.int (56 : Int32)), (.long q1), (.int (7 : Int32)), (.ref b2), (.ref b2)])) t
    refine XS.bipush X58.here hx rfl (hb hby at_97) ?_
    exact k)
  have f62 : n0 ≤ h58.size := (Nat.le_trans f54 (Keep.of_wr W58).1)
  obtain ⟨_, _, ⟨T61, L61, k61, n61⟩, -, X61, ⟨Lc61, hQ61, l61, y61, z61⟩, st61⟩ := Jvm.LawKit.callS X58 hx (y := (⟨"com/example/carrel/carrel/server/marc/MarcRecordDigitsPinLaw", "draw", "(JIII)B"⟩ : MethodName)) hown (mvT hZ (hw _ (List.mem_of_getElem? (i := 1) rfl))) (mvT hZ (hw _ (List.mem_of_getElem? (i := 2) rfl))) (mvT hZ (hw _ (List.mem_of_getElem? (i := 3) rfl))) (mvT hZ (hw _ (List.mem_of_getElem? (i := 4) rfl))) (by decide) (backOf (W := 3) (rmDr l Z a0 hw [] q1 (56 : Int32) p3 (7 : Int32) h58 n0 f62 ) hZ (hw _ (List.mem_of_getElem? (i := 4) rfl)) (hw _ (List.mem_of_getElem? (i := 3) rfl)) (by decide) (by decide)) (g := (mkF m 99 #[.val (.long q1), .second, .val (.long q2), .second, .val (.int p3), .val (.int p4), .val (.int p5), .unset, .unset, .unset, .unset, .unset, .unset, .unset] [(.int (7 : Int32)), (.int p3), (.int (56 : Int32)), (.long q1), (.int (7 : Int32)), (.ref b2), (.ref b2)])) rfl (by rw [hml]; rfl) (argsL := [(.long q1), (.int (56 : Int32)), (.int p3), (.int (7 : Int32))]) (rest := [(.int (7 : Int32)), (.ref b2), (.ref b2)]) (lenOf pd_1 rfl) rfl (by show 2 * 0 + _ ≤ _; exact Nat.le_of_eq rfl) (hb hby at_99) (fun _ _ => ⟨rfl, e58, (by decide : 1 + 0 ≤ _), (by decide : 12 + 0 ≤ _)⟩)
  dsimp only [Pt.U, Pt.locs, Pt.cells, Pt.slots] at X61 l61 y61 z61 st61 hQ61
  subst y61 z61
  obtain ⟨rfl, N61q, e61⟩ := hQ61
  have N61 : Fr n0 L61 := by rw [l61]; exact Fr.app N58 N61q
  have P63 : Rch p e below (s₁.setTop (entryFrame m #[(.long q1), (.long q2), (.int p3), (.int p4), (.int p5)] maxLocals)) (T61.setTop (mkF m 102 #[.val (.long q1), .second, .val (.long q2), .second, .val (.int p3), .val (.int p4), .val (.int p5), .unset, .unset, .unset, .unset, .unset, .unset, .unset] [(.int (own_draw q1 (56 : Int32) p3 (7 : Int32))), (.int (7 : Int32)), (.ref b2), (.ref b2)])) := fun t k => P60 t (st61 t k)
  obtain ⟨x64, hx64⟩ : ∃ z : Int32, z = (own_draw q1 (56 : Int32) p3 (7 : Int32)) := ⟨_, rfl⟩
  rw [← hx64] at P63
  have V_o65 := V58
  obtain ⟨co65, Aro65, qo65, So65, Mo65, Ho65, Go65⟩ := V_o65
  have hin66 : ¬ ((7 : Int32) < 0 ∨ co65.slots.size ≤ ((7 : Int32)).toNatClampNeg) := inb_of So65 ⟨by decide, by decide⟩
  obtain ⟨T66, h66, X66, e66, W66, st66⟩ := stB X61 hx hZ e61 Aro65 (j := (7 : Int32)) hin66 (g := (mkF m 102 #[.val (.long q1), .second, .val (.long q2), .second, .val (.int p3), .val (.int p4), .val (.int p5), .unset, .unset, .unset, .unset, .unset, .unset, .unset] [(.int x64), (.int (7 : Int32)), (.ref b2), (.ref b2)])) rfl rfl (hb hby at_102)
  have V66 : Arv Z h66 b2 k2 .byte (12 : Int32) [(.int (nar .byte x8)), (.int (nar .byte x16)), (.int (nar .byte x24)), (.int (nar .byte x32)), (.int (nar .byte x40)), (.int (nar .byte x48)), (.int (nar .byte x56)), (.int (nar .byte x64)), (.int (0 : Int32)), (.int (0 : Int32)), (.int (0 : Int32)), (.int (0 : Int32))] (.int (0 : Int32)) := Arv.set Aro65 qo65 So65 Mo65 Ho65 Go65 (fits_nar_byte _) W66 7 rfl (Nat.le_of_ble_eq_true rfl)
  have P67 : Rch p e below (s₁.setTop (entryFrame m #[(.long q1), (.long q2), (.int p3), (.int p4), (.int p5)] maxLocals)) (T66.setTop (mkF m 103 #[.val (.long q1), .second, .val (.long q2), .second, .val (.int p3), .val (.int p4), .val (.int p5), .unset, .unset, .unset, .unset, .unset, .unset, .unset] [(.ref b2)])) := fun t k => P63 t (st66 t k)
  have N66 := Fr.snoc X66 N61 g_b2
  have P68 : Rch p e below (s₁.setTop (entryFrame m #[(.long q1), (.long q2), (.int p3), (.int p4), (.int p5)] maxLocals)) (T66.setTop (mkF m 112 #[.val (.long q1), .second, .val (.long q2), .second, .val (.int p3), .val (.int p4), .val (.int p5), .unset, .unset, .unset, .unset, .unset, .unset, .unset] [(.int (8 : Int32)), (.int p3), (.int (0 : Int32)), (.long q2), (.int (8 : Int32)), (.ref b2), (.ref b2)])) := fun t k => P67 t (by
    show Steps p.tables e below (T66.setTop (mkF m 103 #[.val (.long q1), .second, .val (.long q2), .second, .val (.int p3), .val (.int p4), .val (.int p5), .unset, .unset, .unset, .unset, .unset, .unset, .unset] [(.ref b2)])) t
    refine XS.dup X66.here hx rfl (hb hby at_103) rfl rfl ?_
    show Steps p.tables e below (T66.setTop (mkF m 104 #[.val (.long q1), .second, .val (.long q2), .second, .val (.int p3), .val (.int p4), .val (.int p5), .unset, .unset, .unset, .unset, .unset, .unset, .unset] [(.ref b2), (.ref b2)])) t
    refine XS.bipush X66.here hx rfl (hb hby at_104) ?_
    show Steps p.tables e below (T66.setTop (mkF m 106 #[.val (.long q1), .second, .val (.long q2), .second, .val (.int p3), .val (.int p4), .val (.int p5), .unset, .unset, .unset, .unset, .unset, .unset, .unset] [(.int (8 : Int32)), (.ref b2), (.ref b2)])) t
    refine XS.lloadN X66.here hx rfl (hb hby at_106) rfl ?_
    show Steps p.tables e below (T66.setTop (mkF m 107 #[.val (.long q1), .second, .val (.long q2), .second, .val (.int p3), .val (.int p4), .val (.int p5), .unset, .unset, .unset, .unset, .unset, .unset, .unset] [(.long q2), (.int (8 : Int32)), (.ref b2), (.ref b2)])) t
    refine XS.iconst X66.here hx rfl (hb hby at_107) ?_
    show Steps p.tables e below (T66.setTop (mkF m 108 #[.val (.long q1), .second, .val (.long q2), .second, .val (.int p3), .val (.int p4), .val (.int p5), .unset, .unset, .unset, .unset, .unset, .unset, .unset] [(.int (0 : Int32)), (.long q2), (.int (8 : Int32)), (.ref b2), (.ref b2)])) t
    refine XS.iload X66.here hx rfl (hb hby at_108) rfl ?_
    show Steps p.tables e below (T66.setTop (mkF m 110 #[.val (.long q1), .second, .val (.long q2), .second, .val (.int p3), .val (.int p4), .val (.int p5), .unset, .unset, .unset, .unset, .unset, .unset, .unset] [(.int p3), (.int (0 : Int32)), (.long q2), (.int (8 : Int32)), (.ref b2), (.ref b2)])) t
    refine XS.bipush X66.here hx rfl (hb hby at_110) ?_
    exact k)
  have f70 : n0 ≤ h66.size := (Nat.le_trans f62 (Keep.of_wr W66).1)
  obtain ⟨_, _, ⟨T69, L69, k69, n69⟩, -, X69, ⟨Lc69, hQ69, l69, y69, z69⟩, st69⟩ := Jvm.LawKit.callS X66 hx (y := (⟨"com/example/carrel/carrel/server/marc/MarcRecordDigitsPinLaw", "draw", "(JIII)B"⟩ : MethodName)) hown (mvT hZ (hw _ (List.mem_of_getElem? (i := 1) rfl))) (mvT hZ (hw _ (List.mem_of_getElem? (i := 2) rfl))) (mvT hZ (hw _ (List.mem_of_getElem? (i := 3) rfl))) (mvT hZ (hw _ (List.mem_of_getElem? (i := 4) rfl))) (by decide) (backOf (W := 3) (rmDr l Z a0 hw [] q2 (0 : Int32) p3 (8 : Int32) h66 n0 f70 ) hZ (hw _ (List.mem_of_getElem? (i := 4) rfl)) (hw _ (List.mem_of_getElem? (i := 3) rfl)) (by decide) (by decide)) (g := (mkF m 112 #[.val (.long q1), .second, .val (.long q2), .second, .val (.int p3), .val (.int p4), .val (.int p5), .unset, .unset, .unset, .unset, .unset, .unset, .unset] [(.int (8 : Int32)), (.int p3), (.int (0 : Int32)), (.long q2), (.int (8 : Int32)), (.ref b2), (.ref b2)])) rfl (by rw [hml]; rfl) (argsL := [(.long q2), (.int (0 : Int32)), (.int p3), (.int (8 : Int32))]) (rest := [(.int (8 : Int32)), (.ref b2), (.ref b2)]) (lenOf pd_1 rfl) rfl (by show 2 * 0 + _ ≤ _; exact Nat.le_of_eq rfl) (hb hby at_112) (fun _ _ => ⟨rfl, e66, (by decide : 1 + 0 ≤ _), (by decide : 12 + 0 ≤ _)⟩)
  dsimp only [Pt.U, Pt.locs, Pt.cells, Pt.slots] at X69 l69 y69 z69 st69 hQ69
  subst y69 z69
  obtain ⟨rfl, N69q, e69⟩ := hQ69
  have N69 : Fr n0 L69 := by rw [l69]; exact Fr.app N66 N69q
  have P71 : Rch p e below (s₁.setTop (entryFrame m #[(.long q1), (.long q2), (.int p3), (.int p4), (.int p5)] maxLocals)) (T69.setTop (mkF m 115 #[.val (.long q1), .second, .val (.long q2), .second, .val (.int p3), .val (.int p4), .val (.int p5), .unset, .unset, .unset, .unset, .unset, .unset, .unset] [(.int (own_draw q2 (0 : Int32) p3 (8 : Int32))), (.int (8 : Int32)), (.ref b2), (.ref b2)])) := fun t k => P68 t (st69 t k)
  obtain ⟨x72, hx72⟩ : ∃ z : Int32, z = (own_draw q2 (0 : Int32) p3 (8 : Int32)) := ⟨_, rfl⟩
  rw [← hx72] at P71
  have V_o73 := V66
  obtain ⟨co73, Aro73, qo73, So73, Mo73, Ho73, Go73⟩ := V_o73
  have hin74 : ¬ ((8 : Int32) < 0 ∨ co73.slots.size ≤ ((8 : Int32)).toNatClampNeg) := inb_of So73 ⟨by decide, by decide⟩
  obtain ⟨T74, h74, X74, e74, W74, st74⟩ := stB X69 hx hZ e69 Aro73 (j := (8 : Int32)) hin74 (g := (mkF m 115 #[.val (.long q1), .second, .val (.long q2), .second, .val (.int p3), .val (.int p4), .val (.int p5), .unset, .unset, .unset, .unset, .unset, .unset, .unset] [(.int x72), (.int (8 : Int32)), (.ref b2), (.ref b2)])) rfl rfl (hb hby at_115)
  have V74 : Arv Z h74 b2 k2 .byte (12 : Int32) [(.int (nar .byte x8)), (.int (nar .byte x16)), (.int (nar .byte x24)), (.int (nar .byte x32)), (.int (nar .byte x40)), (.int (nar .byte x48)), (.int (nar .byte x56)), (.int (nar .byte x64)), (.int (nar .byte x72)), (.int (0 : Int32)), (.int (0 : Int32)), (.int (0 : Int32))] (.int (0 : Int32)) := Arv.set Aro73 qo73 So73 Mo73 Ho73 Go73 (fits_nar_byte _) W74 8 rfl (Nat.le_of_ble_eq_true rfl)
  have P75 : Rch p e below (s₁.setTop (entryFrame m #[(.long q1), (.long q2), (.int p3), (.int p4), (.int p5)] maxLocals)) (T74.setTop (mkF m 116 #[.val (.long q1), .second, .val (.long q2), .second, .val (.int p3), .val (.int p4), .val (.int p5), .unset, .unset, .unset, .unset, .unset, .unset, .unset] [(.ref b2)])) := fun t k => P71 t (st74 t k)
  have N74 := Fr.snoc X74 N69 g_b2
  have P76 : Rch p e below (s₁.setTop (entryFrame m #[(.long q1), (.long q2), (.int p3), (.int p4), (.int p5)] maxLocals)) (T74.setTop (mkF m 126 #[.val (.long q1), .second, .val (.long q2), .second, .val (.int p3), .val (.int p4), .val (.int p5), .unset, .unset, .unset, .unset, .unset, .unset, .unset] [(.int (9 : Int32)), (.int p3), (.int (8 : Int32)), (.long q2), (.int (9 : Int32)), (.ref b2), (.ref b2)])) := fun t k => P75 t (by
    show Steps p.tables e below (T74.setTop (mkF m 116 #[.val (.long q1), .second, .val (.long q2), .second, .val (.int p3), .val (.int p4), .val (.int p5), .unset, .unset, .unset, .unset, .unset, .unset, .unset] [(.ref b2)])) t
    refine XS.dup X74.here hx rfl (hb hby at_116) rfl rfl ?_
    show Steps p.tables e below (T74.setTop (mkF m 117 #[.val (.long q1), .second, .val (.long q2), .second, .val (.int p3), .val (.int p4), .val (.int p5), .unset, .unset, .unset, .unset, .unset, .unset, .unset] [(.ref b2), (.ref b2)])) t
    refine XS.bipush X74.here hx rfl (hb hby at_117) ?_
    show Steps p.tables e below (T74.setTop (mkF m 119 #[.val (.long q1), .second, .val (.long q2), .second, .val (.int p3), .val (.int p4), .val (.int p5), .unset, .unset, .unset, .unset, .unset, .unset, .unset] [(.int (9 : Int32)), (.ref b2), (.ref b2)])) t
    refine XS.lloadN X74.here hx rfl (hb hby at_119) rfl ?_
    show Steps p.tables e below (T74.setTop (mkF m 120 #[.val (.long q1), .second, .val (.long q2), .second, .val (.int p3), .val (.int p4), .val (.int p5), .unset, .unset, .unset, .unset, .unset, .unset, .unset] [(.long q2), (.int (9 : Int32)), (.ref b2), (.ref b2)])) t
    refine XS.bipush X74.here hx rfl (hb hby at_120) ?_
    show Steps p.tables e below (T74.setTop (mkF m 122 #[.val (.long q1), .second, .val (.long q2), .second, .val (.int p3), .val (.int p4), .val (.int p5), .unset, .unset, .unset, .unset, .unset, .unset, .unset] [(.int (8 : Int32)), (.long q2), (.int (9 : Int32)), (.ref b2), (.ref b2)])) t
    refine XS.iload X74.here hx rfl (hb hby at_122) rfl ?_
    show Steps p.tables e below (T74.setTop (mkF m 124 #[.val (.long q1), .second, .val (.long q2), .second, .val (.int p3), .val (.int p4), .val (.int p5), .unset, .unset, .unset, .unset, .unset, .unset, .unset] [(.int p3), (.int (8 : Int32)), (.long q2), (.int (9 : Int32)), (.ref b2), (.ref b2)])) t
    refine XS.bipush X74.here hx rfl (hb hby at_124) ?_
    exact k)
  have f78 : n0 ≤ h74.size := (Nat.le_trans f70 (Keep.of_wr W74).1)
  obtain ⟨_, _, ⟨T77, L77, k77, n77⟩, -, X77, ⟨Lc77, hQ77, l77, y77, z77⟩, st77⟩ := Jvm.LawKit.callS X74 hx (y := (⟨"com/example/carrel/carrel/server/marc/MarcRecordDigitsPinLaw", "draw", "(JIII)B"⟩ : MethodName)) hown (mvT hZ (hw _ (List.mem_of_getElem? (i := 1) rfl))) (mvT hZ (hw _ (List.mem_of_getElem? (i := 2) rfl))) (mvT hZ (hw _ (List.mem_of_getElem? (i := 3) rfl))) (mvT hZ (hw _ (List.mem_of_getElem? (i := 4) rfl))) (by decide) (backOf (W := 3) (rmDr l Z a0 hw [] q2 (8 : Int32) p3 (9 : Int32) h74 n0 f78 ) hZ (hw _ (List.mem_of_getElem? (i := 4) rfl)) (hw _ (List.mem_of_getElem? (i := 3) rfl)) (by decide) (by decide)) (g := (mkF m 126 #[.val (.long q1), .second, .val (.long q2), .second, .val (.int p3), .val (.int p4), .val (.int p5), .unset, .unset, .unset, .unset, .unset, .unset, .unset] [(.int (9 : Int32)), (.int p3), (.int (8 : Int32)), (.long q2), (.int (9 : Int32)), (.ref b2), (.ref b2)])) rfl (by rw [hml]; rfl) (argsL := [(.long q2), (.int (8 : Int32)), (.int p3), (.int (9 : Int32))]) (rest := [(.int (9 : Int32)), (.ref b2), (.ref b2)]) (lenOf pd_1 rfl) rfl (by show 2 * 0 + _ ≤ _; exact Nat.le_of_eq rfl) (hb hby at_126) (fun _ _ => ⟨rfl, e74, (by decide : 1 + 0 ≤ _), (by decide : 12 + 0 ≤ _)⟩)
  dsimp only [Pt.U, Pt.locs, Pt.cells, Pt.slots] at X77 l77 y77 z77 st77 hQ77
  subst y77 z77
  obtain ⟨rfl, N77q, e77⟩ := hQ77
  have N77 : Fr n0 L77 := by rw [l77]; exact Fr.app N74 N77q
  have P79 : Rch p e below (s₁.setTop (entryFrame m #[(.long q1), (.long q2), (.int p3), (.int p4), (.int p5)] maxLocals)) (T77.setTop (mkF m 129 #[.val (.long q1), .second, .val (.long q2), .second, .val (.int p3), .val (.int p4), .val (.int p5), .unset, .unset, .unset, .unset, .unset, .unset, .unset] [(.int (own_draw q2 (8 : Int32) p3 (9 : Int32))), (.int (9 : Int32)), (.ref b2), (.ref b2)])) := fun t k => P76 t (st77 t k)
  obtain ⟨x80, hx80⟩ : ∃ z : Int32, z = (own_draw q2 (8 : Int32) p3 (9 : Int32)) := ⟨_, rfl⟩
  rw [← hx80] at P79
  have V_o81 := V74
  obtain ⟨co81, Aro81, qo81, So81, Mo81, Ho81, Go81⟩ := V_o81
  have hin82 : ¬ ((9 : Int32) < 0 ∨ co81.slots.size ≤ ((9 : Int32)).toNatClampNeg) := inb_of So81 ⟨by decide, by decide⟩
  obtain ⟨T82, h82, X82, e82, W82, st82⟩ := stB X77 hx hZ e77 Aro81 (j := (9 : Int32)) hin82 (g := (mkF m 129 #[.val (.long q1), .second, .val (.long q2), .second, .val (.int p3), .val (.int p4), .val (.int p5), .unset, .unset, .unset, .unset, .unset, .unset, .unset] [(.int x80), (.int (9 : Int32)), (.ref b2), (.ref b2)])) rfl rfl (hb hby at_129)
  have V82 : Arv Z h82 b2 k2 .byte (12 : Int32) [(.int (nar .byte x8)), (.int (nar .byte x16)), (.int (nar .byte x24)), (.int (nar .byte x32)), (.int (nar .byte x40)), (.int (nar .byte x48)), (.int (nar .byte x56)), (.int (nar .byte x64)), (.int (nar .byte x72)), (.int (nar .byte x80)), (.int (0 : Int32)), (.int (0 : Int32))] (.int (0 : Int32)) := Arv.set Aro81 qo81 So81 Mo81 Ho81 Go81 (fits_nar_byte _) W82 9 rfl (Nat.le_of_ble_eq_true rfl)
  have P83 : Rch p e below (s₁.setTop (entryFrame m #[(.long q1), (.long q2), (.int p3), (.int p4), (.int p5)] maxLocals)) (T82.setTop (mkF m 130 #[.val (.long q1), .second, .val (.long q2), .second, .val (.int p3), .val (.int p4), .val (.int p5), .unset, .unset, .unset, .unset, .unset, .unset, .unset] [(.ref b2)])) := fun t k => P79 t (st82 t k)
  have N82 := Fr.snoc X82 N77 g_b2
  have P84 : Rch p e below (s₁.setTop (entryFrame m #[(.long q1), (.long q2), (.int p3), (.int p4), (.int p5)] maxLocals)) (T82.setTop (mkF m 140 #[.val (.long q1), .second, .val (.long q2), .second, .val (.int p3), .val (.int p4), .val (.int p5), .unset, .unset, .unset, .unset, .unset, .unset, .unset] [(.int (10 : Int32)), (.int p3), (.int (16 : Int32)), (.long q2), (.int (10 : Int32)), (.ref b2), (.ref b2)])) := fun t k => P83 t (by
    show Steps p.tables e below (T82.setTop (mkF m 130 #[.val (.long q1), .second, .val (.long q2), .second, .val (.int p3), .val (.int p4), .val (.int p5), .unset, .unset, .unset, .unset, .unset, .unset, .unset] [(.ref b2)])) t
    refine XS.dup X82.here hx rfl (hb hby at_130) rfl rfl ?_
    show Steps p.tables e below (T82.setTop (mkF m 131 #[.val (.long q1), .second, .val (.long q2), .second, .val (.int p3), .val (.int p4), .val (.int p5), .unset, .unset, .unset, .unset, .unset, .unset, .unset] [(.ref b2), (.ref b2)])) t
    refine XS.bipush X82.here hx rfl (hb hby at_131) ?_
    show Steps p.tables e below (T82.setTop (mkF m 133 #[.val (.long q1), .second, .val (.long q2), .second, .val (.int p3), .val (.int p4), .val (.int p5), .unset, .unset, .unset, .unset, .unset, .unset, .unset] [(.int (10 : Int32)), (.ref b2), (.ref b2)])) t
    refine XS.lloadN X82.here hx rfl (hb hby at_133) rfl ?_
    show Steps p.tables e below (T82.setTop (mkF m 134 #[.val (.long q1), .second, .val (.long q2), .second, .val (.int p3), .val (.int p4), .val (.int p5), .unset, .unset, .unset, .unset, .unset, .unset, .unset] [(.long q2), (.int (10 : Int32)), (.ref b2), (.ref b2)])) t
    refine XS.bipush X82.here hx rfl (hb hby at_134) ?_
    show Steps p.tables e below (T82.setTop (mkF m 136 #[.val (.long q1), .second, .val (.long q2), .second, .val (.int p3), .val (.int p4), .val (.int p5), .unset, .unset, .unset, .unset, .unset, .unset, .unset] [(.int (16 : Int32)), (.long q2), (.int (10 : Int32)), (.ref b2), (.ref b2)])) t
    refine XS.iload X82.here hx rfl (hb hby at_136) rfl ?_
    show Steps p.tables e below (T82.setTop (mkF m 138 #[.val (.long q1), .second, .val (.long q2), .second, .val (.int p3), .val (.int p4), .val (.int p5), .unset, .unset, .unset, .unset, .unset, .unset, .unset] [(.int p3), (.int (16 : Int32)), (.long q2), (.int (10 : Int32)), (.ref b2), (.ref b2)])) t
    refine XS.bipush X82.here hx rfl (hb hby at_138) ?_
    exact k)
  have f86 : n0 ≤ h82.size := (Nat.le_trans f78 (Keep.of_wr W82).1)
  obtain ⟨_, _, ⟨T85, L85, k85, n85⟩, -, X85, ⟨Lc85, hQ85, l85, y85, z85⟩, st85⟩ := Jvm.LawKit.callS X82 hx (y := (⟨"com/example/carrel/carrel/server/marc/MarcRecordDigitsPinLaw", "draw", "(JIII)B"⟩ : MethodName)) hown (mvT hZ (hw _ (List.mem_of_getElem? (i := 1) rfl))) (mvT hZ (hw _ (List.mem_of_getElem? (i := 2) rfl))) (mvT hZ (hw _ (List.mem_of_getElem? (i := 3) rfl))) (mvT hZ (hw _ (List.mem_of_getElem? (i := 4) rfl))) (by decide) (backOf (W := 3) (rmDr l Z a0 hw [] q2 (16 : Int32) p3 (10 : Int32) h82 n0 f86 ) hZ (hw _ (List.mem_of_getElem? (i := 4) rfl)) (hw _ (List.mem_of_getElem? (i := 3) rfl)) (by decide) (by decide)) (g := (mkF m 140 #[.val (.long q1), .second, .val (.long q2), .second, .val (.int p3), .val (.int p4), .val (.int p5), .unset, .unset, .unset, .unset, .unset, .unset, .unset] [(.int (10 : Int32)), (.int p3), (.int (16 : Int32)), (.long q2), (.int (10 : Int32)), (.ref b2), (.ref b2)])) rfl (by rw [hml]; rfl) (argsL := [(.long q2), (.int (16 : Int32)), (.int p3), (.int (10 : Int32))]) (rest := [(.int (10 : Int32)), (.ref b2), (.ref b2)]) (lenOf pd_1 rfl) rfl (by show 2 * 0 + _ ≤ _; exact Nat.le_of_eq rfl) (hb hby at_140) (fun _ _ => ⟨rfl, e82, (by decide : 1 + 0 ≤ _), (by decide : 12 + 0 ≤ _)⟩)
  dsimp only [Pt.U, Pt.locs, Pt.cells, Pt.slots] at X85 l85 y85 z85 st85 hQ85
  subst y85 z85
  obtain ⟨rfl, N85q, e85⟩ := hQ85
  have N85 : Fr n0 L85 := by rw [l85]; exact Fr.app N82 N85q
  have P87 : Rch p e below (s₁.setTop (entryFrame m #[(.long q1), (.long q2), (.int p3), (.int p4), (.int p5)] maxLocals)) (T85.setTop (mkF m 143 #[.val (.long q1), .second, .val (.long q2), .second, .val (.int p3), .val (.int p4), .val (.int p5), .unset, .unset, .unset, .unset, .unset, .unset, .unset] [(.int (own_draw q2 (16 : Int32) p3 (10 : Int32))), (.int (10 : Int32)), (.ref b2), (.ref b2)])) := fun t k => P84 t (st85 t k)
  obtain ⟨x88, hx88⟩ : ∃ z : Int32, z = (own_draw q2 (16 : Int32) p3 (10 : Int32)) := ⟨_, rfl⟩
  rw [← hx88] at P87
  have V_o89 := V82
  obtain ⟨co89, Aro89, qo89, So89, Mo89, Ho89, Go89⟩ := V_o89
  have hin90 : ¬ ((10 : Int32) < 0 ∨ co89.slots.size ≤ ((10 : Int32)).toNatClampNeg) := inb_of So89 ⟨by decide, by decide⟩
  obtain ⟨T90, h90, X90, e90, W90, st90⟩ := stB X85 hx hZ e85 Aro89 (j := (10 : Int32)) hin90 (g := (mkF m 143 #[.val (.long q1), .second, .val (.long q2), .second, .val (.int p3), .val (.int p4), .val (.int p5), .unset, .unset, .unset, .unset, .unset, .unset, .unset] [(.int x88), (.int (10 : Int32)), (.ref b2), (.ref b2)])) rfl rfl (hb hby at_143)
  have V90 : Arv Z h90 b2 k2 .byte (12 : Int32) [(.int (nar .byte x8)), (.int (nar .byte x16)), (.int (nar .byte x24)), (.int (nar .byte x32)), (.int (nar .byte x40)), (.int (nar .byte x48)), (.int (nar .byte x56)), (.int (nar .byte x64)), (.int (nar .byte x72)), (.int (nar .byte x80)), (.int (nar .byte x88)), (.int (0 : Int32))] (.int (0 : Int32)) := Arv.set Aro89 qo89 So89 Mo89 Ho89 Go89 (fits_nar_byte _) W90 10 rfl (Nat.le_of_ble_eq_true rfl)
  have P91 : Rch p e below (s₁.setTop (entryFrame m #[(.long q1), (.long q2), (.int p3), (.int p4), (.int p5)] maxLocals)) (T90.setTop (mkF m 144 #[.val (.long q1), .second, .val (.long q2), .second, .val (.int p3), .val (.int p4), .val (.int p5), .unset, .unset, .unset, .unset, .unset, .unset, .unset] [(.ref b2)])) := fun t k => P87 t (st90 t k)
  have N90 := Fr.snoc X90 N85 g_b2
  have P92 : Rch p e below (s₁.setTop (entryFrame m #[(.long q1), (.long q2), (.int p3), (.int p4), (.int p5)] maxLocals)) (T90.setTop (mkF m 154 #[.val (.long q1), .second, .val (.long q2), .second, .val (.int p3), .val (.int p4), .val (.int p5), .unset, .unset, .unset, .unset, .unset, .unset, .unset] [(.int (11 : Int32)), (.int p3), (.int (24 : Int32)), (.long q2), (.int (11 : Int32)), (.ref b2), (.ref b2)])) := fun t k => P91 t (by
    show Steps p.tables e below (T90.setTop (mkF m 144 #[.val (.long q1), .second, .val (.long q2), .second, .val (.int p3), .val (.int p4), .val (.int p5), .unset, .unset, .unset, .unset, .unset, .unset, .unset] [(.ref b2)])) t
    refine XS.dup X90.here hx rfl (hb hby at_144) rfl rfl ?_
    show Steps p.tables e below (T90.setTop (mkF m 145 #[.val (.long q1), .second, .val (.long q2), .second, .val (.int p3), .val (.int p4), .val (.int p5), .unset, .unset, .unset, .unset, .unset, .unset, .unset] [(.ref b2), (.ref b2)])) t
    refine XS.bipush X90.here hx rfl (hb hby at_145) ?_
    show Steps p.tables e below (T90.setTop (mkF m 147 #[.val (.long q1), .second, .val (.long q2), .second, .val (.int p3), .val (.int p4), .val (.int p5), .unset, .unset, .unset, .unset, .unset, .unset, .unset] [(.int (11 : Int32)), (.ref b2), (.ref b2)])) t
    refine XS.lloadN X90.here hx rfl (hb hby at_147) rfl ?_
    show Steps p.tables e below (T90.setTop (mkF m 148 #[.val (.long q1), .second, .val (.long q2), .second, .val (.int p3), .val (.int p4), .val (.int p5), .unset, .unset, .unset, .unset, .unset, .unset, .unset] [(.long q2), (.int (11 : Int32)), (.ref b2), (.ref b2)])) t
    refine XS.bipush X90.here hx rfl (hb hby at_148) ?_
    show Steps p.tables e below (T90.setTop (mkF m 150 #[.val (.long q1), .second, .val (.long q2), .second, .val (.int p3), .val (.int p4), .val (.int p5), .unset, .unset, .unset, .unset, .unset, .unset, .unset] [(.int (24 : Int32)), (.long q2), (.int (11 : Int32)), (.ref b2), (.ref b2)])) t
    refine XS.iload X90.here hx rfl (hb hby at_150) rfl ?_
    show Steps p.tables e below (T90.setTop (mkF m 152 #[.val (.long q1), .second, .val (.long q2), .second, .val (.int p3), .val (.int p4), .val (.int p5), .unset, .unset, .unset, .unset, .unset, .unset, .unset] [(.int p3), (.int (24 : Int32)), (.long q2), (.int (11 : Int32)), (.ref b2), (.ref b2)])) t
    refine XS.bipush X90.here hx rfl (hb hby at_152) ?_
    exact k)
  have f94 : n0 ≤ h90.size := (Nat.le_trans f86 (Keep.of_wr W90).1)
  obtain ⟨_, _, ⟨T93, L93, k93, n93⟩, -, X93, ⟨Lc93, hQ93, l93, y93, z93⟩, st93⟩ := Jvm.LawKit.callS X90 hx (y := (⟨"com/example/carrel/carrel/server/marc/MarcRecordDigitsPinLaw", "draw", "(JIII)B"⟩ : MethodName)) hown (mvT hZ (hw _ (List.mem_of_getElem? (i := 1) rfl))) (mvT hZ (hw _ (List.mem_of_getElem? (i := 2) rfl))) (mvT hZ (hw _ (List.mem_of_getElem? (i := 3) rfl))) (mvT hZ (hw _ (List.mem_of_getElem? (i := 4) rfl))) (by decide) (backOf (W := 3) (rmDr l Z a0 hw [] q2 (24 : Int32) p3 (11 : Int32) h90 n0 f94 ) hZ (hw _ (List.mem_of_getElem? (i := 4) rfl)) (hw _ (List.mem_of_getElem? (i := 3) rfl)) (by decide) (by decide)) (g := (mkF m 154 #[.val (.long q1), .second, .val (.long q2), .second, .val (.int p3), .val (.int p4), .val (.int p5), .unset, .unset, .unset, .unset, .unset, .unset, .unset] [(.int (11 : Int32)), (.int p3), (.int (24 : Int32)), (.long q2), (.int (11 : Int32)), (.ref b2), (.ref b2)])) rfl (by rw [hml]; rfl) (argsL := [(.long q2), (.int (24 : Int32)), (.int p3), (.int (11 : Int32))]) (rest := [(.int (11 : Int32)), (.ref b2), (.ref b2)]) (lenOf pd_1 rfl) rfl (by show 2 * 0 + _ ≤ _; exact Nat.le_of_eq rfl) (hb hby at_154) (fun _ _ => ⟨rfl, e90, (by decide : 1 + 0 ≤ _), (by decide : 12 + 0 ≤ _)⟩)
  dsimp only [Pt.U, Pt.locs, Pt.cells, Pt.slots] at X93 l93 y93 z93 st93 hQ93
  subst y93 z93
  obtain ⟨rfl, N93q, e93⟩ := hQ93
  have N93 : Fr n0 L93 := by rw [l93]; exact Fr.app N90 N93q
  have P95 : Rch p e below (s₁.setTop (entryFrame m #[(.long q1), (.long q2), (.int p3), (.int p4), (.int p5)] maxLocals)) (T93.setTop (mkF m 157 #[.val (.long q1), .second, .val (.long q2), .second, .val (.int p3), .val (.int p4), .val (.int p5), .unset, .unset, .unset, .unset, .unset, .unset, .unset] [(.int (own_draw q2 (24 : Int32) p3 (11 : Int32))), (.int (11 : Int32)), (.ref b2), (.ref b2)])) := fun t k => P92 t (st93 t k)
  obtain ⟨x96, hx96⟩ : ∃ z : Int32, z = (own_draw q2 (24 : Int32) p3 (11 : Int32)) := ⟨_, rfl⟩
  rw [← hx96] at P95
  have V_o97 := V90
  obtain ⟨co97, Aro97, qo97, So97, Mo97, Ho97, Go97⟩ := V_o97
  have hin98 : ¬ ((11 : Int32) < 0 ∨ co97.slots.size ≤ ((11 : Int32)).toNatClampNeg) := inb_of So97 ⟨by decide, by decide⟩
  obtain ⟨T98, h98, X98, e98, W98, st98⟩ := stB X93 hx hZ e93 Aro97 (j := (11 : Int32)) hin98 (g := (mkF m 157 #[.val (.long q1), .second, .val (.long q2), .second, .val (.int p3), .val (.int p4), .val (.int p5), .unset, .unset, .unset, .unset, .unset, .unset, .unset] [(.int x96), (.int (11 : Int32)), (.ref b2), (.ref b2)])) rfl rfl (hb hby at_157)
  have V98 : Arv Z h98 b2 k2 .byte (12 : Int32) [(.int (nar .byte x8)), (.int (nar .byte x16)), (.int (nar .byte x24)), (.int (nar .byte x32)), (.int (nar .byte x40)), (.int (nar .byte x48)), (.int (nar .byte x56)), (.int (nar .byte x64)), (.int (nar .byte x72)), (.int (nar .byte x80)), (.int (nar .byte x88)), (.int (nar .byte x96))] (.int (0 : Int32)) := Arv.set Aro97 qo97 So97 Mo97 Ho97 Go97 (fits_nar_byte _) W98 11 rfl (Nat.le_of_ble_eq_true rfl)
  have P99 : Rch p e below (s₁.setTop (entryFrame m #[(.long q1), (.long q2), (.int p3), (.int p4), (.int p5)] maxLocals)) (T98.setTop (mkF m 158 #[.val (.long q1), .second, .val (.long q2), .second, .val (.int p3), .val (.int p4), .val (.int p5), .unset, .unset, .unset, .unset, .unset, .unset, .unset] [(.ref b2)])) := fun t k => P95 t (st98 t k)
  have N98 := Fr.snoc X98 N93 g_b2
  obtain ⟨x100, hx100⟩ : ∃ z : Int32, z = (p4 &&& (3 : Int32)) := ⟨_, rfl⟩
  obtain ⟨x101, hx101⟩ : ∃ z : Int32, z = ((p5 &&& (2147483647 : Int32)) % (10 : Int32)) := ⟨_, rfl⟩
  have P102 : Rch p e below (s₁.setTop (entryFrame m #[(.long q1), (.long q2), (.int p3), (.int p4), (.int p5)] maxLocals)) (T98.setTop (mkF m 176 #[.val (.long q1), .second, .val (.long q2), .second, .val (.int p3), .val (.int p4), .val (.int p5), .val (.ref b2), .val (.int x100), .val (.int x101), .unset, .unset, .unset, .unset] [])) := fun t k => P99 t (by
    subst hx100 hx101
    show Steps p.tables e below (T98.setTop (mkF m 158 #[.val (.long q1), .second, .val (.long q2), .second, .val (.int p3), .val (.int p4), .val (.int p5), .unset, .unset, .unset, .unset, .unset, .unset, .unset] [(.ref b2)])) t
    refine XS.astore X98.here hx rfl (hb hby at_158) rfl rfl (l' := #[.val (.long q1), .second, .val (.long q2), .second, .val (.int p3), .val (.int p4), .val (.int p5), .val (.ref b2), .unset, .unset, .unset, .unset, .unset, .unset]) rfl ?_
    show Steps p.tables e below (T98.setTop (mkF m 160 #[.val (.long q1), .second, .val (.long q2), .second, .val (.int p3), .val (.int p4), .val (.int p5), .val (.ref b2), .unset, .unset, .unset, .unset, .unset, .unset] [])) t
    refine XS.iload X98.here hx rfl (hb hby at_160) rfl ?_
    show Steps p.tables e below (T98.setTop (mkF m 162 #[.val (.long q1), .second, .val (.long q2), .second, .val (.int p3), .val (.int p4), .val (.int p5), .val (.ref b2), .unset, .unset, .unset, .unset, .unset, .unset] [(.int p4)])) t
    refine XS.iconst X98.here hx rfl (hb hby at_162) ?_
    show Steps p.tables e below (T98.setTop (mkF m 163 #[.val (.long q1), .second, .val (.long q2), .second, .val (.int p3), .val (.int p4), .val (.int p5), .val (.ref b2), .unset, .unset, .unset, .unset, .unset, .unset] [(.int (3 : Int32)), (.int p4)])) t
    refine XS.iand X98.here hx rfl (hb hby at_163) rfl ?_
    show Steps p.tables e below (T98.setTop (mkF m 164 #[.val (.long q1), .second, .val (.long q2), .second, .val (.int p3), .val (.int p4), .val (.int p5), .val (.ref b2), .unset, .unset, .unset, .unset, .unset, .unset] [(.int (p4 &&& (3 : Int32)))])) t
    refine XS.istore X98.here hx rfl (hb hby at_164) rfl (l' := #[.val (.long q1), .second, .val (.long q2), .second, .val (.int p3), .val (.int p4), .val (.int p5), .val (.ref b2), .val (.int (p4 &&& (3 : Int32))), .unset, .unset, .unset, .unset, .unset]) rfl ?_
    show Steps p.tables e below (T98.setTop (mkF m 166 #[.val (.long q1), .second, .val (.long q2), .second, .val (.int p3), .val (.int p4), .val (.int p5), .val (.ref b2), .val (.int (p4 &&& (3 : Int32))), .unset, .unset, .unset, .unset, .unset] [])) t
    refine XS.iload X98.here hx rfl (hb hby at_166) rfl ?_
    show Steps p.tables e below (T98.setTop (mkF m 168 #[.val (.long q1), .second, .val (.long q2), .second, .val (.int p3), .val (.int p4), .val (.int p5), .val (.ref b2), .val (.int (p4 &&& (3 : Int32))), .unset, .unset, .unset, .unset, .unset] [(.int p5)])) t
    refine X98.ldcInt hx hown (mvT hZ (hw _ (List.mem_of_getElem? (i := 6) rfl))) (g := (mkF m 168 #[.val (.long q1), .second, .val (.long q2), .second, .val (.int p3), .val (.int p4), .val (.int p5), .val (.ref b2), .val (.int (p4 &&& (3 : Int32))), .unset, .unset, .unset, .unset, .unset] [(.int p5)])) rfl (hb hby at_168) _ ?_
    show Steps p.tables e below (T98.setTop (mkF m 170 #[.val (.long q1), .second, .val (.long q2), .second, .val (.int p3), .val (.int p4), .val (.int p5), .val (.ref b2), .val (.int (p4 &&& (3 : Int32))), .unset, .unset, .unset, .unset, .unset] [(.int (2147483647 : Int32)), (.int p5)])) t
    refine XS.iand X98.here hx rfl (hb hby at_170) rfl ?_
    show Steps p.tables e below (T98.setTop (mkF m 171 #[.val (.long q1), .second, .val (.long q2), .second, .val (.int p3), .val (.int p4), .val (.int p5), .val (.ref b2), .val (.int (p4 &&& (3 : Int32))), .unset, .unset, .unset, .unset, .unset] [(.int (p5 &&& (2147483647 : Int32)))])) t
    refine XS.bipush X98.here hx rfl (hb hby at_171) ?_
    show Steps p.tables e below (T98.setTop (mkF m 173 #[.val (.long q1), .second, .val (.long q2), .second, .val (.int p3), .val (.int p4), .val (.int p5), .val (.ref b2), .val (.int (p4 &&& (3 : Int32))), .unset, .unset, .unset, .unset, .unset] [(.int (10 : Int32)), (.int (p5 &&& (2147483647 : Int32)))])) t
    refine iremM X98 hx rfl (hb hby at_173) rfl (by decide) ?_
    show Steps p.tables e below (T98.setTop (mkF m 174 #[.val (.long q1), .second, .val (.long q2), .second, .val (.int p3), .val (.int p4), .val (.int p5), .val (.ref b2), .val (.int (p4 &&& (3 : Int32))), .unset, .unset, .unset, .unset, .unset] [(.int ((p5 &&& (2147483647 : Int32)) % (10 : Int32)))])) t
    refine XS.istore X98.here hx rfl (hb hby at_174) rfl (l' := #[.val (.long q1), .second, .val (.long q2), .second, .val (.int p3), .val (.int p4), .val (.int p5), .val (.ref b2), .val (.int (p4 &&& (3 : Int32))), .val (.int ((p5 &&& (2147483647 : Int32)) % (10 : Int32))), .unset, .unset, .unset, .unset]) rfl ?_
    exact k)
  have P103 : Rch p e below (s₁.setTop (entryFrame m #[(.long q1), (.long q2), (.int p3), (.int p4), (.int p5)] maxLocals)) (T98.setTop (mkF m 178 #[.val (.long q1), .second, .val (.long q2), .second, .val (.int p3), .val (.int p4), .val (.int p5), .val (.ref b2), .val (.int x100), .val (.int x101), .unset, .unset, .unset, .unset] [(.int (9 : Int32))])) := fun t k => P102 t (by
    show Steps p.tables e below (T98.setTop (mkF m 176 #[.val (.long q1), .second, .val (.long q2), .second, .val (.int p3), .val (.int p4), .val (.int p5), .val (.ref b2), .val (.int x100), .val (.int x101), .unset, .unset, .unset, .unset] [])) t
    refine XS.bipush X98.here hx rfl (hb hby at_176) ?_
    exact k)
  have f105 : n0 ≤ h98.size := (Nat.le_trans f94 (Keep.of_wr W98).1)
  have f106 : Keep h0 h98 [] := ((((((((((((((Keep.refl h0 []).ext E2).wr W10 (Or.inr sz_b2)).wr W18 (Or.inr sz_b2)).wr W26 (Or.inr sz_b2)).wr W34 (Or.inr sz_b2)).wr W42 (Or.inr sz_b2)).wr W50 (Or.inr sz_b2)).wr W58 (Or.inr sz_b2)).wr W66 (Or.inr sz_b2)).wr W74 (Or.inr sz_b2)).wr W82 (Or.inr sz_b2)).wr W90 (Or.inr sz_b2)).wr W98 (Or.inr sz_b2))
  obtain ⟨T104, h104, k104, X104, e104, E104, A104, st104⟩ := newP X98 hx hZ (hw _ (List.mem_of_getElem? (i := 7) rfl)) e98 (g := (mkF m 178 #[.val (.long q1), .second, .val (.long q2), .second, .val (.int p3), .val (.int p4), .val (.int p5), .val (.ref b2), .val (.int x100), .val (.int x101), .unset, .unset, .unset, .unset] [(.int (9 : Int32))])) rfl (hb hby at_178) rfl (by decide) (cap := 9) (by decide) (by decide) (by decide) (by decide)
  obtain ⟨b104, g104⟩ : ∃ z, z = h98.size := ⟨_, rfl⟩
  rw [← g104] at A104 st104
  have g_b104 : n0 ≤ b104 := Nat.le_trans f105 (Nat.le_of_eq g104.symm)
  have sz_b104 : h0.size ≤ b104 := Nat.le_trans f106.1 (Nat.le_of_eq g104.symm)
  have ne_b2_b104 : b2 ≠ b104 := Nat.ne_of_lt (Nat.lt_of_lt_of_le V98.lt (Nat.le_of_eq g104.symm))
  have V104 : Arv Z h104 b104 k104 .int (9 : Int32) [(.int (0 : Int32)), (.int (0 : Int32)), (.int (0 : Int32)), (.int (0 : Int32)), (.int (0 : Int32)), (.int (0 : Int32)), (.int (0 : Int32)), (.int (0 : Int32)), (.int (0 : Int32))] (.int (0 : Int32)) := (Arv.new A104 (by decide)).pad (pad_rep [] (.int (0 : Int32)) 9)
  have P107 : Rch p e below (s₁.setTop (entryFrame m #[(.long q1), (.long q2), (.int p3), (.int p4), (.int p5)] maxLocals)) (T104.setTop (mkF m 180 #[.val (.long q1), .second, .val (.long q2), .second, .val (.int p3), .val (.int p4), .val (.int p5), .val (.ref b2), .val (.int x100), .val (.int x101), .unset, .unset, .unset, .unset] [(.ref b104)])) := fun t k => P103 t (st104 t k)
  have P108 : Rch p e below (s₁.setTop (entryFrame m #[(.long q1), (.long q2), (.int p3), (.int p4), (.int p5)] maxLocals)) (T104.setTop (mkF m 183 #[.val (.long q1), .second, .val (.long q2), .second, .val (.int p3), .val (.int p4), .val (.int p5), .val (.ref b2), .val (.int x100), .val (.int x101), .unset, .unset, .unset, .unset] [(.int (1 : Int32)), (.int (0 : Int32)), (.ref b104), (.ref b104)])) := fun t k => P107 t (by
    show Steps p.tables e below (T104.setTop (mkF m 180 #[.val (.long q1), .second, .val (.long q2), .second, .val (.int p3), .val (.int p4), .val (.int p5), .val (.ref b2), .val (.int x100), .val (.int x101), .unset, .unset, .unset, .unset] [(.ref b104)])) t
    refine XS.dup X104.here hx rfl (hb hby at_180) rfl rfl ?_
    show Steps p.tables e below (T104.setTop (mkF m 181 #[.val (.long q1), .second, .val (.long q2), .second, .val (.int p3), .val (.int p4), .val (.int p5), .val (.ref b2), .val (.int x100), .val (.int x101), .unset, .unset, .unset, .unset] [(.ref b104), (.ref b104)])) t
    refine XS.iconst X104.here hx rfl (hb hby at_181) ?_
    show Steps p.tables e below (T104.setTop (mkF m 182 #[.val (.long q1), .second, .val (.long q2), .second, .val (.int p3), .val (.int p4), .val (.int p5), .val (.ref b2), .val (.int x100), .val (.int x101), .unset, .unset, .unset, .unset] [(.int (0 : Int32)), (.ref b104), (.ref b104)])) t
    refine XS.iconst X104.here hx rfl (hb hby at_182) ?_
    exact k)
  have V_o109 := V104
  obtain ⟨co109, Aro109, qo109, So109, Mo109, Ho109, Go109⟩ := V_o109
  have hin110 : ¬ ((0 : Int32) < 0 ∨ co109.slots.size ≤ ((0 : Int32)).toNatClampNeg) := inb_of So109 ⟨by decide, by decide⟩
  obtain ⟨T110, h110, X110, e110, W110, st110⟩ := stI X104 hx hZ e104 Aro109 (j := (0 : Int32)) hin110 (g := (mkF m 183 #[.val (.long q1), .second, .val (.long q2), .second, .val (.int p3), .val (.int p4), .val (.int p5), .val (.ref b2), .val (.int x100), .val (.int x101), .unset, .unset, .unset, .unset] [(.int (1 : Int32)), (.int (0 : Int32)), (.ref b104), (.ref b104)])) rfl rfl (hb hby at_183)
  have V110 : Arv Z h110 b104 k104 .int (9 : Int32) [(.int (1 : Int32)), (.int (0 : Int32)), (.int (0 : Int32)), (.int (0 : Int32)), (.int (0 : Int32)), (.int (0 : Int32)), (.int (0 : Int32)), (.int (0 : Int32)), (.int (0 : Int32))] (.int (0 : Int32)) := Arv.set Aro109 qo109 So109 Mo109 Ho109 Go109 rfl W110 0 rfl (Nat.le_of_ble_eq_true rfl)
  have P111 : Rch p e below (s₁.setTop (entryFrame m #[(.long q1), (.long q2), (.int p3), (.int p4), (.int p5)] maxLocals)) (T110.setTop (mkF m 184 #[.val (.long q1), .second, .val (.long q2), .second, .val (.int p3), .val (.int p4), .val (.int p5), .val (.ref b2), .val (.int x100), .val (.int x101), .unset, .unset, .unset, .unset] [(.ref b104)])) := fun t k => P108 t (st110 t k)
  have N110 := Fr.snoc X110 N98 g_b104
  have P112 : Rch p e below (s₁.setTop (entryFrame m #[(.long q1), (.long q2), (.int p3), (.int p4), (.int p5)] maxLocals)) (T110.setTop (mkF m 188 #[.val (.long q1), .second, .val (.long q2), .second, .val (.int p3), .val (.int p4), .val (.int p5), .val (.ref b2), .val (.int x100), .val (.int x101), .unset, .unset, .unset, .unset] [(.int (10 : Int32)), (.int (1 : Int32)), (.ref b104), (.ref b104)])) := fun t k => P111 t (by
    show Steps p.tables e below (T110.setTop (mkF m 184 #[.val (.long q1), .second, .val (.long q2), .second, .val (.int p3), .val (.int p4), .val (.int p5), .val (.ref b2), .val (.int x100), .val (.int x101), .unset, .unset, .unset, .unset] [(.ref b104)])) t
    refine XS.dup X110.here hx rfl (hb hby at_184) rfl rfl ?_
    show Steps p.tables e below (T110.setTop (mkF m 185 #[.val (.long q1), .second, .val (.long q2), .second, .val (.int p3), .val (.int p4), .val (.int p5), .val (.ref b2), .val (.int x100), .val (.int x101), .unset, .unset, .unset, .unset] [(.ref b104), (.ref b104)])) t
    refine XS.iconst X110.here hx rfl (hb hby at_185) ?_
    show Steps p.tables e below (T110.setTop (mkF m 186 #[.val (.long q1), .second, .val (.long q2), .second, .val (.int p3), .val (.int p4), .val (.int p5), .val (.ref b2), .val (.int x100), .val (.int x101), .unset, .unset, .unset, .unset] [(.int (1 : Int32)), (.ref b104), (.ref b104)])) t
    refine XS.bipush X110.here hx rfl (hb hby at_186) ?_
    exact k)
  have V_o113 := V110
  obtain ⟨co113, Aro113, qo113, So113, Mo113, Ho113, Go113⟩ := V_o113
  have hin114 : ¬ ((1 : Int32) < 0 ∨ co113.slots.size ≤ ((1 : Int32)).toNatClampNeg) := inb_of So113 ⟨by decide, by decide⟩
  obtain ⟨T114, h114, X114, e114, W114, st114⟩ := stI X110 hx hZ e110 Aro113 (j := (1 : Int32)) hin114 (g := (mkF m 188 #[.val (.long q1), .second, .val (.long q2), .second, .val (.int p3), .val (.int p4), .val (.int p5), .val (.ref b2), .val (.int x100), .val (.int x101), .unset, .unset, .unset, .unset] [(.int (10 : Int32)), (.int (1 : Int32)), (.ref b104), (.ref b104)])) rfl rfl (hb hby at_188)
  have V114 : Arv Z h114 b104 k104 .int (9 : Int32) [(.int (1 : Int32)), (.int (10 : Int32)), (.int (0 : Int32)), (.int (0 : Int32)), (.int (0 : Int32)), (.int (0 : Int32)), (.int (0 : Int32)), (.int (0 : Int32)), (.int (0 : Int32))] (.int (0 : Int32)) := Arv.set Aro113 qo113 So113 Mo113 Ho113 Go113 rfl W114 1 rfl (Nat.le_of_ble_eq_true rfl)
  have P115 : Rch p e below (s₁.setTop (entryFrame m #[(.long q1), (.long q2), (.int p3), (.int p4), (.int p5)] maxLocals)) (T114.setTop (mkF m 189 #[.val (.long q1), .second, .val (.long q2), .second, .val (.int p3), .val (.int p4), .val (.int p5), .val (.ref b2), .val (.int x100), .val (.int x101), .unset, .unset, .unset, .unset] [(.ref b104)])) := fun t k => P112 t (st114 t k)
  have N114 := Fr.snoc X114 N110 g_b104
  have P116 : Rch p e below (s₁.setTop (entryFrame m #[(.long q1), (.long q2), (.int p3), (.int p4), (.int p5)] maxLocals)) (T114.setTop (mkF m 193 #[.val (.long q1), .second, .val (.long q2), .second, .val (.int p3), .val (.int p4), .val (.int p5), .val (.ref b2), .val (.int x100), .val (.int x101), .unset, .unset, .unset, .unset] [(.int (100 : Int32)), (.int (2 : Int32)), (.ref b104), (.ref b104)])) := fun t k => P115 t (by
    show Steps p.tables e below (T114.setTop (mkF m 189 #[.val (.long q1), .second, .val (.long q2), .second, .val (.int p3), .val (.int p4), .val (.int p5), .val (.ref b2), .val (.int x100), .val (.int x101), .unset, .unset, .unset, .unset] [(.ref b104)])) t
    refine XS.dup X114.here hx rfl (hb hby at_189) rfl rfl ?_
    show Steps p.tables e below (T114.setTop (mkF m 190 #[.val (.long q1), .second, .val (.long q2), .second, .val (.int p3), .val (.int p4), .val (.int p5), .val (.ref b2), .val (.int x100), .val (.int x101), .unset, .unset, .unset, .unset] [(.ref b104), (.ref b104)])) t
    refine XS.iconst X114.here hx rfl (hb hby at_190) ?_
    show Steps p.tables e below (T114.setTop (mkF m 191 #[.val (.long q1), .second, .val (.long q2), .second, .val (.int p3), .val (.int p4), .val (.int p5), .val (.ref b2), .val (.int x100), .val (.int x101), .unset, .unset, .unset, .unset] [(.int (2 : Int32)), (.ref b104), (.ref b104)])) t
    refine XS.bipush X114.here hx rfl (hb hby at_191) ?_
    exact k)
  have V_o117 := V114
  obtain ⟨co117, Aro117, qo117, So117, Mo117, Ho117, Go117⟩ := V_o117
  have hin118 : ¬ ((2 : Int32) < 0 ∨ co117.slots.size ≤ ((2 : Int32)).toNatClampNeg) := inb_of So117 ⟨by decide, by decide⟩
  obtain ⟨T118, h118, X118, e118, W118, st118⟩ := stI X114 hx hZ e114 Aro117 (j := (2 : Int32)) hin118 (g := (mkF m 193 #[.val (.long q1), .second, .val (.long q2), .second, .val (.int p3), .val (.int p4), .val (.int p5), .val (.ref b2), .val (.int x100), .val (.int x101), .unset, .unset, .unset, .unset] [(.int (100 : Int32)), (.int (2 : Int32)), (.ref b104), (.ref b104)])) rfl rfl (hb hby at_193)
  have V118 : Arv Z h118 b104 k104 .int (9 : Int32) [(.int (1 : Int32)), (.int (10 : Int32)), (.int (100 : Int32)), (.int (0 : Int32)), (.int (0 : Int32)), (.int (0 : Int32)), (.int (0 : Int32)), (.int (0 : Int32)), (.int (0 : Int32))] (.int (0 : Int32)) := Arv.set Aro117 qo117 So117 Mo117 Ho117 Go117 rfl W118 2 rfl (Nat.le_of_ble_eq_true rfl)
  have P119 : Rch p e below (s₁.setTop (entryFrame m #[(.long q1), (.long q2), (.int p3), (.int p4), (.int p5)] maxLocals)) (T118.setTop (mkF m 194 #[.val (.long q1), .second, .val (.long q2), .second, .val (.int p3), .val (.int p4), .val (.int p5), .val (.ref b2), .val (.int x100), .val (.int x101), .unset, .unset, .unset, .unset] [(.ref b104)])) := fun t k => P116 t (st118 t k)
  have N118 := Fr.snoc X118 N114 g_b104
  have P120 : Rch p e below (s₁.setTop (entryFrame m #[(.long q1), (.long q2), (.int p3), (.int p4), (.int p5)] maxLocals)) (T118.setTop (mkF m 199 #[.val (.long q1), .second, .val (.long q2), .second, .val (.int p3), .val (.int p4), .val (.int p5), .val (.ref b2), .val (.int x100), .val (.int x101), .unset, .unset, .unset, .unset] [(.int (1000 : Int32)), (.int (3 : Int32)), (.ref b104), (.ref b104)])) := fun t k => P119 t (by
    show Steps p.tables e below (T118.setTop (mkF m 194 #[.val (.long q1), .second, .val (.long q2), .second, .val (.int p3), .val (.int p4), .val (.int p5), .val (.ref b2), .val (.int x100), .val (.int x101), .unset, .unset, .unset, .unset] [(.ref b104)])) t
    refine XS.dup X118.here hx rfl (hb hby at_194) rfl rfl ?_
    show Steps p.tables e below (T118.setTop (mkF m 195 #[.val (.long q1), .second, .val (.long q2), .second, .val (.int p3), .val (.int p4), .val (.int p5), .val (.ref b2), .val (.int x100), .val (.int x101), .unset, .unset, .unset, .unset] [(.ref b104), (.ref b104)])) t
    refine XS.iconst X118.here hx rfl (hb hby at_195) ?_
    show Steps p.tables e below (T118.setTop (mkF m 196 #[.val (.long q1), .second, .val (.long q2), .second, .val (.int p3), .val (.int p4), .val (.int p5), .val (.ref b2), .val (.int x100), .val (.int x101), .unset, .unset, .unset, .unset] [(.int (3 : Int32)), (.ref b104), (.ref b104)])) t
    refine XS.sipush X118.here hx rfl (hb hby at_196) ?_
    exact k)
  have V_o121 := V118
  obtain ⟨co121, Aro121, qo121, So121, Mo121, Ho121, Go121⟩ := V_o121
  have hin122 : ¬ ((3 : Int32) < 0 ∨ co121.slots.size ≤ ((3 : Int32)).toNatClampNeg) := inb_of So121 ⟨by decide, by decide⟩
  obtain ⟨T122, h122, X122, e122, W122, st122⟩ := stI X118 hx hZ e118 Aro121 (j := (3 : Int32)) hin122 (g := (mkF m 199 #[.val (.long q1), .second, .val (.long q2), .second, .val (.int p3), .val (.int p4), .val (.int p5), .val (.ref b2), .val (.int x100), .val (.int x101), .unset, .unset, .unset, .unset] [(.int (1000 : Int32)), (.int (3 : Int32)), (.ref b104), (.ref b104)])) rfl rfl (hb hby at_199)
  have V122 : Arv Z h122 b104 k104 .int (9 : Int32) [(.int (1 : Int32)), (.int (10 : Int32)), (.int (100 : Int32)), (.int (1000 : Int32)), (.int (0 : Int32)), (.int (0 : Int32)), (.int (0 : Int32)), (.int (0 : Int32)), (.int (0 : Int32))] (.int (0 : Int32)) := Arv.set Aro121 qo121 So121 Mo121 Ho121 Go121 rfl W122 3 rfl (Nat.le_of_ble_eq_true rfl)
  have P123 : Rch p e below (s₁.setTop (entryFrame m #[(.long q1), (.long q2), (.int p3), (.int p4), (.int p5)] maxLocals)) (T122.setTop (mkF m 200 #[.val (.long q1), .second, .val (.long q2), .second, .val (.int p3), .val (.int p4), .val (.int p5), .val (.ref b2), .val (.int x100), .val (.int x101), .unset, .unset, .unset, .unset] [(.ref b104)])) := fun t k => P120 t (st122 t k)
  have N122 := Fr.snoc X122 N118 g_b104
  have P124 : Rch p e below (s₁.setTop (entryFrame m #[(.long q1), (.long q2), (.int p3), (.int p4), (.int p5)] maxLocals)) (T122.setTop (mkF m 205 #[.val (.long q1), .second, .val (.long q2), .second, .val (.int p3), .val (.int p4), .val (.int p5), .val (.ref b2), .val (.int x100), .val (.int x101), .unset, .unset, .unset, .unset] [(.int (10000 : Int32)), (.int (4 : Int32)), (.ref b104), (.ref b104)])) := fun t k => P123 t (by
    show Steps p.tables e below (T122.setTop (mkF m 200 #[.val (.long q1), .second, .val (.long q2), .second, .val (.int p3), .val (.int p4), .val (.int p5), .val (.ref b2), .val (.int x100), .val (.int x101), .unset, .unset, .unset, .unset] [(.ref b104)])) t
    refine XS.dup X122.here hx rfl (hb hby at_200) rfl rfl ?_
    show Steps p.tables e below (T122.setTop (mkF m 201 #[.val (.long q1), .second, .val (.long q2), .second, .val (.int p3), .val (.int p4), .val (.int p5), .val (.ref b2), .val (.int x100), .val (.int x101), .unset, .unset, .unset, .unset] [(.ref b104), (.ref b104)])) t
    refine XS.iconst X122.here hx rfl (hb hby at_201) ?_
    show Steps p.tables e below (T122.setTop (mkF m 202 #[.val (.long q1), .second, .val (.long q2), .second, .val (.int p3), .val (.int p4), .val (.int p5), .val (.ref b2), .val (.int x100), .val (.int x101), .unset, .unset, .unset, .unset] [(.int (4 : Int32)), (.ref b104), (.ref b104)])) t
    refine XS.sipush X122.here hx rfl (hb hby at_202) ?_
    exact k)
  have V_o125 := V122
  obtain ⟨co125, Aro125, qo125, So125, Mo125, Ho125, Go125⟩ := V_o125
  have hin126 : ¬ ((4 : Int32) < 0 ∨ co125.slots.size ≤ ((4 : Int32)).toNatClampNeg) := inb_of So125 ⟨by decide, by decide⟩
  obtain ⟨T126, h126, X126, e126, W126, st126⟩ := stI X122 hx hZ e122 Aro125 (j := (4 : Int32)) hin126 (g := (mkF m 205 #[.val (.long q1), .second, .val (.long q2), .second, .val (.int p3), .val (.int p4), .val (.int p5), .val (.ref b2), .val (.int x100), .val (.int x101), .unset, .unset, .unset, .unset] [(.int (10000 : Int32)), (.int (4 : Int32)), (.ref b104), (.ref b104)])) rfl rfl (hb hby at_205)
  have V126 : Arv Z h126 b104 k104 .int (9 : Int32) [(.int (1 : Int32)), (.int (10 : Int32)), (.int (100 : Int32)), (.int (1000 : Int32)), (.int (10000 : Int32)), (.int (0 : Int32)), (.int (0 : Int32)), (.int (0 : Int32)), (.int (0 : Int32))] (.int (0 : Int32)) := Arv.set Aro125 qo125 So125 Mo125 Ho125 Go125 rfl W126 4 rfl (Nat.le_of_ble_eq_true rfl)
  have P127 : Rch p e below (s₁.setTop (entryFrame m #[(.long q1), (.long q2), (.int p3), (.int p4), (.int p5)] maxLocals)) (T126.setTop (mkF m 206 #[.val (.long q1), .second, .val (.long q2), .second, .val (.int p3), .val (.int p4), .val (.int p5), .val (.ref b2), .val (.int x100), .val (.int x101), .unset, .unset, .unset, .unset] [(.ref b104)])) := fun t k => P124 t (st126 t k)
  have N126 := Fr.snoc X126 N122 g_b104
  have P128 : Rch p e below (s₁.setTop (entryFrame m #[(.long q1), (.long q2), (.int p3), (.int p4), (.int p5)] maxLocals)) (T126.setTop (mkF m 210 #[.val (.long q1), .second, .val (.long q2), .second, .val (.int p3), .val (.int p4), .val (.int p5), .val (.ref b2), .val (.int x100), .val (.int x101), .unset, .unset, .unset, .unset] [(.int (100000 : Int32)), (.int (5 : Int32)), (.ref b104), (.ref b104)])) := fun t k => P127 t (by
    show Steps p.tables e below (T126.setTop (mkF m 206 #[.val (.long q1), .second, .val (.long q2), .second, .val (.int p3), .val (.int p4), .val (.int p5), .val (.ref b2), .val (.int x100), .val (.int x101), .unset, .unset, .unset, .unset] [(.ref b104)])) t
    refine XS.dup X126.here hx rfl (hb hby at_206) rfl rfl ?_
    show Steps p.tables e below (T126.setTop (mkF m 207 #[.val (.long q1), .second, .val (.long q2), .second, .val (.int p3), .val (.int p4), .val (.int p5), .val (.ref b2), .val (.int x100), .val (.int x101), .unset, .unset, .unset, .unset] [(.ref b104), (.ref b104)])) t
    refine XS.iconst X126.here hx rfl (hb hby at_207) ?_
    show Steps p.tables e below (T126.setTop (mkF m 208 #[.val (.long q1), .second, .val (.long q2), .second, .val (.int p3), .val (.int p4), .val (.int p5), .val (.ref b2), .val (.int x100), .val (.int x101), .unset, .unset, .unset, .unset] [(.int (5 : Int32)), (.ref b104), (.ref b104)])) t
    refine X126.ldcInt hx hown (mvT hZ (hw _ (List.mem_of_getElem? (i := 8) rfl))) (g := (mkF m 208 #[.val (.long q1), .second, .val (.long q2), .second, .val (.int p3), .val (.int p4), .val (.int p5), .val (.ref b2), .val (.int x100), .val (.int x101), .unset, .unset, .unset, .unset] [(.int (5 : Int32)), (.ref b104), (.ref b104)])) rfl (hb hby at_208) _ ?_
    exact k)
  have V_o129 := V126
  obtain ⟨co129, Aro129, qo129, So129, Mo129, Ho129, Go129⟩ := V_o129
  have hin130 : ¬ ((5 : Int32) < 0 ∨ co129.slots.size ≤ ((5 : Int32)).toNatClampNeg) := inb_of So129 ⟨by decide, by decide⟩
  obtain ⟨T130, h130, X130, e130, W130, st130⟩ := stI X126 hx hZ e126 Aro129 (j := (5 : Int32)) hin130 (g := (mkF m 210 #[.val (.long q1), .second, .val (.long q2), .second, .val (.int p3), .val (.int p4), .val (.int p5), .val (.ref b2), .val (.int x100), .val (.int x101), .unset, .unset, .unset, .unset] [(.int (100000 : Int32)), (.int (5 : Int32)), (.ref b104), (.ref b104)])) rfl rfl (hb hby at_210)
  have V130 : Arv Z h130 b104 k104 .int (9 : Int32) [(.int (1 : Int32)), (.int (10 : Int32)), (.int (100 : Int32)), (.int (1000 : Int32)), (.int (10000 : Int32)), (.int (100000 : Int32)), (.int (0 : Int32)), (.int (0 : Int32)), (.int (0 : Int32))] (.int (0 : Int32)) := Arv.set Aro129 qo129 So129 Mo129 Ho129 Go129 rfl W130 5 rfl (Nat.le_of_ble_eq_true rfl)
  have P131 : Rch p e below (s₁.setTop (entryFrame m #[(.long q1), (.long q2), (.int p3), (.int p4), (.int p5)] maxLocals)) (T130.setTop (mkF m 211 #[.val (.long q1), .second, .val (.long q2), .second, .val (.int p3), .val (.int p4), .val (.int p5), .val (.ref b2), .val (.int x100), .val (.int x101), .unset, .unset, .unset, .unset] [(.ref b104)])) := fun t k => P128 t (st130 t k)
  have N130 := Fr.snoc X130 N126 g_b104
  have P132 : Rch p e below (s₁.setTop (entryFrame m #[(.long q1), (.long q2), (.int p3), (.int p4), (.int p5)] maxLocals)) (T130.setTop (mkF m 216 #[.val (.long q1), .second, .val (.long q2), .second, .val (.int p3), .val (.int p4), .val (.int p5), .val (.ref b2), .val (.int x100), .val (.int x101), .unset, .unset, .unset, .unset] [(.int (1000000 : Int32)), (.int (6 : Int32)), (.ref b104), (.ref b104)])) := fun t k => P131 t (by
    show Steps p.tables e below (T130.setTop (mkF m 211 #[.val (.long q1), .second, .val (.long q2), .second, .val (.int p3), .val (.int p4), .val (.int p5), .val (.ref b2), .val (.int x100), .val (.int x101), .unset, .unset, .unset, .unset] [(.ref b104)])) t
    refine XS.dup X130.here hx rfl (hb hby at_211) rfl rfl ?_
    show Steps p.tables e below (T130.setTop (mkF m 212 #[.val (.long q1), .second, .val (.long q2), .second, .val (.int p3), .val (.int p4), .val (.int p5), .val (.ref b2), .val (.int x100), .val (.int x101), .unset, .unset, .unset, .unset] [(.ref b104), (.ref b104)])) t
    refine XS.bipush X130.here hx rfl (hb hby at_212) ?_
    show Steps p.tables e below (T130.setTop (mkF m 214 #[.val (.long q1), .second, .val (.long q2), .second, .val (.int p3), .val (.int p4), .val (.int p5), .val (.ref b2), .val (.int x100), .val (.int x101), .unset, .unset, .unset, .unset] [(.int (6 : Int32)), (.ref b104), (.ref b104)])) t
    refine X130.ldcInt hx hown (mvT hZ (hw _ (List.mem_of_getElem? (i := 9) rfl))) (g := (mkF m 214 #[.val (.long q1), .second, .val (.long q2), .second, .val (.int p3), .val (.int p4), .val (.int p5), .val (.ref b2), .val (.int x100), .val (.int x101), .unset, .unset, .unset, .unset] [(.int (6 : Int32)), (.ref b104), (.ref b104)])) rfl (hb hby at_214) _ ?_
    exact k)
  have V_o133 := V130
  obtain ⟨co133, Aro133, qo133, So133, Mo133, Ho133, Go133⟩ := V_o133
  have hin134 : ¬ ((6 : Int32) < 0 ∨ co133.slots.size ≤ ((6 : Int32)).toNatClampNeg) := inb_of So133 ⟨by decide, by decide⟩
  obtain ⟨T134, h134, X134, e134, W134, st134⟩ := stI X130 hx hZ e130 Aro133 (j := (6 : Int32)) hin134 (g := (mkF m 216 #[.val (.long q1), .second, .val (.long q2), .second, .val (.int p3), .val (.int p4), .val (.int p5), .val (.ref b2), .val (.int x100), .val (.int x101), .unset, .unset, .unset, .unset] [(.int (1000000 : Int32)), (.int (6 : Int32)), (.ref b104), (.ref b104)])) rfl rfl (hb hby at_216)
  have V134 : Arv Z h134 b104 k104 .int (9 : Int32) [(.int (1 : Int32)), (.int (10 : Int32)), (.int (100 : Int32)), (.int (1000 : Int32)), (.int (10000 : Int32)), (.int (100000 : Int32)), (.int (1000000 : Int32)), (.int (0 : Int32)), (.int (0 : Int32))] (.int (0 : Int32)) := Arv.set Aro133 qo133 So133 Mo133 Ho133 Go133 rfl W134 6 rfl (Nat.le_of_ble_eq_true rfl)
  have P135 : Rch p e below (s₁.setTop (entryFrame m #[(.long q1), (.long q2), (.int p3), (.int p4), (.int p5)] maxLocals)) (T134.setTop (mkF m 217 #[.val (.long q1), .second, .val (.long q2), .second, .val (.int p3), .val (.int p4), .val (.int p5), .val (.ref b2), .val (.int x100), .val (.int x101), .unset, .unset, .unset, .unset] [(.ref b104)])) := fun t k => P132 t (st134 t k)
  have N134 := Fr.snoc X134 N130 g_b104
  have P136 : Rch p e below (s₁.setTop (entryFrame m #[(.long q1), (.long q2), (.int p3), (.int p4), (.int p5)] maxLocals)) (T134.setTop (mkF m 222 #[.val (.long q1), .second, .val (.long q2), .second, .val (.int p3), .val (.int p4), .val (.int p5), .val (.ref b2), .val (.int x100), .val (.int x101), .unset, .unset, .unset, .unset] [(.int (10000000 : Int32)), (.int (7 : Int32)), (.ref b104), (.ref b104)])) := fun t k => P135 t (by
    show Steps p.tables e below (T134.setTop (mkF m 217 #[.val (.long q1), .second, .val (.long q2), .second, .val (.int p3), .val (.int p4), .val (.int p5), .val (.ref b2), .val (.int x100), .val (.int x101), .unset, .unset, .unset, .unset] [(.ref b104)])) t
    refine XS.dup X134.here hx rfl (hb hby at_217) rfl rfl ?_
    show Steps p.tables e below (T134.setTop (mkF m 218 #[.val (.long q1), .second, .val (.long q2), .second, .val (.int p3), .val (.int p4), .val (.int p5), .val (.ref b2), .val (.int x100), .val (.int x101), .unset, .unset, .unset, .unset] [(.ref b104), (.ref b104)])) t
    refine XS.bipush X134.here hx rfl (hb hby at_218) ?_
    show Steps p.tables e below (T134.setTop (mkF m 220 #[.val (.long q1), .second, .val (.long q2), .second, .val (.int p3), .val (.int p4), .val (.int p5), .val (.ref b2), .val (.int x100), .val (.int x101), .unset, .unset, .unset, .unset] [(.int (7 : Int32)), (.ref b104), (.ref b104)])) t
    refine X134.ldcInt hx hown (mvT hZ (hw _ (List.mem_of_getElem? (i := 10) rfl))) (g := (mkF m 220 #[.val (.long q1), .second, .val (.long q2), .second, .val (.int p3), .val (.int p4), .val (.int p5), .val (.ref b2), .val (.int x100), .val (.int x101), .unset, .unset, .unset, .unset] [(.int (7 : Int32)), (.ref b104), (.ref b104)])) rfl (hb hby at_220) _ ?_
    exact k)
  have V_o137 := V134
  obtain ⟨co137, Aro137, qo137, So137, Mo137, Ho137, Go137⟩ := V_o137
  have hin138 : ¬ ((7 : Int32) < 0 ∨ co137.slots.size ≤ ((7 : Int32)).toNatClampNeg) := inb_of So137 ⟨by decide, by decide⟩
  obtain ⟨T138, h138, X138, e138, W138, st138⟩ := stI X134 hx hZ e134 Aro137 (j := (7 : Int32)) hin138 (g := (mkF m 222 #[.val (.long q1), .second, .val (.long q2), .second, .val (.int p3), .val (.int p4), .val (.int p5), .val (.ref b2), .val (.int x100), .val (.int x101), .unset, .unset, .unset, .unset] [(.int (10000000 : Int32)), (.int (7 : Int32)), (.ref b104), (.ref b104)])) rfl rfl (hb hby at_222)
  have V138 : Arv Z h138 b104 k104 .int (9 : Int32) [(.int (1 : Int32)), (.int (10 : Int32)), (.int (100 : Int32)), (.int (1000 : Int32)), (.int (10000 : Int32)), (.int (100000 : Int32)), (.int (1000000 : Int32)), (.int (10000000 : Int32)), (.int (0 : Int32))] (.int (0 : Int32)) := Arv.set Aro137 qo137 So137 Mo137 Ho137 Go137 rfl W138 7 rfl (Nat.le_of_ble_eq_true rfl)
  have P139 : Rch p e below (s₁.setTop (entryFrame m #[(.long q1), (.long q2), (.int p3), (.int p4), (.int p5)] maxLocals)) (T138.setTop (mkF m 223 #[.val (.long q1), .second, .val (.long q2), .second, .val (.int p3), .val (.int p4), .val (.int p5), .val (.ref b2), .val (.int x100), .val (.int x101), .unset, .unset, .unset, .unset] [(.ref b104)])) := fun t k => P136 t (st138 t k)
  have N138 := Fr.snoc X138 N134 g_b104
  have P140 : Rch p e below (s₁.setTop (entryFrame m #[(.long q1), (.long q2), (.int p3), (.int p4), (.int p5)] maxLocals)) (T138.setTop (mkF m 228 #[.val (.long q1), .second, .val (.long q2), .second, .val (.int p3), .val (.int p4), .val (.int p5), .val (.ref b2), .val (.int x100), .val (.int x101), .unset, .unset, .unset, .unset] [(.int (100000000 : Int32)), (.int (8 : Int32)), (.ref b104), (.ref b104)])) := fun t k => P139 t (by
    show Steps p.tables e below (T138.setTop (mkF m 223 #[.val (.long q1), .second, .val (.long q2), .second, .val (.int p3), .val (.int p4), .val (.int p5), .val (.ref b2), .val (.int x100), .val (.int x101), .unset, .unset, .unset, .unset] [(.ref b104)])) t
    refine XS.dup X138.here hx rfl (hb hby at_223) rfl rfl ?_
    show Steps p.tables e below (T138.setTop (mkF m 224 #[.val (.long q1), .second, .val (.long q2), .second, .val (.int p3), .val (.int p4), .val (.int p5), .val (.ref b2), .val (.int x100), .val (.int x101), .unset, .unset, .unset, .unset] [(.ref b104), (.ref b104)])) t
    refine XS.bipush X138.here hx rfl (hb hby at_224) ?_
    show Steps p.tables e below (T138.setTop (mkF m 226 #[.val (.long q1), .second, .val (.long q2), .second, .val (.int p3), .val (.int p4), .val (.int p5), .val (.ref b2), .val (.int x100), .val (.int x101), .unset, .unset, .unset, .unset] [(.int (8 : Int32)), (.ref b104), (.ref b104)])) t
    refine X138.ldcInt hx hown (mvT hZ (hw _ (List.mem_of_getElem? (i := 11) rfl))) (g := (mkF m 226 #[.val (.long q1), .second, .val (.long q2), .second, .val (.int p3), .val (.int p4), .val (.int p5), .val (.ref b2), .val (.int x100), .val (.int x101), .unset, .unset, .unset, .unset] [(.int (8 : Int32)), (.ref b104), (.ref b104)])) rfl (hb hby at_226) _ ?_
    exact k)
  have V_o141 := V138
  obtain ⟨co141, Aro141, qo141, So141, Mo141, Ho141, Go141⟩ := V_o141
  have hin142 : ¬ ((8 : Int32) < 0 ∨ co141.slots.size ≤ ((8 : Int32)).toNatClampNeg) := inb_of So141 ⟨by decide, by decide⟩
  obtain ⟨T142, h142, X142, e142, W142, st142⟩ := stI X138 hx hZ e138 Aro141 (j := (8 : Int32)) hin142 (g := (mkF m 228 #[.val (.long q1), .second, .val (.long q2), .second, .val (.int p3), .val (.int p4), .val (.int p5), .val (.ref b2), .val (.int x100), .val (.int x101), .unset, .unset, .unset, .unset] [(.int (100000000 : Int32)), (.int (8 : Int32)), (.ref b104), (.ref b104)])) rfl rfl (hb hby at_228)
  have V142 : Arv Z h142 b104 k104 .int (9 : Int32) [(.int (1 : Int32)), (.int (10 : Int32)), (.int (100 : Int32)), (.int (1000 : Int32)), (.int (10000 : Int32)), (.int (100000 : Int32)), (.int (1000000 : Int32)), (.int (10000000 : Int32)), (.int (100000000 : Int32))] (.int (0 : Int32)) := Arv.set Aro141 qo141 So141 Mo141 Ho141 Go141 rfl W142 8 rfl (Nat.le_of_ble_eq_true rfl)
  have P143 : Rch p e below (s₁.setTop (entryFrame m #[(.long q1), (.long q2), (.int p3), (.int p4), (.int p5)] maxLocals)) (T142.setTop (mkF m 229 #[.val (.long q1), .second, .val (.long q2), .second, .val (.int p3), .val (.int p4), .val (.int p5), .val (.ref b2), .val (.int x100), .val (.int x101), .unset, .unset, .unset, .unset] [(.ref b104)])) := fun t k => P140 t (st142 t k)
  have N142 := Fr.snoc X142 N138 g_b104
  have P144 : Rch p e below (s₁.setTop (entryFrame m #[(.long q1), (.long q2), (.int p3), (.int p4), (.int p5)] maxLocals)) (T142.setTop (mkF m 231 #[.val (.long q1), .second, .val (.long q2), .second, .val (.int p3), .val (.int p4), .val (.int p5), .val (.ref b2), .val (.int x100), .val (.int x101), .val (.ref b104), .unset, .unset, .unset] [])) := fun t k => P143 t (by
    show Steps p.tables e below (T142.setTop (mkF m 229 #[.val (.long q1), .second, .val (.long q2), .second, .val (.int p3), .val (.int p4), .val (.int p5), .val (.ref b2), .val (.int x100), .val (.int x101), .unset, .unset, .unset, .unset] [(.ref b104)])) t
    refine XS.astore X142.here hx rfl (hb hby at_229) rfl rfl (l' := #[.val (.long q1), .second, .val (.long q2), .second, .val (.int p3), .val (.int p4), .val (.int p5), .val (.ref b2), .val (.int x100), .val (.int x101), .val (.ref b104), .unset, .unset, .unset]) rfl ?_
    exact k)
  have f145 : Arv Z h142 b2 k2 .byte (12 : Int32) [(.int (nar .byte x8)), (.int (nar .byte x16)), (.int (nar .byte x24)), (.int (nar .byte x32)), (.int (nar .byte x40)), (.int (nar .byte x48)), (.int (nar .byte x56)), (.int (nar .byte x64)), (.int (nar .byte x72)), (.int (nar .byte x80)), (.int (nar .byte x88)), (.int (nar .byte x96))] (.int (0 : Int32)) := ((((((((((V98.ext E104).other W110 ne_b2_b104).other W114 ne_b2_b104).other W118 ne_b2_b104).other W122 ne_b2_b104).other W126 ne_b2_b104).other W130 ne_b2_b104).other W134 ne_b2_b104).other W138 ne_b2_b104).other W142 ne_b2_b104)
  obtain ⟨DB, hDB⟩ : ∃ L : List Int32, L = [(nar .byte x8), (nar .byte x16), (nar .byte x24), (nar .byte x32), (nar .byte x40), (nar .byte x48), (nar .byte x56), (nar .byte x64), (nar .byte x72), (nar .byte x80), (nar .byte x88), (nar .byte x96)] := ⟨_, rfl⟩
  obtain ⟨VB, hVB⟩ : ∃ L : List Value, L = [(.int (nar .byte x8)), (.int (nar .byte x16)), (.int (nar .byte x24)), (.int (nar .byte x32)), (.int (nar .byte x40)), (.int (nar .byte x48)), (.int (nar .byte x56)), (.int (nar .byte x64)), (.int (nar .byte x72)), (.int (nar .byte x80)), (.int (nar .byte x88)), (.int (nar .byte x96))] := ⟨_, rfl⟩
  have hgB : ∀ i, VB.getD i (.int (0 : Int32)) = .int (DB.getD i 0) := by subst hDB hVB; exact own_gd [(nar .byte x8), (nar .byte x16), (nar .byte x24), (nar .byte x32), (nar .byte x40), (nar .byte x48), (nar .byte x56), (nar .byte x64), (nar .byte x72), (nar .byte x80), (nar .byte x88), (nar .byte x96)]
  have hrB : ∀ i, -128 ≤ (DB.getD i 0).toInt ∧ (DB.getD i 0).toInt ≤ 127 := by subst hDB; exact own_rg [x8, x16, x24, x32, x40, x48, x56, x64, x72, x80, x88, x96]
  have AB : Arv Z h142 b2 k2 .byte (12 : Int32) VB (.int (0 : Int32)) := by rw [hVB]; exact f145
  obtain ⟨VP, hVP⟩ : ∃ L : List Value, L = [(.int (1 : Int32)), (.int (10 : Int32)), (.int (100 : Int32)), (.int (1000 : Int32)), (.int (10000 : Int32)), (.int (100000 : Int32)), (.int (1000000 : Int32)), (.int (10000000 : Int32)), (.int (100000000 : Int32))] := ⟨_, rfl⟩
  have hgP : ∀ i, VP.getD i (.int (0 : Int32)) = .int (own_pows.getD i 0) := by subst hVP; exact own_gd [(1 : Int32), (10 : Int32), (100 : Int32), (1000 : Int32), (10000 : Int32), (100000 : Int32), (1000000 : Int32), (10000000 : Int32), (100000000 : Int32)]
  have AP : Arv Z h142 b104 k104 .int (9 : Int32) VP (.int (0 : Int32)) := by rw [hVP]; exact V142
  have hf : 0 ≤ x100.toInt ∧ x100.toInt ≤ 3 := by rw [hx100]; exact own_f3 _
  have hcn : 0 ≤ x101.toInt ∧ x101.toInt ≤ 9 := by rw [hx101]; exact own_c9 _
  have P146 : Rch p e below (s₁.setTop (entryFrame m #[(.long q1), (.long q2), (.int p3), (.int p4), (.int p5)] maxLocals)) (T142.setTop (mkF m 238 #[.val (.long q1), .second, .val (.long q2), .second, .val (.int p3), .val (.int p4), .val (.int p5), .val (.ref b2), .val (.int x100), .val (.int x101), .val (.ref b104), .unset, .unset, .unset] [(.int (0 : Int32)), (.int x101), (.int x100), (.ref b2)])) := fun t k => P144 t (by
    show Steps p.tables e below (T142.setTop (mkF m 231 #[.val (.long q1), .second, .val (.long q2), .second, .val (.int p3), .val (.int p4), .val (.int p5), .val (.ref b2), .val (.int x100), .val (.int x101), .val (.ref b104), .unset, .unset, .unset] [])) t
    refine XS.aload X142.here hx rfl (hb hby at_231) rfl rfl ?_
    show Steps p.tables e below (T142.setTop (mkF m 233 #[.val (.long q1), .second, .val (.long q2), .second, .val (.int p3), .val (.int p4), .val (.int p5), .val (.ref b2), .val (.int x100), .val (.int x101), .val (.ref b104), .unset, .unset, .unset] [(.ref b2)])) t
    refine XS.iload X142.here hx rfl (hb hby at_233) rfl ?_
    show Steps p.tables e below (T142.setTop (mkF m 235 #[.val (.long q1), .second, .val (.long q2), .second, .val (.int p3), .val (.int p4), .val (.int p5), .val (.ref b2), .val (.int x100), .val (.int x101), .val (.ref b104), .unset, .unset, .unset] [(.int x100), (.ref b2)])) t
    refine XS.iload X142.here hx rfl (hb hby at_235) rfl ?_
    show Steps p.tables e below (T142.setTop (mkF m 237 #[.val (.long q1), .second, .val (.long q2), .second, .val (.int p3), .val (.int p4), .val (.int p5), .val (.ref b2), .val (.int x100), .val (.int x101), .val (.ref b104), .unset, .unset, .unset] [(.int x101), (.int x100), (.ref b2)])) t
    refine XS.iconst X142.here hx rfl (hb hby at_237) ?_
    exact k)
  have f148 : n0 ≤ h142.size := (Nat.le_trans (Nat.le_trans (Nat.le_trans (Nat.le_trans (Nat.le_trans (Nat.le_trans (Nat.le_trans (Nat.le_trans (Nat.le_trans (Nat.le_trans f105 E104.1) (Keep.of_wr W110).1) (Keep.of_wr W114).1) (Keep.of_wr W118).1) (Keep.of_wr W122).1) (Keep.of_wr W126).1) (Keep.of_wr W130).1) (Keep.of_wr W134).1) (Keep.of_wr W138).1) (Keep.of_wr W142).1)
  obtain ⟨_, _, ⟨T147, L147, k147, n147⟩, -, X147, ⟨Lc147, hQ147, l147, y147, z147⟩, st147⟩ := Jvm.LawKit.callS X142 hx (y := (⟨"com/example/carrel/carrel/server/marc/MarcRecordDigitsPinLaw", "badAt", "([BIII)Z"⟩ : MethodName)) hown (mvT hZ (hw _ (List.mem_of_getElem? (i := 12) rfl))) (mvT hZ (hw _ (List.mem_of_getElem? (i := 13) rfl))) (mvT hZ (hw _ (List.mem_of_getElem? (i := 3) rfl))) (mvT hZ (hw _ (List.mem_of_getElem? (i := 14) rfl))) (by decide) (backOf (W := 0) (rmBa l Z a0 hw [] b2 x100 x101 (0 : Int32) k2 VB (own_W DB x100 (0 : Int32)) h142 n0 f148 AB (own_fk hf (by decide) (by decide)) (hgB _)) hZ (hw _ (List.mem_of_getElem? (i := 14) rfl)) (hw _ (List.mem_of_getElem? (i := 3) rfl)) (by decide) (by decide)) (g := (mkF m 238 #[.val (.long q1), .second, .val (.long q2), .second, .val (.int p3), .val (.int p4), .val (.int p5), .val (.ref b2), .val (.int x100), .val (.int x101), .val (.ref b104), .unset, .unset, .unset] [(.int (0 : Int32)), (.int x101), (.int x100), (.ref b2)])) rfl (by rw [hml]; rfl) (argsL := [(.ref b2), (.int x100), (.int x101), (.int (0 : Int32))]) (rest := []) (lenOf pd_2 rfl) rfl (by show 2 * 0 + _ ≤ _; exact Nat.le_of_eq rfl) (hb hby at_238) (fun _ _ => ⟨rfl, e142, (by decide : 2 + 0 ≤ _), (by decide : 21 + 0 ≤ _)⟩)
  dsimp only [Pt.U, Pt.locs, Pt.cells, Pt.slots] at X147 l147 y147 z147 st147 hQ147
  subst y147 z147
  obtain ⟨rfl, N147q, e147⟩ := hQ147
  have N147 : Fr n0 L147 := by rw [l147]; exact Fr.app N142 N147q
  have P149 : Rch p e below (s₁.setTop (entryFrame m #[(.long q1), (.long q2), (.int p3), (.int p4), (.int p5)] maxLocals)) (T147.setTop (mkF m 241 #[.val (.long q1), .second, .val (.long q2), .second, .val (.int p3), .val (.int p4), .val (.int p5), .val (.ref b2), .val (.int x100), .val (.int x101), .val (.ref b104), .unset, .unset, .unset] [(.int (own_bad x101 (0 : Int32) (own_W DB x100 (0 : Int32))))])) := fun t k => P146 t (st147 t k)
  obtain ⟨x150, hx150⟩ : ∃ z : Int32, z = (own_bad x101 (0 : Int32) (own_W DB x100 (0 : Int32))) := ⟨_, rfl⟩
  rw [← hx150] at P149
  obtain ⟨T151, L151, h151, v203, X151, e151, N151, Z151, K151, hv203, P151⟩ : ∃ (T151 : State) (L151 : List Loc) (h151 : Heap) (v203 : Int32), Stand p l e room_1 s m #[(.long q1), (.long q2), (.int p3), (.int p4), (.int p5)] below meth c T151 L151 2 21 ∧ T151.heap = h151 ∧ Fr n0 L151 ∧ n0 ≤ h151.size ∧ Keep h142 h151 [] ∧ v203 = (if x150 = (0 : Int32) then (if (own_bad x101 (1 : Int32) (own_W DB x100 (1 : Int32))) = (0 : Int32) then (if (own_bad x101 (2 : Int32) (own_W DB x100 (2 : Int32))) = (0 : Int32) then (if (own_bad x101 (3 : Int32) (own_W DB x100 (3 : Int32))) = (0 : Int32) then (if (own_bad x101 (4 : Int32) (own_W DB x100 (4 : Int32))) = (0 : Int32) then (if (own_bad x101 (5 : Int32) (own_W DB x100 (5 : Int32))) = (0 : Int32) then (if (own_bad x101 (6 : Int32) (own_W DB x100 (6 : Int32))) = (0 : Int32) then (if (own_bad x101 (7 : Int32) (own_W DB x100 (7 : Int32))) = (0 : Int32) then (if (own_bad x101 (8 : Int32) (own_W DB x100 (8 : Int32))) = (0 : Int32) then (0 : Int32) else (1 : Int32)) else (1 : Int32)) else (1 : Int32)) else (1 : Int32)) else (1 : Int32)) else (1 : Int32)) else (1 : Int32)) else (1 : Int32)) else (1 : Int32)) ∧ Rch p e below (s₁.setTop (entryFrame m #[(.long q1), (.long q2), (.int p3), (.int p4), (.int p5)] maxLocals)) (T151.setTop (mkF m 356 #[.val (.long q1), .second, .val (.long q2), .second, .val (.int p3), .val (.int p4), .val (.int p5), .val (.ref b2), .val (.int x100), .val (.int x101), .val (.ref b104), .unset, .unset, .unset] [(.int v203)])) := by
    by_cases c152 : x150 = (0 : Int32)
    · have P153 : Rch p e below (s₁.setTop (entryFrame m #[(.long q1), (.long q2), (.int p3), (.int p4), (.int p5)] maxLocals)) (T147.setTop (mkF m 251 #[.val (.long q1), .second, .val (.long q2), .second, .val (.int p3), .val (.int p4), .val (.int p5), .val (.ref b2), .val (.int x100), .val (.int x101), .val (.ref b104), .unset, .unset, .unset] [(.int (1 : Int32)), (.int x101), (.int x100), (.ref b2)])) := fun t k => P149 t (by
        show Steps p.tables e below (T147.setTop (mkF m 241 #[.val (.long q1), .second, .val (.long q2), .second, .val (.int p3), .val (.int p4), .val (.int p5), .val (.ref b2), .val (.int x100), .val (.int x101), .val (.ref b104), .unset, .unset, .unset] [(.int x150)])) t
        refine XS.ifNo X147.here hx rfl (hb hby at_241) rfl ((if0 _ _).trans (teq c152).2) ?_
        show Steps p.tables e below (T147.setTop (mkF m 244 #[.val (.long q1), .second, .val (.long q2), .second, .val (.int p3), .val (.int p4), .val (.int p5), .val (.ref b2), .val (.int x100), .val (.int x101), .val (.ref b104), .unset, .unset, .unset] [])) t
        refine XS.aload X147.here hx rfl (hb hby at_244) rfl rfl ?_
        show Steps p.tables e below (T147.setTop (mkF m 246 #[.val (.long q1), .second, .val (.long q2), .second, .val (.int p3), .val (.int p4), .val (.int p5), .val (.ref b2), .val (.int x100), .val (.int x101), .val (.ref b104), .unset, .unset, .unset] [(.ref b2)])) t
        refine XS.iload X147.here hx rfl (hb hby at_246) rfl ?_
        show Steps p.tables e below (T147.setTop (mkF m 248 #[.val (.long q1), .second, .val (.long q2), .second, .val (.int p3), .val (.int p4), .val (.int p5), .val (.ref b2), .val (.int x100), .val (.int x101), .val (.ref b104), .unset, .unset, .unset] [(.int x100), (.ref b2)])) t
        refine XS.iload X147.here hx rfl (hb hby at_248) rfl ?_
        show Steps p.tables e below (T147.setTop (mkF m 250 #[.val (.long q1), .second, .val (.long q2), .second, .val (.int p3), .val (.int p4), .val (.int p5), .val (.ref b2), .val (.int x100), .val (.int x101), .val (.ref b104), .unset, .unset, .unset] [(.int x101), (.int x100), (.ref b2)])) t
        refine XS.iconst X147.here hx rfl (hb hby at_250) ?_
        exact k)
      obtain ⟨_, _, ⟨T154, L154, k154, n154⟩, -, X154, ⟨Lc154, hQ154, l154, y154, z154⟩, st154⟩ := Jvm.LawKit.callS X147 hx (y := (⟨"com/example/carrel/carrel/server/marc/MarcRecordDigitsPinLaw", "badAt", "([BIII)Z"⟩ : MethodName)) hown (mvT hZ (hw _ (List.mem_of_getElem? (i := 12) rfl))) (mvT hZ (hw _ (List.mem_of_getElem? (i := 13) rfl))) (mvT hZ (hw _ (List.mem_of_getElem? (i := 3) rfl))) (mvT hZ (hw _ (List.mem_of_getElem? (i := 14) rfl))) (by decide) (backOf (W := 0) (rmBa l Z a0 hw [] b2 x100 x101 (1 : Int32) k2 VB (own_W DB x100 (1 : Int32)) h142 n0 f148 AB (own_fk hf (by decide) (by decide)) (hgB _)) hZ (hw _ (List.mem_of_getElem? (i := 14) rfl)) (hw _ (List.mem_of_getElem? (i := 3) rfl)) (by decide) (by decide)) (g := (mkF m 251 #[.val (.long q1), .second, .val (.long q2), .second, .val (.int p3), .val (.int p4), .val (.int p5), .val (.ref b2), .val (.int x100), .val (.int x101), .val (.ref b104), .unset, .unset, .unset] [(.int (1 : Int32)), (.int x101), (.int x100), (.ref b2)])) rfl (by rw [hml]; rfl) (argsL := [(.ref b2), (.int x100), (.int x101), (.int (1 : Int32))]) (rest := []) (lenOf pd_2 rfl) rfl (by show 2 * 0 + _ ≤ _; exact Nat.le_of_eq rfl) (hb hby at_251) (fun _ _ => ⟨rfl, e147, (by decide : 2 + 0 ≤ _), (by decide : 21 + 0 ≤ _)⟩)
      dsimp only [Pt.U, Pt.locs, Pt.cells, Pt.slots] at X154 l154 y154 z154 st154 hQ154
      subst y154 z154
      obtain ⟨rfl, N154q, e154⟩ := hQ154
      have N154 : Fr n0 L154 := by rw [l154]; exact Fr.app N147 N154q
      have P155 : Rch p e below (s₁.setTop (entryFrame m #[(.long q1), (.long q2), (.int p3), (.int p4), (.int p5)] maxLocals)) (T154.setTop (mkF m 254 #[.val (.long q1), .second, .val (.long q2), .second, .val (.int p3), .val (.int p4), .val (.int p5), .val (.ref b2), .val (.int x100), .val (.int x101), .val (.ref b104), .unset, .unset, .unset] [(.int (own_bad x101 (1 : Int32) (own_W DB x100 (1 : Int32))))])) := fun t k => P153 t (st154 t k)
      obtain ⟨x156, hx156⟩ : ∃ z : Int32, z = (own_bad x101 (1 : Int32) (own_W DB x100 (1 : Int32))) := ⟨_, rfl⟩
      rw [← hx156] at P155
      by_cases c157 : x156 = (0 : Int32)
      · have P158 : Rch p e below (s₁.setTop (entryFrame m #[(.long q1), (.long q2), (.int p3), (.int p4), (.int p5)] maxLocals)) (T154.setTop (mkF m 264 #[.val (.long q1), .second, .val (.long q2), .second, .val (.int p3), .val (.int p4), .val (.int p5), .val (.ref b2), .val (.int x100), .val (.int x101), .val (.ref b104), .unset, .unset, .unset] [(.int (2 : Int32)), (.int x101), (.int x100), (.ref b2)])) := fun t k => P155 t (by
          show Steps p.tables e below (T154.setTop (mkF m 254 #[.val (.long q1), .second, .val (.long q2), .second, .val (.int p3), .val (.int p4), .val (.int p5), .val (.ref b2), .val (.int x100), .val (.int x101), .val (.ref b104), .unset, .unset, .unset] [(.int x156)])) t
          refine XS.ifNo X154.here hx rfl (hb hby at_254) rfl ((if0 _ _).trans (teq c157).2) ?_
          show Steps p.tables e below (T154.setTop (mkF m 257 #[.val (.long q1), .second, .val (.long q2), .second, .val (.int p3), .val (.int p4), .val (.int p5), .val (.ref b2), .val (.int x100), .val (.int x101), .val (.ref b104), .unset, .unset, .unset] [])) t
          refine XS.aload X154.here hx rfl (hb hby at_257) rfl rfl ?_
          show Steps p.tables e below (T154.setTop (mkF m 259 #[.val (.long q1), .second, .val (.long q2), .second, .val (.int p3), .val (.int p4), .val (.int p5), .val (.ref b2), .val (.int x100), .val (.int x101), .val (.ref b104), .unset, .unset, .unset] [(.ref b2)])) t
          refine XS.iload X154.here hx rfl (hb hby at_259) rfl ?_
          show Steps p.tables e below (T154.setTop (mkF m 261 #[.val (.long q1), .second, .val (.long q2), .second, .val (.int p3), .val (.int p4), .val (.int p5), .val (.ref b2), .val (.int x100), .val (.int x101), .val (.ref b104), .unset, .unset, .unset] [(.int x100), (.ref b2)])) t
          refine XS.iload X154.here hx rfl (hb hby at_261) rfl ?_
          show Steps p.tables e below (T154.setTop (mkF m 263 #[.val (.long q1), .second, .val (.long q2), .second, .val (.int p3), .val (.int p4), .val (.int p5), .val (.ref b2), .val (.int x100), .val (.int x101), .val (.ref b104), .unset, .unset, .unset] [(.int x101), (.int x100), (.ref b2)])) t
          refine XS.iconst X154.here hx rfl (hb hby at_263) ?_
          exact k)
        obtain ⟨_, _, ⟨T159, L159, k159, n159⟩, -, X159, ⟨Lc159, hQ159, l159, y159, z159⟩, st159⟩ := Jvm.LawKit.callS X154 hx (y := (⟨"com/example/carrel/carrel/server/marc/MarcRecordDigitsPinLaw", "badAt", "([BIII)Z"⟩ : MethodName)) hown (mvT hZ (hw _ (List.mem_of_getElem? (i := 12) rfl))) (mvT hZ (hw _ (List.mem_of_getElem? (i := 13) rfl))) (mvT hZ (hw _ (List.mem_of_getElem? (i := 3) rfl))) (mvT hZ (hw _ (List.mem_of_getElem? (i := 14) rfl))) (by decide) (backOf (W := 0) (rmBa l Z a0 hw [] b2 x100 x101 (2 : Int32) k2 VB (own_W DB x100 (2 : Int32)) h142 n0 f148 AB (own_fk hf (by decide) (by decide)) (hgB _)) hZ (hw _ (List.mem_of_getElem? (i := 14) rfl)) (hw _ (List.mem_of_getElem? (i := 3) rfl)) (by decide) (by decide)) (g := (mkF m 264 #[.val (.long q1), .second, .val (.long q2), .second, .val (.int p3), .val (.int p4), .val (.int p5), .val (.ref b2), .val (.int x100), .val (.int x101), .val (.ref b104), .unset, .unset, .unset] [(.int (2 : Int32)), (.int x101), (.int x100), (.ref b2)])) rfl (by rw [hml]; rfl) (argsL := [(.ref b2), (.int x100), (.int x101), (.int (2 : Int32))]) (rest := []) (lenOf pd_2 rfl) rfl (by show 2 * 0 + _ ≤ _; exact Nat.le_of_eq rfl) (hb hby at_264) (fun _ _ => ⟨rfl, e154, (by decide : 2 + 0 ≤ _), (by decide : 21 + 0 ≤ _)⟩)
        dsimp only [Pt.U, Pt.locs, Pt.cells, Pt.slots] at X159 l159 y159 z159 st159 hQ159
        subst y159 z159
        obtain ⟨rfl, N159q, e159⟩ := hQ159
        have N159 : Fr n0 L159 := by rw [l159]; exact Fr.app N154 N159q
        have P160 : Rch p e below (s₁.setTop (entryFrame m #[(.long q1), (.long q2), (.int p3), (.int p4), (.int p5)] maxLocals)) (T159.setTop (mkF m 267 #[.val (.long q1), .second, .val (.long q2), .second, .val (.int p3), .val (.int p4), .val (.int p5), .val (.ref b2), .val (.int x100), .val (.int x101), .val (.ref b104), .unset, .unset, .unset] [(.int (own_bad x101 (2 : Int32) (own_W DB x100 (2 : Int32))))])) := fun t k => P158 t (st159 t k)
        obtain ⟨x161, hx161⟩ : ∃ z : Int32, z = (own_bad x101 (2 : Int32) (own_W DB x100 (2 : Int32))) := ⟨_, rfl⟩
        rw [← hx161] at P160
        by_cases c162 : x161 = (0 : Int32)
        · have P163 : Rch p e below (s₁.setTop (entryFrame m #[(.long q1), (.long q2), (.int p3), (.int p4), (.int p5)] maxLocals)) (T159.setTop (mkF m 277 #[.val (.long q1), .second, .val (.long q2), .second, .val (.int p3), .val (.int p4), .val (.int p5), .val (.ref b2), .val (.int x100), .val (.int x101), .val (.ref b104), .unset, .unset, .unset] [(.int (3 : Int32)), (.int x101), (.int x100), (.ref b2)])) := fun t k => P160 t (by
            show Steps p.tables e below (T159.setTop (mkF m 267 #[.val (.long q1), .second, .val (.long q2), .second, .val (.int p3), .val (.int p4), .val (.int p5), .val (.ref b2), .val (.int x100), .val (.int x101), .val (.ref b104), .unset, .unset, .unset] [(.int x161)])) t
            refine XS.ifNo X159.here hx rfl (hb hby at_267) rfl ((if0 _ _).trans (teq c162).2) ?_
            show Steps p.tables e below (T159.setTop (mkF m 270 #[.val (.long q1), .second, .val (.long q2), .second, .val (.int p3), .val (.int p4), .val (.int p5), .val (.ref b2), .val (.int x100), .val (.int x101), .val (.ref b104), .unset, .unset, .unset] [])) t
            refine XS.aload X159.here hx rfl (hb hby at_270) rfl rfl ?_
            show Steps p.tables e below (T159.setTop (mkF m 272 #[.val (.long q1), .second, .val (.long q2), .second, .val (.int p3), .val (.int p4), .val (.int p5), .val (.ref b2), .val (.int x100), .val (.int x101), .val (.ref b104), .unset, .unset, .unset] [(.ref b2)])) t
            refine XS.iload X159.here hx rfl (hb hby at_272) rfl ?_
            show Steps p.tables e below (T159.setTop (mkF m 274 #[.val (.long q1), .second, .val (.long q2), .second, .val (.int p3), .val (.int p4), .val (.int p5), .val (.ref b2), .val (.int x100), .val (.int x101), .val (.ref b104), .unset, .unset, .unset] [(.int x100), (.ref b2)])) t
            refine XS.iload X159.here hx rfl (hb hby at_274) rfl ?_
            show Steps p.tables e below (T159.setTop (mkF m 276 #[.val (.long q1), .second, .val (.long q2), .second, .val (.int p3), .val (.int p4), .val (.int p5), .val (.ref b2), .val (.int x100), .val (.int x101), .val (.ref b104), .unset, .unset, .unset] [(.int x101), (.int x100), (.ref b2)])) t
            refine XS.iconst X159.here hx rfl (hb hby at_276) ?_
            exact k)
          obtain ⟨_, _, ⟨T164, L164, k164, n164⟩, -, X164, ⟨Lc164, hQ164, l164, y164, z164⟩, st164⟩ := Jvm.LawKit.callS X159 hx (y := (⟨"com/example/carrel/carrel/server/marc/MarcRecordDigitsPinLaw", "badAt", "([BIII)Z"⟩ : MethodName)) hown (mvT hZ (hw _ (List.mem_of_getElem? (i := 12) rfl))) (mvT hZ (hw _ (List.mem_of_getElem? (i := 13) rfl))) (mvT hZ (hw _ (List.mem_of_getElem? (i := 3) rfl))) (mvT hZ (hw _ (List.mem_of_getElem? (i := 14) rfl))) (by decide) (backOf (W := 0) (rmBa l Z a0 hw [] b2 x100 x101 (3 : Int32) k2 VB (own_W DB x100 (3 : Int32)) h142 n0 f148 AB (own_fk hf (by decide) (by decide)) (hgB _)) hZ (hw _ (List.mem_of_getElem? (i := 14) rfl)) (hw _ (List.mem_of_getElem? (i := 3) rfl)) (by decide) (by decide)) (g := (mkF m 277 #[.val (.long q1), .second, .val (.long q2), .second, .val (.int p3), .val (.int p4), .val (.int p5), .val (.ref b2), .val (.int x100), .val (.int x101), .val (.ref b104), .unset, .unset, .unset] [(.int (3 : Int32)), (.int x101), (.int x100), (.ref b2)])) rfl (by rw [hml]; rfl) (argsL := [(.ref b2), (.int x100), (.int x101), (.int (3 : Int32))]) (rest := []) (lenOf pd_2 rfl) rfl (by show 2 * 0 + _ ≤ _; exact Nat.le_of_eq rfl) (hb hby at_277) (fun _ _ => ⟨rfl, e159, (by decide : 2 + 0 ≤ _), (by decide : 21 + 0 ≤ _)⟩)
          dsimp only [Pt.U, Pt.locs, Pt.cells, Pt.slots] at X164 l164 y164 z164 st164 hQ164
          subst y164 z164
          obtain ⟨rfl, N164q, e164⟩ := hQ164
          have N164 : Fr n0 L164 := by rw [l164]; exact Fr.app N159 N164q
          have P165 : Rch p e below (s₁.setTop (entryFrame m #[(.long q1), (.long q2), (.int p3), (.int p4), (.int p5)] maxLocals)) (T164.setTop (mkF m 280 #[.val (.long q1), .second, .val (.long q2), .second, .val (.int p3), .val (.int p4), .val (.int p5), .val (.ref b2), .val (.int x100), .val (.int x101), .val (.ref b104), .unset, .unset, .unset] [(.int (own_bad x101 (3 : Int32) (own_W DB x100 (3 : Int32))))])) := fun t k => P163 t (st164 t k)
          obtain ⟨x166, hx166⟩ : ∃ z : Int32, z = (own_bad x101 (3 : Int32) (own_W DB x100 (3 : Int32))) := ⟨_, rfl⟩
          rw [← hx166] at P165
          by_cases c167 : x166 = (0 : Int32)
          · have P168 : Rch p e below (s₁.setTop (entryFrame m #[(.long q1), (.long q2), (.int p3), (.int p4), (.int p5)] maxLocals)) (T164.setTop (mkF m 290 #[.val (.long q1), .second, .val (.long q2), .second, .val (.int p3), .val (.int p4), .val (.int p5), .val (.ref b2), .val (.int x100), .val (.int x101), .val (.ref b104), .unset, .unset, .unset] [(.int (4 : Int32)), (.int x101), (.int x100), (.ref b2)])) := fun t k => P165 t (by
              show Steps p.tables e below (T164.setTop (mkF m 280 #[.val (.long q1), .second, .val (.long q2), .second, .val (.int p3), .val (.int p4), .val (.int p5), .val (.ref b2), .val (.int x100), .val (.int x101), .val (.ref b104), .unset, .unset, .unset] [(.int x166)])) t
              refine XS.ifNo X164.here hx rfl (hb hby at_280) rfl ((if0 _ _).trans (teq c167).2) ?_
              show Steps p.tables e below (T164.setTop (mkF m 283 #[.val (.long q1), .second, .val (.long q2), .second, .val (.int p3), .val (.int p4), .val (.int p5), .val (.ref b2), .val (.int x100), .val (.int x101), .val (.ref b104), .unset, .unset, .unset] [])) t
              refine XS.aload X164.here hx rfl (hb hby at_283) rfl rfl ?_
              show Steps p.tables e below (T164.setTop (mkF m 285 #[.val (.long q1), .second, .val (.long q2), .second, .val (.int p3), .val (.int p4), .val (.int p5), .val (.ref b2), .val (.int x100), .val (.int x101), .val (.ref b104), .unset, .unset, .unset] [(.ref b2)])) t
              refine XS.iload X164.here hx rfl (hb hby at_285) rfl ?_
              show Steps p.tables e below (T164.setTop (mkF m 287 #[.val (.long q1), .second, .val (.long q2), .second, .val (.int p3), .val (.int p4), .val (.int p5), .val (.ref b2), .val (.int x100), .val (.int x101), .val (.ref b104), .unset, .unset, .unset] [(.int x100), (.ref b2)])) t
              refine XS.iload X164.here hx rfl (hb hby at_287) rfl ?_
              show Steps p.tables e below (T164.setTop (mkF m 289 #[.val (.long q1), .second, .val (.long q2), .second, .val (.int p3), .val (.int p4), .val (.int p5), .val (.ref b2), .val (.int x100), .val (.int x101), .val (.ref b104), .unset, .unset, .unset] [(.int x101), (.int x100), (.ref b2)])) t
              refine XS.iconst X164.here hx rfl (hb hby at_289) ?_
              exact k)
            obtain ⟨_, _, ⟨T169, L169, k169, n169⟩, -, X169, ⟨Lc169, hQ169, l169, y169, z169⟩, st169⟩ := Jvm.LawKit.callS X164 hx (y := (⟨"com/example/carrel/carrel/server/marc/MarcRecordDigitsPinLaw", "badAt", "([BIII)Z"⟩ : MethodName)) hown (mvT hZ (hw _ (List.mem_of_getElem? (i := 12) rfl))) (mvT hZ (hw _ (List.mem_of_getElem? (i := 13) rfl))) (mvT hZ (hw _ (List.mem_of_getElem? (i := 3) rfl))) (mvT hZ (hw _ (List.mem_of_getElem? (i := 14) rfl))) (by decide) (backOf (W := 0) (rmBa l Z a0 hw [] b2 x100 x101 (4 : Int32) k2 VB (own_W DB x100 (4 : Int32)) h142 n0 f148 AB (own_fk hf (by decide) (by decide)) (hgB _)) hZ (hw _ (List.mem_of_getElem? (i := 14) rfl)) (hw _ (List.mem_of_getElem? (i := 3) rfl)) (by decide) (by decide)) (g := (mkF m 290 #[.val (.long q1), .second, .val (.long q2), .second, .val (.int p3), .val (.int p4), .val (.int p5), .val (.ref b2), .val (.int x100), .val (.int x101), .val (.ref b104), .unset, .unset, .unset] [(.int (4 : Int32)), (.int x101), (.int x100), (.ref b2)])) rfl (by rw [hml]; rfl) (argsL := [(.ref b2), (.int x100), (.int x101), (.int (4 : Int32))]) (rest := []) (lenOf pd_2 rfl) rfl (by show 2 * 0 + _ ≤ _; exact Nat.le_of_eq rfl) (hb hby at_290) (fun _ _ => ⟨rfl, e164, (by decide : 2 + 0 ≤ _), (by decide : 21 + 0 ≤ _)⟩)
            dsimp only [Pt.U, Pt.locs, Pt.cells, Pt.slots] at X169 l169 y169 z169 st169 hQ169
            subst y169 z169
            obtain ⟨rfl, N169q, e169⟩ := hQ169
            have N169 : Fr n0 L169 := by rw [l169]; exact Fr.app N164 N169q
            have P170 : Rch p e below (s₁.setTop (entryFrame m #[(.long q1), (.long q2), (.int p3), (.int p4), (.int p5)] maxLocals)) (T169.setTop (mkF m 293 #[.val (.long q1), .second, .val (.long q2), .second, .val (.int p3), .val (.int p4), .val (.int p5), .val (.ref b2), .val (.int x100), .val (.int x101), .val (.ref b104), .unset, .unset, .unset] [(.int (own_bad x101 (4 : Int32) (own_W DB x100 (4 : Int32))))])) := fun t k => P168 t (st169 t k)
            obtain ⟨x171, hx171⟩ : ∃ z : Int32, z = (own_bad x101 (4 : Int32) (own_W DB x100 (4 : Int32))) := ⟨_, rfl⟩
            rw [← hx171] at P170
            by_cases c172 : x171 = (0 : Int32)
            · have P173 : Rch p e below (s₁.setTop (entryFrame m #[(.long q1), (.long q2), (.int p3), (.int p4), (.int p5)] maxLocals)) (T169.setTop (mkF m 303 #[.val (.long q1), .second, .val (.long q2), .second, .val (.int p3), .val (.int p4), .val (.int p5), .val (.ref b2), .val (.int x100), .val (.int x101), .val (.ref b104), .unset, .unset, .unset] [(.int (5 : Int32)), (.int x101), (.int x100), (.ref b2)])) := fun t k => P170 t (by
                show Steps p.tables e below (T169.setTop (mkF m 293 #[.val (.long q1), .second, .val (.long q2), .second, .val (.int p3), .val (.int p4), .val (.int p5), .val (.ref b2), .val (.int x100), .val (.int x101), .val (.ref b104), .unset, .unset, .unset] [(.int x171)])) t
                refine XS.ifNo X169.here hx rfl (hb hby at_293) rfl ((if0 _ _).trans (teq c172).2) ?_
                show Steps p.tables e below (T169.setTop (mkF m 296 #[.val (.long q1), .second, .val (.long q2), .second, .val (.int p3), .val (.int p4), .val (.int p5), .val (.ref b2), .val (.int x100), .val (.int x101), .val (.ref b104), .unset, .unset, .unset] [])) t
                refine XS.aload X169.here hx rfl (hb hby at_296) rfl rfl ?_
                show Steps p.tables e below (T169.setTop (mkF m 298 #[.val (.long q1), .second, .val (.long q2), .second, .val (.int p3), .val (.int p4), .val (.int p5), .val (.ref b2), .val (.int x100), .val (.int x101), .val (.ref b104), .unset, .unset, .unset] [(.ref b2)])) t
                refine XS.iload X169.here hx rfl (hb hby at_298) rfl ?_
                show Steps p.tables e below (T169.setTop (mkF m 300 #[.val (.long q1), .second, .val (.long q2), .second, .val (.int p3), .val (.int p4), .val (.int p5), .val (.ref b2), .val (.int x100), .val (.int x101), .val (.ref b104), .unset, .unset, .unset] [(.int x100), (.ref b2)])) t
                refine XS.iload X169.here hx rfl (hb hby at_300) rfl ?_
                show Steps p.tables e below (T169.setTop (mkF m 302 #[.val (.long q1), .second, .val (.long q2), .second, .val (.int p3), .val (.int p4), .val (.int p5), .val (.ref b2), .val (.int x100), .val (.int x101), .val (.ref b104), .unset, .unset, .unset] [(.int x101), (.int x100), (.ref b2)])) t
                refine XS.iconst X169.here hx rfl (hb hby at_302) ?_
                exact k)
              obtain ⟨_, _, ⟨T174, L174, k174, n174⟩, -, X174, ⟨Lc174, hQ174, l174, y174, z174⟩, st174⟩ := Jvm.LawKit.callS X169 hx (y := (⟨"com/example/carrel/carrel/server/marc/MarcRecordDigitsPinLaw", "badAt", "([BIII)Z"⟩ : MethodName)) hown (mvT hZ (hw _ (List.mem_of_getElem? (i := 12) rfl))) (mvT hZ (hw _ (List.mem_of_getElem? (i := 13) rfl))) (mvT hZ (hw _ (List.mem_of_getElem? (i := 3) rfl))) (mvT hZ (hw _ (List.mem_of_getElem? (i := 14) rfl))) (by decide) (backOf (W := 0) (rmBa l Z a0 hw [] b2 x100 x101 (5 : Int32) k2 VB (own_W DB x100 (5 : Int32)) h142 n0 f148 AB (own_fk hf (by decide) (by decide)) (hgB _)) hZ (hw _ (List.mem_of_getElem? (i := 14) rfl)) (hw _ (List.mem_of_getElem? (i := 3) rfl)) (by decide) (by decide)) (g := (mkF m 303 #[.val (.long q1), .second, .val (.long q2), .second, .val (.int p3), .val (.int p4), .val (.int p5), .val (.ref b2), .val (.int x100), .val (.int x101), .val (.ref b104), .unset, .unset, .unset] [(.int (5 : Int32)), (.int x101), (.int x100), (.ref b2)])) rfl (by rw [hml]; rfl) (argsL := [(.ref b2), (.int x100), (.int x101), (.int (5 : Int32))]) (rest := []) (lenOf pd_2 rfl) rfl (by show 2 * 0 + _ ≤ _; exact Nat.le_of_eq rfl) (hb hby at_303) (fun _ _ => ⟨rfl, e169, (by decide : 2 + 0 ≤ _), (by decide : 21 + 0 ≤ _)⟩)
              dsimp only [Pt.U, Pt.locs, Pt.cells, Pt.slots] at X174 l174 y174 z174 st174 hQ174
              subst y174 z174
              obtain ⟨rfl, N174q, e174⟩ := hQ174
              have N174 : Fr n0 L174 := by rw [l174]; exact Fr.app N169 N174q
              have P175 : Rch p e below (s₁.setTop (entryFrame m #[(.long q1), (.long q2), (.int p3), (.int p4), (.int p5)] maxLocals)) (T174.setTop (mkF m 306 #[.val (.long q1), .second, .val (.long q2), .second, .val (.int p3), .val (.int p4), .val (.int p5), .val (.ref b2), .val (.int x100), .val (.int x101), .val (.ref b104), .unset, .unset, .unset] [(.int (own_bad x101 (5 : Int32) (own_W DB x100 (5 : Int32))))])) := fun t k => P173 t (st174 t k)
              obtain ⟨x176, hx176⟩ : ∃ z : Int32, z = (own_bad x101 (5 : Int32) (own_W DB x100 (5 : Int32))) := ⟨_, rfl⟩
              rw [← hx176] at P175
              by_cases c177 : x176 = (0 : Int32)
              · have P178 : Rch p e below (s₁.setTop (entryFrame m #[(.long q1), (.long q2), (.int p3), (.int p4), (.int p5)] maxLocals)) (T174.setTop (mkF m 317 #[.val (.long q1), .second, .val (.long q2), .second, .val (.int p3), .val (.int p4), .val (.int p5), .val (.ref b2), .val (.int x100), .val (.int x101), .val (.ref b104), .unset, .unset, .unset] [(.int (6 : Int32)), (.int x101), (.int x100), (.ref b2)])) := fun t k => P175 t (by
                  show Steps p.tables e below (T174.setTop (mkF m 306 #[.val (.long q1), .second, .val (.long q2), .second, .val (.int p3), .val (.int p4), .val (.int p5), .val (.ref b2), .val (.int x100), .val (.int x101), .val (.ref b104), .unset, .unset, .unset] [(.int x176)])) t
                  refine XS.ifNo X174.here hx rfl (hb hby at_306) rfl ((if0 _ _).trans (teq c177).2) ?_
                  show Steps p.tables e below (T174.setTop (mkF m 309 #[.val (.long q1), .second, .val (.long q2), .second, .val (.int p3), .val (.int p4), .val (.int p5), .val (.ref b2), .val (.int x100), .val (.int x101), .val (.ref b104), .unset, .unset, .unset] [])) t
                  refine XS.aload X174.here hx rfl (hb hby at_309) rfl rfl ?_
                  show Steps p.tables e below (T174.setTop (mkF m 311 #[.val (.long q1), .second, .val (.long q2), .second, .val (.int p3), .val (.int p4), .val (.int p5), .val (.ref b2), .val (.int x100), .val (.int x101), .val (.ref b104), .unset, .unset, .unset] [(.ref b2)])) t
                  refine XS.iload X174.here hx rfl (hb hby at_311) rfl ?_
                  show Steps p.tables e below (T174.setTop (mkF m 313 #[.val (.long q1), .second, .val (.long q2), .second, .val (.int p3), .val (.int p4), .val (.int p5), .val (.ref b2), .val (.int x100), .val (.int x101), .val (.ref b104), .unset, .unset, .unset] [(.int x100), (.ref b2)])) t
                  refine XS.iload X174.here hx rfl (hb hby at_313) rfl ?_
                  show Steps p.tables e below (T174.setTop (mkF m 315 #[.val (.long q1), .second, .val (.long q2), .second, .val (.int p3), .val (.int p4), .val (.int p5), .val (.ref b2), .val (.int x100), .val (.int x101), .val (.ref b104), .unset, .unset, .unset] [(.int x101), (.int x100), (.ref b2)])) t
                  refine XS.bipush X174.here hx rfl (hb hby at_315) ?_
                  exact k)
                obtain ⟨_, _, ⟨T179, L179, k179, n179⟩, -, X179, ⟨Lc179, hQ179, l179, y179, z179⟩, st179⟩ := Jvm.LawKit.callS X174 hx (y := (⟨"com/example/carrel/carrel/server/marc/MarcRecordDigitsPinLaw", "badAt", "([BIII)Z"⟩ : MethodName)) hown (mvT hZ (hw _ (List.mem_of_getElem? (i := 12) rfl))) (mvT hZ (hw _ (List.mem_of_getElem? (i := 13) rfl))) (mvT hZ (hw _ (List.mem_of_getElem? (i := 3) rfl))) (mvT hZ (hw _ (List.mem_of_getElem? (i := 14) rfl))) (by decide) (backOf (W := 0) (rmBa l Z a0 hw [] b2 x100 x101 (6 : Int32) k2 VB (own_W DB x100 (6 : Int32)) h142 n0 f148 AB (own_fk hf (by decide) (by decide)) (hgB _)) hZ (hw _ (List.mem_of_getElem? (i := 14) rfl)) (hw _ (List.mem_of_getElem? (i := 3) rfl)) (by decide) (by decide)) (g := (mkF m 317 #[.val (.long q1), .second, .val (.long q2), .second, .val (.int p3), .val (.int p4), .val (.int p5), .val (.ref b2), .val (.int x100), .val (.int x101), .val (.ref b104), .unset, .unset, .unset] [(.int (6 : Int32)), (.int x101), (.int x100), (.ref b2)])) rfl (by rw [hml]; rfl) (argsL := [(.ref b2), (.int x100), (.int x101), (.int (6 : Int32))]) (rest := []) (lenOf pd_2 rfl) rfl (by show 2 * 0 + _ ≤ _; exact Nat.le_of_eq rfl) (hb hby at_317) (fun _ _ => ⟨rfl, e174, (by decide : 2 + 0 ≤ _), (by decide : 21 + 0 ≤ _)⟩)
                dsimp only [Pt.U, Pt.locs, Pt.cells, Pt.slots] at X179 l179 y179 z179 st179 hQ179
                subst y179 z179
                obtain ⟨rfl, N179q, e179⟩ := hQ179
                have N179 : Fr n0 L179 := by rw [l179]; exact Fr.app N174 N179q
                have P180 : Rch p e below (s₁.setTop (entryFrame m #[(.long q1), (.long q2), (.int p3), (.int p4), (.int p5)] maxLocals)) (T179.setTop (mkF m 320 #[.val (.long q1), .second, .val (.long q2), .second, .val (.int p3), .val (.int p4), .val (.int p5), .val (.ref b2), .val (.int x100), .val (.int x101), .val (.ref b104), .unset, .unset, .unset] [(.int (own_bad x101 (6 : Int32) (own_W DB x100 (6 : Int32))))])) := fun t k => P178 t (st179 t k)
                obtain ⟨x181, hx181⟩ : ∃ z : Int32, z = (own_bad x101 (6 : Int32) (own_W DB x100 (6 : Int32))) := ⟨_, rfl⟩
                rw [← hx181] at P180
                by_cases c182 : x181 = (0 : Int32)
                · have P183 : Rch p e below (s₁.setTop (entryFrame m #[(.long q1), (.long q2), (.int p3), (.int p4), (.int p5)] maxLocals)) (T179.setTop (mkF m 331 #[.val (.long q1), .second, .val (.long q2), .second, .val (.int p3), .val (.int p4), .val (.int p5), .val (.ref b2), .val (.int x100), .val (.int x101), .val (.ref b104), .unset, .unset, .unset] [(.int (7 : Int32)), (.int x101), (.int x100), (.ref b2)])) := fun t k => P180 t (by
                    show Steps p.tables e below (T179.setTop (mkF m 320 #[.val (.long q1), .second, .val (.long q2), .second, .val (.int p3), .val (.int p4), .val (.int p5), .val (.ref b2), .val (.int x100), .val (.int x101), .val (.ref b104), .unset, .unset, .unset] [(.int x181)])) t
                    refine XS.ifNo X179.here hx rfl (hb hby at_320) rfl ((if0 _ _).trans (teq c182).2) ?_
                    show Steps p.tables e below (T179.setTop (mkF m 323 #[.val (.long q1), .second, .val (.long q2), .second, .val (.int p3), .val (.int p4), .val (.int p5), .val (.ref b2), .val (.int x100), .val (.int x101), .val (.ref b104), .unset, .unset, .unset] [])) t
                    refine XS.aload X179.here hx rfl (hb hby at_323) rfl rfl ?_
                    show Steps p.tables e below (T179.setTop (mkF m 325 #[.val (.long q1), .second, .val (.long q2), .second, .val (.int p3), .val (.int p4), .val (.int p5), .val (.ref b2), .val (.int x100), .val (.int x101), .val (.ref b104), .unset, .unset, .unset] [(.ref b2)])) t
                    refine XS.iload X179.here hx rfl (hb hby at_325) rfl ?_
                    show Steps p.tables e below (T179.setTop (mkF m 327 #[.val (.long q1), .second, .val (.long q2), .second, .val (.int p3), .val (.int p4), .val (.int p5), .val (.ref b2), .val (.int x100), .val (.int x101), .val (.ref b104), .unset, .unset, .unset] [(.int x100), (.ref b2)])) t
                    refine XS.iload X179.here hx rfl (hb hby at_327) rfl ?_
                    show Steps p.tables e below (T179.setTop (mkF m 329 #[.val (.long q1), .second, .val (.long q2), .second, .val (.int p3), .val (.int p4), .val (.int p5), .val (.ref b2), .val (.int x100), .val (.int x101), .val (.ref b104), .unset, .unset, .unset] [(.int x101), (.int x100), (.ref b2)])) t
                    refine XS.bipush X179.here hx rfl (hb hby at_329) ?_
                    exact k)
                  obtain ⟨_, _, ⟨T184, L184, k184, n184⟩, -, X184, ⟨Lc184, hQ184, l184, y184, z184⟩, st184⟩ := Jvm.LawKit.callS X179 hx (y := (⟨"com/example/carrel/carrel/server/marc/MarcRecordDigitsPinLaw", "badAt", "([BIII)Z"⟩ : MethodName)) hown (mvT hZ (hw _ (List.mem_of_getElem? (i := 12) rfl))) (mvT hZ (hw _ (List.mem_of_getElem? (i := 13) rfl))) (mvT hZ (hw _ (List.mem_of_getElem? (i := 3) rfl))) (mvT hZ (hw _ (List.mem_of_getElem? (i := 14) rfl))) (by decide) (backOf (W := 0) (rmBa l Z a0 hw [] b2 x100 x101 (7 : Int32) k2 VB (own_W DB x100 (7 : Int32)) h142 n0 f148 AB (own_fk hf (by decide) (by decide)) (hgB _)) hZ (hw _ (List.mem_of_getElem? (i := 14) rfl)) (hw _ (List.mem_of_getElem? (i := 3) rfl)) (by decide) (by decide)) (g := (mkF m 331 #[.val (.long q1), .second, .val (.long q2), .second, .val (.int p3), .val (.int p4), .val (.int p5), .val (.ref b2), .val (.int x100), .val (.int x101), .val (.ref b104), .unset, .unset, .unset] [(.int (7 : Int32)), (.int x101), (.int x100), (.ref b2)])) rfl (by rw [hml]; rfl) (argsL := [(.ref b2), (.int x100), (.int x101), (.int (7 : Int32))]) (rest := []) (lenOf pd_2 rfl) rfl (by show 2 * 0 + _ ≤ _; exact Nat.le_of_eq rfl) (hb hby at_331) (fun _ _ => ⟨rfl, e179, (by decide : 2 + 0 ≤ _), (by decide : 21 + 0 ≤ _)⟩)
                  dsimp only [Pt.U, Pt.locs, Pt.cells, Pt.slots] at X184 l184 y184 z184 st184 hQ184
                  subst y184 z184
                  obtain ⟨rfl, N184q, e184⟩ := hQ184
                  have N184 : Fr n0 L184 := by rw [l184]; exact Fr.app N179 N184q
                  have P185 : Rch p e below (s₁.setTop (entryFrame m #[(.long q1), (.long q2), (.int p3), (.int p4), (.int p5)] maxLocals)) (T184.setTop (mkF m 334 #[.val (.long q1), .second, .val (.long q2), .second, .val (.int p3), .val (.int p4), .val (.int p5), .val (.ref b2), .val (.int x100), .val (.int x101), .val (.ref b104), .unset, .unset, .unset] [(.int (own_bad x101 (7 : Int32) (own_W DB x100 (7 : Int32))))])) := fun t k => P183 t (st184 t k)
                  obtain ⟨x186, hx186⟩ : ∃ z : Int32, z = (own_bad x101 (7 : Int32) (own_W DB x100 (7 : Int32))) := ⟨_, rfl⟩
                  rw [← hx186] at P185
                  by_cases c187 : x186 = (0 : Int32)
                  · have P188 : Rch p e below (s₁.setTop (entryFrame m #[(.long q1), (.long q2), (.int p3), (.int p4), (.int p5)] maxLocals)) (T184.setTop (mkF m 345 #[.val (.long q1), .second, .val (.long q2), .second, .val (.int p3), .val (.int p4), .val (.int p5), .val (.ref b2), .val (.int x100), .val (.int x101), .val (.ref b104), .unset, .unset, .unset] [(.int (8 : Int32)), (.int x101), (.int x100), (.ref b2)])) := fun t k => P185 t (by
                      show Steps p.tables e below (T184.setTop (mkF m 334 #[.val (.long q1), .second, .val (.long q2), .second, .val (.int p3), .val (.int p4), .val (.int p5), .val (.ref b2), .val (.int x100), .val (.int x101), .val (.ref b104), .unset, .unset, .unset] [(.int x186)])) t
                      refine XS.ifNo X184.here hx rfl (hb hby at_334) rfl ((if0 _ _).trans (teq c187).2) ?_
                      show Steps p.tables e below (T184.setTop (mkF m 337 #[.val (.long q1), .second, .val (.long q2), .second, .val (.int p3), .val (.int p4), .val (.int p5), .val (.ref b2), .val (.int x100), .val (.int x101), .val (.ref b104), .unset, .unset, .unset] [])) t
                      refine XS.aload X184.here hx rfl (hb hby at_337) rfl rfl ?_
                      show Steps p.tables e below (T184.setTop (mkF m 339 #[.val (.long q1), .second, .val (.long q2), .second, .val (.int p3), .val (.int p4), .val (.int p5), .val (.ref b2), .val (.int x100), .val (.int x101), .val (.ref b104), .unset, .unset, .unset] [(.ref b2)])) t
                      refine XS.iload X184.here hx rfl (hb hby at_339) rfl ?_
                      show Steps p.tables e below (T184.setTop (mkF m 341 #[.val (.long q1), .second, .val (.long q2), .second, .val (.int p3), .val (.int p4), .val (.int p5), .val (.ref b2), .val (.int x100), .val (.int x101), .val (.ref b104), .unset, .unset, .unset] [(.int x100), (.ref b2)])) t
                      refine XS.iload X184.here hx rfl (hb hby at_341) rfl ?_
                      show Steps p.tables e below (T184.setTop (mkF m 343 #[.val (.long q1), .second, .val (.long q2), .second, .val (.int p3), .val (.int p4), .val (.int p5), .val (.ref b2), .val (.int x100), .val (.int x101), .val (.ref b104), .unset, .unset, .unset] [(.int x101), (.int x100), (.ref b2)])) t
                      refine XS.bipush X184.here hx rfl (hb hby at_343) ?_
                      exact k)
                    obtain ⟨_, _, ⟨T189, L189, k189, n189⟩, -, X189, ⟨Lc189, hQ189, l189, y189, z189⟩, st189⟩ := Jvm.LawKit.callS X184 hx (y := (⟨"com/example/carrel/carrel/server/marc/MarcRecordDigitsPinLaw", "badAt", "([BIII)Z"⟩ : MethodName)) hown (mvT hZ (hw _ (List.mem_of_getElem? (i := 12) rfl))) (mvT hZ (hw _ (List.mem_of_getElem? (i := 13) rfl))) (mvT hZ (hw _ (List.mem_of_getElem? (i := 3) rfl))) (mvT hZ (hw _ (List.mem_of_getElem? (i := 14) rfl))) (by decide) (backOf (W := 0) (rmBa l Z a0 hw [] b2 x100 x101 (8 : Int32) k2 VB (own_W DB x100 (8 : Int32)) h142 n0 f148 AB (own_fk hf (by decide) (by decide)) (hgB _)) hZ (hw _ (List.mem_of_getElem? (i := 14) rfl)) (hw _ (List.mem_of_getElem? (i := 3) rfl)) (by decide) (by decide)) (g := (mkF m 345 #[.val (.long q1), .second, .val (.long q2), .second, .val (.int p3), .val (.int p4), .val (.int p5), .val (.ref b2), .val (.int x100), .val (.int x101), .val (.ref b104), .unset, .unset, .unset] [(.int (8 : Int32)), (.int x101), (.int x100), (.ref b2)])) rfl (by rw [hml]; rfl) (argsL := [(.ref b2), (.int x100), (.int x101), (.int (8 : Int32))]) (rest := []) (lenOf pd_2 rfl) rfl (by show 2 * 0 + _ ≤ _; exact Nat.le_of_eq rfl) (hb hby at_345) (fun _ _ => ⟨rfl, e184, (by decide : 2 + 0 ≤ _), (by decide : 21 + 0 ≤ _)⟩)
                    dsimp only [Pt.U, Pt.locs, Pt.cells, Pt.slots] at X189 l189 y189 z189 st189 hQ189
                    subst y189 z189
                    obtain ⟨rfl, N189q, e189⟩ := hQ189
                    have N189 : Fr n0 L189 := by rw [l189]; exact Fr.app N184 N189q
                    have P190 : Rch p e below (s₁.setTop (entryFrame m #[(.long q1), (.long q2), (.int p3), (.int p4), (.int p5)] maxLocals)) (T189.setTop (mkF m 348 #[.val (.long q1), .second, .val (.long q2), .second, .val (.int p3), .val (.int p4), .val (.int p5), .val (.ref b2), .val (.int x100), .val (.int x101), .val (.ref b104), .unset, .unset, .unset] [(.int (own_bad x101 (8 : Int32) (own_W DB x100 (8 : Int32))))])) := fun t k => P188 t (st189 t k)
                    obtain ⟨x191, hx191⟩ : ∃ z : Int32, z = (own_bad x101 (8 : Int32) (own_W DB x100 (8 : Int32))) := ⟨_, rfl⟩
                    rw [← hx191] at P190
                    obtain ⟨v193, hv193, P194⟩ : ∃ (v193 : Int32), v193 = (if x191 = (0 : Int32) then (0 : Int32) else (1 : Int32)) ∧ Rch p e below (s₁.setTop (entryFrame m #[(.long q1), (.long q2), (.int p3), (.int p4), (.int p5)] maxLocals)) (T189.setTop (mkF m 356 #[.val (.long q1), .second, .val (.long q2), .second, .val (.int p3), .val (.int p4), .val (.int p5), .val (.ref b2), .val (.int x100), .val (.int x101), .val (.ref b104), .unset, .unset, .unset] [(.int v193)])) := by
                      by_cases c192 : x191 = (0 : Int32)
                      · refine ⟨(0 : Int32), (by first | rfl | rw [if_pos c192] | simp only [if_pos c192]), fun t k => P190 t ?_⟩
                        show Steps p.tables e below (T189.setTop (mkF m 348 #[.val (.long q1), .second, .val (.long q2), .second, .val (.int p3), .val (.int p4), .val (.int p5), .val (.ref b2), .val (.int x100), .val (.int x101), .val (.ref b104), .unset, .unset, .unset] [(.int x191)])) t
                        refine XS.ifYes X189.here hx rfl (pc0 := 348) (pc' := 355) rfl (hb hby at_348) rfl ((if0 _ _).trans (teq c192).1) (by decide) (by decide) ?_
                        show Steps p.tables e below (T189.setTop (mkF m 355 #[.val (.long q1), .second, .val (.long q2), .second, .val (.int p3), .val (.int p4), .val (.int p5), .val (.ref b2), .val (.int x100), .val (.int x101), .val (.ref b104), .unset, .unset, .unset] [])) t
                        refine XS.iconst X189.here hx rfl (hb hby at_355) ?_
                        exact k
                      · refine ⟨(1 : Int32), (by first | rfl | rw [if_neg c192] | simp only [if_neg c192]), fun t k => P190 t ?_⟩
                        show Steps p.tables e below (T189.setTop (mkF m 348 #[.val (.long q1), .second, .val (.long q2), .second, .val (.int p3), .val (.int p4), .val (.int p5), .val (.ref b2), .val (.int x100), .val (.int x101), .val (.ref b104), .unset, .unset, .unset] [(.int x191)])) t
                        refine XS.ifNo X189.here hx rfl (hb hby at_348) rfl ((if0 _ _).trans (feq c192).1) ?_
                        show Steps p.tables e below (T189.setTop (mkF m 351 #[.val (.long q1), .second, .val (.long q2), .second, .val (.int p3), .val (.int p4), .val (.int p5), .val (.ref b2), .val (.int x100), .val (.int x101), .val (.ref b104), .unset, .unset, .unset] [])) t
                        refine XS.iconst X189.here hx rfl (hb hby at_351) ?_
                        show Steps p.tables e below (T189.setTop (mkF m 352 #[.val (.long q1), .second, .val (.long q2), .second, .val (.int p3), .val (.int p4), .val (.int p5), .val (.ref b2), .val (.int x100), .val (.int x101), .val (.ref b104), .unset, .unset, .unset] [(.int (1 : Int32))])) t
                        refine XS.goto X189.here hx rfl (pc0 := 352) (pc' := 356) rfl (hb hby at_352) (by decide) (by decide) ?_
                        exact k
                    exact ⟨T189, _, h142, v193, X189, e189, N189, f148, (Keep.refl h142 []), (by subst hv193 hx191 hx186 hx181 hx176 hx171 hx166 hx161 hx156; first | rfl | rw [if_pos c152, if_pos c157, if_pos c162, if_pos c167, if_pos c172, if_pos c177, if_pos c182, if_pos c187] | simp only [if_pos c152, if_pos c157, if_pos c162, if_pos c167, if_pos c172, if_pos c177, if_pos c182, if_pos c187]), P194⟩
                  · have P195 : Rch p e below (s₁.setTop (entryFrame m #[(.long q1), (.long q2), (.int p3), (.int p4), (.int p5)] maxLocals)) (T184.setTop (mkF m 356 #[.val (.long q1), .second, .val (.long q2), .second, .val (.int p3), .val (.int p4), .val (.int p5), .val (.ref b2), .val (.int x100), .val (.int x101), .val (.ref b104), .unset, .unset, .unset] [(.int (1 : Int32))])) := fun t k => P185 t (by
                      show Steps p.tables e below (T184.setTop (mkF m 334 #[.val (.long q1), .second, .val (.long q2), .second, .val (.int p3), .val (.int p4), .val (.int p5), .val (.ref b2), .val (.int x100), .val (.int x101), .val (.ref b104), .unset, .unset, .unset] [(.int x186)])) t
                      refine XS.ifYes X184.here hx rfl (pc0 := 334) (pc' := 351) rfl (hb hby at_334) rfl ((if0 _ _).trans (feq c187).2) (by decide) (by decide) ?_
                      show Steps p.tables e below (T184.setTop (mkF m 351 #[.val (.long q1), .second, .val (.long q2), .second, .val (.int p3), .val (.int p4), .val (.int p5), .val (.ref b2), .val (.int x100), .val (.int x101), .val (.ref b104), .unset, .unset, .unset] [])) t
                      refine XS.iconst X184.here hx rfl (hb hby at_351) ?_
                      show Steps p.tables e below (T184.setTop (mkF m 352 #[.val (.long q1), .second, .val (.long q2), .second, .val (.int p3), .val (.int p4), .val (.int p5), .val (.ref b2), .val (.int x100), .val (.int x101), .val (.ref b104), .unset, .unset, .unset] [(.int (1 : Int32))])) t
                      refine XS.goto X184.here hx rfl (pc0 := 352) (pc' := 356) rfl (hb hby at_352) (by decide) (by decide) ?_
                      exact k)
                    exact ⟨T184, _, h142, (1 : Int32), X184, e184, N184, f148, (Keep.refl h142 []), (by subst hx186 hx181 hx176 hx171 hx166 hx161 hx156; first | rfl | rw [if_pos c152, if_pos c157, if_pos c162, if_pos c167, if_pos c172, if_pos c177, if_pos c182, if_neg c187] | simp only [if_pos c152, if_pos c157, if_pos c162, if_pos c167, if_pos c172, if_pos c177, if_pos c182, if_neg c187]), P195⟩
                · have P196 : Rch p e below (s₁.setTop (entryFrame m #[(.long q1), (.long q2), (.int p3), (.int p4), (.int p5)] maxLocals)) (T179.setTop (mkF m 356 #[.val (.long q1), .second, .val (.long q2), .second, .val (.int p3), .val (.int p4), .val (.int p5), .val (.ref b2), .val (.int x100), .val (.int x101), .val (.ref b104), .unset, .unset, .unset] [(.int (1 : Int32))])) := fun t k => P180 t (by
                    show Steps p.tables e below (T179.setTop (mkF m 320 #[.val (.long q1), .second, .val (.long q2), .second, .val (.int p3), .val (.int p4), .val (.int p5), .val (.ref b2), .val (.int x100), .val (.int x101), .val (.ref b104), .unset, .unset, .unset] [(.int x181)])) t
                    refine XS.ifYes X179.here hx rfl (pc0 := 320) (pc' := 351) rfl (hb hby at_320) rfl ((if0 _ _).trans (feq c182).2) (by decide) (by decide) ?_
                    show Steps p.tables e below (T179.setTop (mkF m 351 #[.val (.long q1), .second, .val (.long q2), .second, .val (.int p3), .val (.int p4), .val (.int p5), .val (.ref b2), .val (.int x100), .val (.int x101), .val (.ref b104), .unset, .unset, .unset] [])) t
                    refine XS.iconst X179.here hx rfl (hb hby at_351) ?_
                    show Steps p.tables e below (T179.setTop (mkF m 352 #[.val (.long q1), .second, .val (.long q2), .second, .val (.int p3), .val (.int p4), .val (.int p5), .val (.ref b2), .val (.int x100), .val (.int x101), .val (.ref b104), .unset, .unset, .unset] [(.int (1 : Int32))])) t
                    refine XS.goto X179.here hx rfl (pc0 := 352) (pc' := 356) rfl (hb hby at_352) (by decide) (by decide) ?_
                    exact k)
                  exact ⟨T179, _, h142, (1 : Int32), X179, e179, N179, f148, (Keep.refl h142 []), (by subst hx181 hx176 hx171 hx166 hx161 hx156; first | rfl | rw [if_pos c152, if_pos c157, if_pos c162, if_pos c167, if_pos c172, if_pos c177, if_neg c182] | simp only [if_pos c152, if_pos c157, if_pos c162, if_pos c167, if_pos c172, if_pos c177, if_neg c182]), P196⟩
              · have P197 : Rch p e below (s₁.setTop (entryFrame m #[(.long q1), (.long q2), (.int p3), (.int p4), (.int p5)] maxLocals)) (T174.setTop (mkF m 356 #[.val (.long q1), .second, .val (.long q2), .second, .val (.int p3), .val (.int p4), .val (.int p5), .val (.ref b2), .val (.int x100), .val (.int x101), .val (.ref b104), .unset, .unset, .unset] [(.int (1 : Int32))])) := fun t k => P175 t (by
                  show Steps p.tables e below (T174.setTop (mkF m 306 #[.val (.long q1), .second, .val (.long q2), .second, .val (.int p3), .val (.int p4), .val (.int p5), .val (.ref b2), .val (.int x100), .val (.int x101), .val (.ref b104), .unset, .unset, .unset] [(.int x176)])) t
                  refine XS.ifYes X174.here hx rfl (pc0 := 306) (pc' := 351) rfl (hb hby at_306) rfl ((if0 _ _).trans (feq c177).2) (by decide) (by decide) ?_
                  show Steps p.tables e below (T174.setTop (mkF m 351 #[.val (.long q1), .second, .val (.long q2), .second, .val (.int p3), .val (.int p4), .val (.int p5), .val (.ref b2), .val (.int x100), .val (.int x101), .val (.ref b104), .unset, .unset, .unset] [])) t
                  refine XS.iconst X174.here hx rfl (hb hby at_351) ?_
                  show Steps p.tables e below (T174.setTop (mkF m 352 #[.val (.long q1), .second, .val (.long q2), .second, .val (.int p3), .val (.int p4), .val (.int p5), .val (.ref b2), .val (.int x100), .val (.int x101), .val (.ref b104), .unset, .unset, .unset] [(.int (1 : Int32))])) t
                  refine XS.goto X174.here hx rfl (pc0 := 352) (pc' := 356) rfl (hb hby at_352) (by decide) (by decide) ?_
                  exact k)
                exact ⟨T174, _, h142, (1 : Int32), X174, e174, N174, f148, (Keep.refl h142 []), (by subst hx176 hx171 hx166 hx161 hx156; first | rfl | rw [if_pos c152, if_pos c157, if_pos c162, if_pos c167, if_pos c172, if_neg c177] | simp only [if_pos c152, if_pos c157, if_pos c162, if_pos c167, if_pos c172, if_neg c177]), P197⟩
            · have P198 : Rch p e below (s₁.setTop (entryFrame m #[(.long q1), (.long q2), (.int p3), (.int p4), (.int p5)] maxLocals)) (T169.setTop (mkF m 356 #[.val (.long q1), .second, .val (.long q2), .second, .val (.int p3), .val (.int p4), .val (.int p5), .val (.ref b2), .val (.int x100), .val (.int x101), .val (.ref b104), .unset, .unset, .unset] [(.int (1 : Int32))])) := fun t k => P170 t (by
                show Steps p.tables e below (T169.setTop (mkF m 293 #[.val (.long q1), .second, .val (.long q2), .second, .val (.int p3), .val (.int p4), .val (.int p5), .val (.ref b2), .val (.int x100), .val (.int x101), .val (.ref b104), .unset, .unset, .unset] [(.int x171)])) t
                refine XS.ifYes X169.here hx rfl (pc0 := 293) (pc' := 351) rfl (hb hby at_293) rfl ((if0 _ _).trans (feq c172).2) (by decide) (by decide) ?_
                show Steps p.tables e below (T169.setTop (mkF m 351 #[.val (.long q1), .second, .val (.long q2), .second, .val (.int p3), .val (.int p4), .val (.int p5), .val (.ref b2), .val (.int x100), .val (.int x101), .val (.ref b104), .unset, .unset, .unset] [])) t
                refine XS.iconst X169.here hx rfl (hb hby at_351) ?_
                show Steps p.tables e below (T169.setTop (mkF m 352 #[.val (.long q1), .second, .val (.long q2), .second, .val (.int p3), .val (.int p4), .val (.int p5), .val (.ref b2), .val (.int x100), .val (.int x101), .val (.ref b104), .unset, .unset, .unset] [(.int (1 : Int32))])) t
                refine XS.goto X169.here hx rfl (pc0 := 352) (pc' := 356) rfl (hb hby at_352) (by decide) (by decide) ?_
                exact k)
              exact ⟨T169, _, h142, (1 : Int32), X169, e169, N169, f148, (Keep.refl h142 []), (by subst hx171 hx166 hx161 hx156; first | rfl | rw [if_pos c152, if_pos c157, if_pos c162, if_pos c167, if_neg c172] | simp only [if_pos c152, if_pos c157, if_pos c162, if_pos c167, if_neg c172]), P198⟩
          · have P199 : Rch p e below (s₁.setTop (entryFrame m #[(.long q1), (.long q2), (.int p3), (.int p4), (.int p5)] maxLocals)) (T164.setTop (mkF m 356 #[.val (.long q1), .second, .val (.long q2), .second, .val (.int p3), .val (.int p4), .val (.int p5), .val (.ref b2), .val (.int x100), .val (.int x101), .val (.ref b104), .unset, .unset, .unset] [(.int (1 : Int32))])) := fun t k => P165 t (by
              show Steps p.tables e below (T164.setTop (mkF m 280 #[.val (.long q1), .second, .val (.long q2), .second, .val (.int p3), .val (.int p4), .val (.int p5), .val (.ref b2), .val (.int x100), .val (.int x101), .val (.ref b104), .unset, .unset, .unset] [(.int x166)])) t
              refine XS.ifYes X164.here hx rfl (pc0 := 280) (pc' := 351) rfl (hb hby at_280) rfl ((if0 _ _).trans (feq c167).2) (by decide) (by decide) ?_
              show Steps p.tables e below (T164.setTop (mkF m 351 #[.val (.long q1), .second, .val (.long q2), .second, .val (.int p3), .val (.int p4), .val (.int p5), .val (.ref b2), .val (.int x100), .val (.int x101), .val (.ref b104), .unset, .unset, .unset] [])) t
              refine XS.iconst X164.here hx rfl (hb hby at_351) ?_
              show Steps p.tables e below (T164.setTop (mkF m 352 #[.val (.long q1), .second, .val (.long q2), .second, .val (.int p3), .val (.int p4), .val (.int p5), .val (.ref b2), .val (.int x100), .val (.int x101), .val (.ref b104), .unset, .unset, .unset] [(.int (1 : Int32))])) t
              refine XS.goto X164.here hx rfl (pc0 := 352) (pc' := 356) rfl (hb hby at_352) (by decide) (by decide) ?_
              exact k)
            exact ⟨T164, _, h142, (1 : Int32), X164, e164, N164, f148, (Keep.refl h142 []), (by subst hx166 hx161 hx156; first | rfl | rw [if_pos c152, if_pos c157, if_pos c162, if_neg c167] | simp only [if_pos c152, if_pos c157, if_pos c162, if_neg c167]), P199⟩
        · have P200 : Rch p e below (s₁.setTop (entryFrame m #[(.long q1), (.long q2), (.int p3), (.int p4), (.int p5)] maxLocals)) (T159.setTop (mkF m 356 #[.val (.long q1), .second, .val (.long q2), .second, .val (.int p3), .val (.int p4), .val (.int p5), .val (.ref b2), .val (.int x100), .val (.int x101), .val (.ref b104), .unset, .unset, .unset] [(.int (1 : Int32))])) := fun t k => P160 t (by
            show Steps p.tables e below (T159.setTop (mkF m 267 #[.val (.long q1), .second, .val (.long q2), .second, .val (.int p3), .val (.int p4), .val (.int p5), .val (.ref b2), .val (.int x100), .val (.int x101), .val (.ref b104), .unset, .unset, .unset] [(.int x161)])) t
            refine XS.ifYes X159.here hx rfl (pc0 := 267) (pc' := 351) rfl (hb hby at_267) rfl ((if0 _ _).trans (feq c162).2) (by decide) (by decide) ?_
            show Steps p.tables e below (T159.setTop (mkF m 351 #[.val (.long q1), .second, .val (.long q2), .second, .val (.int p3), .val (.int p4), .val (.int p5), .val (.ref b2), .val (.int x100), .val (.int x101), .val (.ref b104), .unset, .unset, .unset] [])) t
            refine XS.iconst X159.here hx rfl (hb hby at_351) ?_
            show Steps p.tables e below (T159.setTop (mkF m 352 #[.val (.long q1), .second, .val (.long q2), .second, .val (.int p3), .val (.int p4), .val (.int p5), .val (.ref b2), .val (.int x100), .val (.int x101), .val (.ref b104), .unset, .unset, .unset] [(.int (1 : Int32))])) t
            refine XS.goto X159.here hx rfl (pc0 := 352) (pc' := 356) rfl (hb hby at_352) (by decide) (by decide) ?_
            exact k)
          exact ⟨T159, _, h142, (1 : Int32), X159, e159, N159, f148, (Keep.refl h142 []), (by subst hx161 hx156; first | rfl | rw [if_pos c152, if_pos c157, if_neg c162] | simp only [if_pos c152, if_pos c157, if_neg c162]), P200⟩
      · have P201 : Rch p e below (s₁.setTop (entryFrame m #[(.long q1), (.long q2), (.int p3), (.int p4), (.int p5)] maxLocals)) (T154.setTop (mkF m 356 #[.val (.long q1), .second, .val (.long q2), .second, .val (.int p3), .val (.int p4), .val (.int p5), .val (.ref b2), .val (.int x100), .val (.int x101), .val (.ref b104), .unset, .unset, .unset] [(.int (1 : Int32))])) := fun t k => P155 t (by
          show Steps p.tables e below (T154.setTop (mkF m 254 #[.val (.long q1), .second, .val (.long q2), .second, .val (.int p3), .val (.int p4), .val (.int p5), .val (.ref b2), .val (.int x100), .val (.int x101), .val (.ref b104), .unset, .unset, .unset] [(.int x156)])) t
          refine XS.ifYes X154.here hx rfl (pc0 := 254) (pc' := 351) rfl (hb hby at_254) rfl ((if0 _ _).trans (feq c157).2) (by decide) (by decide) ?_
          show Steps p.tables e below (T154.setTop (mkF m 351 #[.val (.long q1), .second, .val (.long q2), .second, .val (.int p3), .val (.int p4), .val (.int p5), .val (.ref b2), .val (.int x100), .val (.int x101), .val (.ref b104), .unset, .unset, .unset] [])) t
          refine XS.iconst X154.here hx rfl (hb hby at_351) ?_
          show Steps p.tables e below (T154.setTop (mkF m 352 #[.val (.long q1), .second, .val (.long q2), .second, .val (.int p3), .val (.int p4), .val (.int p5), .val (.ref b2), .val (.int x100), .val (.int x101), .val (.ref b104), .unset, .unset, .unset] [(.int (1 : Int32))])) t
          refine XS.goto X154.here hx rfl (pc0 := 352) (pc' := 356) rfl (hb hby at_352) (by decide) (by decide) ?_
          exact k)
        exact ⟨T154, _, h142, (1 : Int32), X154, e154, N154, f148, (Keep.refl h142 []), (by subst hx156; first | rfl | rw [if_pos c152, if_neg c157] | simp only [if_pos c152, if_neg c157]), P201⟩
    · have P202 : Rch p e below (s₁.setTop (entryFrame m #[(.long q1), (.long q2), (.int p3), (.int p4), (.int p5)] maxLocals)) (T147.setTop (mkF m 356 #[.val (.long q1), .second, .val (.long q2), .second, .val (.int p3), .val (.int p4), .val (.int p5), .val (.ref b2), .val (.int x100), .val (.int x101), .val (.ref b104), .unset, .unset, .unset] [(.int (1 : Int32))])) := fun t k => P149 t (by
        show Steps p.tables e below (T147.setTop (mkF m 241 #[.val (.long q1), .second, .val (.long q2), .second, .val (.int p3), .val (.int p4), .val (.int p5), .val (.ref b2), .val (.int x100), .val (.int x101), .val (.ref b104), .unset, .unset, .unset] [(.int x150)])) t
        refine XS.ifYes X147.here hx rfl (pc0 := 241) (pc' := 351) rfl (hb hby at_241) rfl ((if0 _ _).trans (feq c152).2) (by decide) (by decide) ?_
        show Steps p.tables e below (T147.setTop (mkF m 351 #[.val (.long q1), .second, .val (.long q2), .second, .val (.int p3), .val (.int p4), .val (.int p5), .val (.ref b2), .val (.int x100), .val (.int x101), .val (.ref b104), .unset, .unset, .unset] [])) t
        refine XS.iconst X147.here hx rfl (hb hby at_351) ?_
        show Steps p.tables e below (T147.setTop (mkF m 352 #[.val (.long q1), .second, .val (.long q2), .second, .val (.int p3), .val (.int p4), .val (.int p5), .val (.ref b2), .val (.int x100), .val (.int x101), .val (.ref b104), .unset, .unset, .unset] [(.int (1 : Int32))])) t
        refine XS.goto X147.here hx rfl (pc0 := 352) (pc' := 356) rfl (hb hby at_352) (by decide) (by decide) ?_
        exact k)
      exact ⟨T147, _, h142, (1 : Int32), X147, e147, N147, f148, (Keep.refl h142 []), (by first | rfl | rw [if_neg c152] | simp only [if_neg c152]), P202⟩
  have P204 : Rch p e below (s₁.setTop (entryFrame m #[(.long q1), (.long q2), (.int p3), (.int p4), (.int p5)] maxLocals)) (T151.setTop (mkF m 360 #[.val (.long q1), .second, .val (.long q2), .second, .val (.int p3), .val (.int p4), .val (.int p5), .val (.ref b2), .val (.int x100), .val (.int x101), .val (.ref b104), .val (.int v203), .unset, .unset] [(.int v203)])) := fun t k => P151 t (by
    show Steps p.tables e below (T151.setTop (mkF m 356 #[.val (.long q1), .second, .val (.long q2), .second, .val (.int p3), .val (.int p4), .val (.int p5), .val (.ref b2), .val (.int x100), .val (.int x101), .val (.ref b104), .unset, .unset, .unset] [(.int v203)])) t
    refine XS.istore X151.here hx rfl (hb hby at_356) rfl (l' := #[.val (.long q1), .second, .val (.long q2), .second, .val (.int p3), .val (.int p4), .val (.int p5), .val (.ref b2), .val (.int x100), .val (.int x101), .val (.ref b104), .val (.int v203), .unset, .unset]) rfl ?_
    show Steps p.tables e below (T151.setTop (mkF m 358 #[.val (.long q1), .second, .val (.long q2), .second, .val (.int p3), .val (.int p4), .val (.int p5), .val (.ref b2), .val (.int x100), .val (.int x101), .val (.ref b104), .val (.int v203), .unset, .unset] [])) t
    refine XS.iload X151.here hx rfl (hb hby at_358) rfl ?_
    exact k)
  obtain ⟨T205, L205, h205, v253, X205, e205, N205, Z205, K205, hv253, P205⟩ : ∃ (T205 : State) (L205 : List Loc) (h205 : Heap) (v253 : Int32), Stand p l e room_1 s m #[(.long q1), (.long q2), (.int p3), (.int p4), (.int p5)] below meth c T205 L205 2 21 ∧ T205.heap = h205 ∧ Fr n0 L205 ∧ n0 ≤ h205.size ∧ Keep h151 h205 [] ∧ v253 = (if v203 = (0 : Int32) then (((((((((own_term x101 (0 : Int32) (own_W DB x100 (0 : Int32)) (own_pw x101 (0 : Int32))) + (own_term x101 (1 : Int32) (own_W DB x100 (1 : Int32)) (own_pw x101 (1 : Int32)))) + (own_term x101 (2 : Int32) (own_W DB x100 (2 : Int32)) (own_pw x101 (2 : Int32)))) + (own_term x101 (3 : Int32) (own_W DB x100 (3 : Int32)) (own_pw x101 (3 : Int32)))) + (own_term x101 (4 : Int32) (own_W DB x100 (4 : Int32)) (own_pw x101 (4 : Int32)))) + (own_term x101 (5 : Int32) (own_W DB x100 (5 : Int32)) (own_pw x101 (5 : Int32)))) + (own_term x101 (6 : Int32) (own_W DB x100 (6 : Int32)) (own_pw x101 (6 : Int32)))) + (own_term x101 (7 : Int32) (own_W DB x100 (7 : Int32)) (own_pw x101 (7 : Int32)))) + (own_term x101 (8 : Int32) (own_W DB x100 (8 : Int32)) (own_pw x101 (8 : Int32)))) else (-1 : Int32)) ∧ Rch p e below (s₁.setTop (entryFrame m #[(.long q1), (.long q2), (.int p3), (.int p4), (.int p5)] maxLocals)) (T205.setTop (mkF m 490 #[.val (.long q1), .second, .val (.long q2), .second, .val (.int p3), .val (.int p4), .val (.int p5), .val (.ref b2), .val (.int x100), .val (.int x101), .val (.ref b104), .val (.int v203), .val (.int v253), .unset] [])) := by
    by_cases c206 : v203 = (0 : Int32)
    · have P207 : Rch p e below (s₁.setTop (entryFrame m #[(.long q1), (.long q2), (.int p3), (.int p4), (.int p5)] maxLocals)) (T151.setTop (mkF m 378 #[.val (.long q1), .second, .val (.long q2), .second, .val (.int p3), .val (.int p4), .val (.int p5), .val (.ref b2), .val (.int x100), .val (.int x101), .val (.ref b104), .val (.int v203), .unset, .unset] [(.ref b104), (.int (0 : Int32)), (.int x101), (.int x100), (.ref b2)])) := fun t k => P204 t (by
        show Steps p.tables e below (T151.setTop (mkF m 360 #[.val (.long q1), .second, .val (.long q2), .second, .val (.int p3), .val (.int p4), .val (.int p5), .val (.ref b2), .val (.int x100), .val (.int x101), .val (.ref b104), .val (.int v203), .unset, .unset] [(.int v203)])) t
        refine XS.ifYes X151.here hx rfl (pc0 := 360) (pc' := 369) rfl (hb hby at_360) rfl ((if0 _ _).trans (teq c206).1) (by decide) (by decide) ?_
        show Steps p.tables e below (T151.setTop (mkF m 369 #[.val (.long q1), .second, .val (.long q2), .second, .val (.int p3), .val (.int p4), .val (.int p5), .val (.ref b2), .val (.int x100), .val (.int x101), .val (.ref b104), .val (.int v203), .unset, .unset] [])) t
        refine XS.aload X151.here hx rfl (hb hby at_369) rfl rfl ?_
        show Steps p.tables e below (T151.setTop (mkF m 371 #[.val (.long q1), .second, .val (.long q2), .second, .val (.int p3), .val (.int p4), .val (.int p5), .val (.ref b2), .val (.int x100), .val (.int x101), .val (.ref b104), .val (.int v203), .unset, .unset] [(.ref b2)])) t
        refine XS.iload X151.here hx rfl (hb hby at_371) rfl ?_
        show Steps p.tables e below (T151.setTop (mkF m 373 #[.val (.long q1), .second, .val (.long q2), .second, .val (.int p3), .val (.int p4), .val (.int p5), .val (.ref b2), .val (.int x100), .val (.int x101), .val (.ref b104), .val (.int v203), .unset, .unset] [(.int x100), (.ref b2)])) t
        refine XS.iload X151.here hx rfl (hb hby at_373) rfl ?_
        show Steps p.tables e below (T151.setTop (mkF m 375 #[.val (.long q1), .second, .val (.long q2), .second, .val (.int p3), .val (.int p4), .val (.int p5), .val (.ref b2), .val (.int x100), .val (.int x101), .val (.ref b104), .val (.int v203), .unset, .unset] [(.int x101), (.int x100), (.ref b2)])) t
        refine XS.iconst X151.here hx rfl (hb hby at_375) ?_
        show Steps p.tables e below (T151.setTop (mkF m 376 #[.val (.long q1), .second, .val (.long q2), .second, .val (.int p3), .val (.int p4), .val (.int p5), .val (.ref b2), .val (.int x100), .val (.int x101), .val (.ref b104), .val (.int v203), .unset, .unset] [(.int (0 : Int32)), (.int x101), (.int x100), (.ref b2)])) t
        refine XS.aload X151.here hx rfl (hb hby at_376) rfl rfl ?_
        exact k)
      obtain ⟨_, _, ⟨T208, L208, k208, n208⟩, -, X208, ⟨Lc208, hQ208, l208, y208, z208⟩, st208⟩ := Jvm.LawKit.callS X151 hx (y := (⟨"com/example/carrel/carrel/server/marc/MarcRecordDigitsPinLaw", "term", "([BIII[I)I"⟩ : MethodName)) hown (mvT hZ (hw _ (List.mem_of_getElem? (i := 15) rfl))) (mvT hZ (hw _ (List.mem_of_getElem? (i := 16) rfl))) (mvT hZ (hw _ (List.mem_of_getElem? (i := 3) rfl))) (mvT hZ (hw _ (List.mem_of_getElem? (i := 17) rfl))) (by decide) (backOf (W := 0) (rmTe l Z a0 hw [] b2 x100 x101 (0 : Int32) b104 k2 VB (own_W DB x100 (0 : Int32)) k104 VP (own_pw x101 (0 : Int32)) h151 n0 Z151 (AB.keep K151 nin0) (AP.keep K151 nin0) (own_fk hf (by decide) (by decide)) (hgB _) (fun h_ => ⟨own_pk hcn (by decide) h_, hgP _⟩)) hZ (hw _ (List.mem_of_getElem? (i := 17) rfl)) (hw _ (List.mem_of_getElem? (i := 3) rfl)) (by decide) (by decide)) (g := (mkF m 378 #[.val (.long q1), .second, .val (.long q2), .second, .val (.int p3), .val (.int p4), .val (.int p5), .val (.ref b2), .val (.int x100), .val (.int x101), .val (.ref b104), .val (.int v203), .unset, .unset] [(.ref b104), (.int (0 : Int32)), (.int x101), (.int x100), (.ref b2)])) rfl (by rw [hml]; rfl) (argsL := [(.ref b2), (.int x100), (.int x101), (.int (0 : Int32)), (.ref b104)]) (rest := []) (lenOf pd_3 rfl) rfl (by show 2 * 0 + _ ≤ _; exact Nat.le_of_eq rfl) (hb hby at_378) (fun _ _ => ⟨rfl, e151, (by decide : 2 + 0 ≤ _), (by decide : 21 + 0 ≤ _)⟩)
      dsimp only [Pt.U, Pt.locs, Pt.cells, Pt.slots] at X208 l208 y208 z208 st208 hQ208
      subst y208 z208
      obtain ⟨rfl, N208q, e208⟩ := hQ208
      have N208 : Fr n0 L208 := by rw [l208]; exact Fr.app N151 N208q
      have P209 : Rch p e below (s₁.setTop (entryFrame m #[(.long q1), (.long q2), (.int p3), (.int p4), (.int p5)] maxLocals)) (T208.setTop (mkF m 381 #[.val (.long q1), .second, .val (.long q2), .second, .val (.int p3), .val (.int p4), .val (.int p5), .val (.ref b2), .val (.int x100), .val (.int x101), .val (.ref b104), .val (.int v203), .unset, .unset] [(.int (own_term x101 (0 : Int32) (own_W DB x100 (0 : Int32)) (own_pw x101 (0 : Int32))))])) := fun t k => P207 t (st208 t k)
      obtain ⟨x210, hx210⟩ : ∃ z : Int32, z = (own_term x101 (0 : Int32) (own_W DB x100 (0 : Int32)) (own_pw x101 (0 : Int32))) := ⟨_, rfl⟩
      rw [← hx210] at P209
      have P211 : Rch p e below (s₁.setTop (entryFrame m #[(.long q1), (.long q2), (.int p3), (.int p4), (.int p5)] maxLocals)) (T208.setTop (mkF m 390 #[.val (.long q1), .second, .val (.long q2), .second, .val (.int p3), .val (.int p4), .val (.int p5), .val (.ref b2), .val (.int x100), .val (.int x101), .val (.ref b104), .val (.int v203), .unset, .unset] [(.ref b104), (.int (1 : Int32)), (.int x101), (.int x100), (.ref b2), (.int x210)])) := fun t k => P209 t (by
        show Steps p.tables e below (T208.setTop (mkF m 381 #[.val (.long q1), .second, .val (.long q2), .second, .val (.int p3), .val (.int p4), .val (.int p5), .val (.ref b2), .val (.int x100), .val (.int x101), .val (.ref b104), .val (.int v203), .unset, .unset] [(.int x210)])) t
        refine XS.aload X208.here hx rfl (hb hby at_381) rfl rfl ?_
        show Steps p.tables e below (T208.setTop (mkF m 383 #[.val (.long q1), .second, .val (.long q2), .second, .val (.int p3), .val (.int p4), .val (.int p5), .val (.ref b2), .val (.int x100), .val (.int x101), .val (.ref b104), .val (.int v203), .unset, .unset] [(.ref b2), (.int x210)])) t
        refine XS.iload X208.here hx rfl (hb hby at_383) rfl ?_
        show Steps p.tables e below (T208.setTop (mkF m 385 #[.val (.long q1), .second, .val (.long q2), .second, .val (.int p3), .val (.int p4), .val (.int p5), .val (.ref b2), .val (.int x100), .val (.int x101), .val (.ref b104), .val (.int v203), .unset, .unset] [(.int x100), (.ref b2), (.int x210)])) t
        refine XS.iload X208.here hx rfl (hb hby at_385) rfl ?_
        show Steps p.tables e below (T208.setTop (mkF m 387 #[.val (.long q1), .second, .val (.long q2), .second, .val (.int p3), .val (.int p4), .val (.int p5), .val (.ref b2), .val (.int x100), .val (.int x101), .val (.ref b104), .val (.int v203), .unset, .unset] [(.int x101), (.int x100), (.ref b2), (.int x210)])) t
        refine XS.iconst X208.here hx rfl (hb hby at_387) ?_
        show Steps p.tables e below (T208.setTop (mkF m 388 #[.val (.long q1), .second, .val (.long q2), .second, .val (.int p3), .val (.int p4), .val (.int p5), .val (.ref b2), .val (.int x100), .val (.int x101), .val (.ref b104), .val (.int v203), .unset, .unset] [(.int (1 : Int32)), (.int x101), (.int x100), (.ref b2), (.int x210)])) t
        refine XS.aload X208.here hx rfl (hb hby at_388) rfl rfl ?_
        exact k)
      obtain ⟨_, _, ⟨T212, L212, k212, n212⟩, -, X212, ⟨Lc212, hQ212, l212, y212, z212⟩, st212⟩ := Jvm.LawKit.callS X208 hx (y := (⟨"com/example/carrel/carrel/server/marc/MarcRecordDigitsPinLaw", "term", "([BIII[I)I"⟩ : MethodName)) hown (mvT hZ (hw _ (List.mem_of_getElem? (i := 15) rfl))) (mvT hZ (hw _ (List.mem_of_getElem? (i := 16) rfl))) (mvT hZ (hw _ (List.mem_of_getElem? (i := 3) rfl))) (mvT hZ (hw _ (List.mem_of_getElem? (i := 17) rfl))) (by decide) (backOf (W := 1) (rmTe l Z a0 hw [] b2 x100 x101 (1 : Int32) b104 k2 VB (own_W DB x100 (1 : Int32)) k104 VP (own_pw x101 (1 : Int32)) h151 n0 Z151 (AB.keep K151 nin0) (AP.keep K151 nin0) (own_fk hf (by decide) (by decide)) (hgB _) (fun h_ => ⟨own_pk hcn (by decide) h_, hgP _⟩)) hZ (hw _ (List.mem_of_getElem? (i := 17) rfl)) (hw _ (List.mem_of_getElem? (i := 3) rfl)) (by decide) (by decide)) (g := (mkF m 390 #[.val (.long q1), .second, .val (.long q2), .second, .val (.int p3), .val (.int p4), .val (.int p5), .val (.ref b2), .val (.int x100), .val (.int x101), .val (.ref b104), .val (.int v203), .unset, .unset] [(.ref b104), (.int (1 : Int32)), (.int x101), (.int x100), (.ref b2), (.int x210)])) rfl (by rw [hml]; rfl) (argsL := [(.ref b2), (.int x100), (.int x101), (.int (1 : Int32)), (.ref b104)]) (rest := [(.int x210)]) (lenOf pd_3 rfl) rfl (by show 2 * 0 + _ ≤ _; exact Nat.le_of_eq rfl) (hb hby at_390) (fun _ _ => ⟨rfl, e208, (by decide : 2 + 0 ≤ _), (by decide : 21 + 0 ≤ _)⟩)
      dsimp only [Pt.U, Pt.locs, Pt.cells, Pt.slots] at X212 l212 y212 z212 st212 hQ212
      subst y212 z212
      obtain ⟨rfl, N212q, e212⟩ := hQ212
      have N212 : Fr n0 L212 := by rw [l212]; exact Fr.app N208 N212q
      have P213 : Rch p e below (s₁.setTop (entryFrame m #[(.long q1), (.long q2), (.int p3), (.int p4), (.int p5)] maxLocals)) (T212.setTop (mkF m 393 #[.val (.long q1), .second, .val (.long q2), .second, .val (.int p3), .val (.int p4), .val (.int p5), .val (.ref b2), .val (.int x100), .val (.int x101), .val (.ref b104), .val (.int v203), .unset, .unset] [(.int (own_term x101 (1 : Int32) (own_W DB x100 (1 : Int32)) (own_pw x101 (1 : Int32)))), (.int x210)])) := fun t k => P211 t (st212 t k)
      obtain ⟨x214, hx214⟩ : ∃ z : Int32, z = (own_term x101 (1 : Int32) (own_W DB x100 (1 : Int32)) (own_pw x101 (1 : Int32))) := ⟨_, rfl⟩
      rw [← hx214] at P213
      obtain ⟨x215, hx215⟩ : ∃ z : Int32, z = (x210 + x214) := ⟨_, rfl⟩
      have P216 : Rch p e below (s₁.setTop (entryFrame m #[(.long q1), (.long q2), (.int p3), (.int p4), (.int p5)] maxLocals)) (T212.setTop (mkF m 403 #[.val (.long q1), .second, .val (.long q2), .second, .val (.int p3), .val (.int p4), .val (.int p5), .val (.ref b2), .val (.int x100), .val (.int x101), .val (.ref b104), .val (.int v203), .unset, .unset] [(.ref b104), (.int (2 : Int32)), (.int x101), (.int x100), (.ref b2), (.int x215)])) := fun t k => P213 t (by
        subst hx215
        show Steps p.tables e below (T212.setTop (mkF m 393 #[.val (.long q1), .second, .val (.long q2), .second, .val (.int p3), .val (.int p4), .val (.int p5), .val (.ref b2), .val (.int x100), .val (.int x101), .val (.ref b104), .val (.int v203), .unset, .unset] [(.int x214), (.int x210)])) t
        refine XS.iadd X212.here hx rfl (hb hby at_393) rfl ?_
        show Steps p.tables e below (T212.setTop (mkF m 394 #[.val (.long q1), .second, .val (.long q2), .second, .val (.int p3), .val (.int p4), .val (.int p5), .val (.ref b2), .val (.int x100), .val (.int x101), .val (.ref b104), .val (.int v203), .unset, .unset] [(.int (x210 + x214))])) t
        refine XS.aload X212.here hx rfl (hb hby at_394) rfl rfl ?_
        show Steps p.tables e below (T212.setTop (mkF m 396 #[.val (.long q1), .second, .val (.long q2), .second, .val (.int p3), .val (.int p4), .val (.int p5), .val (.ref b2), .val (.int x100), .val (.int x101), .val (.ref b104), .val (.int v203), .unset, .unset] [(.ref b2), (.int (x210 + x214))])) t
        refine XS.iload X212.here hx rfl (hb hby at_396) rfl ?_
        show Steps p.tables e below (T212.setTop (mkF m 398 #[.val (.long q1), .second, .val (.long q2), .second, .val (.int p3), .val (.int p4), .val (.int p5), .val (.ref b2), .val (.int x100), .val (.int x101), .val (.ref b104), .val (.int v203), .unset, .unset] [(.int x100), (.ref b2), (.int (x210 + x214))])) t
        refine XS.iload X212.here hx rfl (hb hby at_398) rfl ?_
        show Steps p.tables e below (T212.setTop (mkF m 400 #[.val (.long q1), .second, .val (.long q2), .second, .val (.int p3), .val (.int p4), .val (.int p5), .val (.ref b2), .val (.int x100), .val (.int x101), .val (.ref b104), .val (.int v203), .unset, .unset] [(.int x101), (.int x100), (.ref b2), (.int (x210 + x214))])) t
        refine XS.iconst X212.here hx rfl (hb hby at_400) ?_
        show Steps p.tables e below (T212.setTop (mkF m 401 #[.val (.long q1), .second, .val (.long q2), .second, .val (.int p3), .val (.int p4), .val (.int p5), .val (.ref b2), .val (.int x100), .val (.int x101), .val (.ref b104), .val (.int v203), .unset, .unset] [(.int (2 : Int32)), (.int x101), (.int x100), (.ref b2), (.int (x210 + x214))])) t
        refine XS.aload X212.here hx rfl (hb hby at_401) rfl rfl ?_
        exact k)
      obtain ⟨_, _, ⟨T217, L217, k217, n217⟩, -, X217, ⟨Lc217, hQ217, l217, y217, z217⟩, st217⟩ := Jvm.LawKit.callS X212 hx (y := (⟨"com/example/carrel/carrel/server/marc/MarcRecordDigitsPinLaw", "term", "([BIII[I)I"⟩ : MethodName)) hown (mvT hZ (hw _ (List.mem_of_getElem? (i := 15) rfl))) (mvT hZ (hw _ (List.mem_of_getElem? (i := 16) rfl))) (mvT hZ (hw _ (List.mem_of_getElem? (i := 3) rfl))) (mvT hZ (hw _ (List.mem_of_getElem? (i := 17) rfl))) (by decide) (backOf (W := 1) (rmTe l Z a0 hw [] b2 x100 x101 (2 : Int32) b104 k2 VB (own_W DB x100 (2 : Int32)) k104 VP (own_pw x101 (2 : Int32)) h151 n0 Z151 (AB.keep K151 nin0) (AP.keep K151 nin0) (own_fk hf (by decide) (by decide)) (hgB _) (fun h_ => ⟨own_pk hcn (by decide) h_, hgP _⟩)) hZ (hw _ (List.mem_of_getElem? (i := 17) rfl)) (hw _ (List.mem_of_getElem? (i := 3) rfl)) (by decide) (by decide)) (g := (mkF m 403 #[.val (.long q1), .second, .val (.long q2), .second, .val (.int p3), .val (.int p4), .val (.int p5), .val (.ref b2), .val (.int x100), .val (.int x101), .val (.ref b104), .val (.int v203), .unset, .unset] [(.ref b104), (.int (2 : Int32)), (.int x101), (.int x100), (.ref b2), (.int x215)])) rfl (by rw [hml]; rfl) (argsL := [(.ref b2), (.int x100), (.int x101), (.int (2 : Int32)), (.ref b104)]) (rest := [(.int x215)]) (lenOf pd_3 rfl) rfl (by show 2 * 0 + _ ≤ _; exact Nat.le_of_eq rfl) (hb hby at_403) (fun _ _ => ⟨rfl, e212, (by decide : 2 + 0 ≤ _), (by decide : 21 + 0 ≤ _)⟩)
      dsimp only [Pt.U, Pt.locs, Pt.cells, Pt.slots] at X217 l217 y217 z217 st217 hQ217
      subst y217 z217
      obtain ⟨rfl, N217q, e217⟩ := hQ217
      have N217 : Fr n0 L217 := by rw [l217]; exact Fr.app N212 N217q
      have P218 : Rch p e below (s₁.setTop (entryFrame m #[(.long q1), (.long q2), (.int p3), (.int p4), (.int p5)] maxLocals)) (T217.setTop (mkF m 406 #[.val (.long q1), .second, .val (.long q2), .second, .val (.int p3), .val (.int p4), .val (.int p5), .val (.ref b2), .val (.int x100), .val (.int x101), .val (.ref b104), .val (.int v203), .unset, .unset] [(.int (own_term x101 (2 : Int32) (own_W DB x100 (2 : Int32)) (own_pw x101 (2 : Int32)))), (.int x215)])) := fun t k => P216 t (st217 t k)
      obtain ⟨x219, hx219⟩ : ∃ z : Int32, z = (own_term x101 (2 : Int32) (own_W DB x100 (2 : Int32)) (own_pw x101 (2 : Int32))) := ⟨_, rfl⟩
      rw [← hx219] at P218
      obtain ⟨x220, hx220⟩ : ∃ z : Int32, z = (x215 + x219) := ⟨_, rfl⟩
      have P221 : Rch p e below (s₁.setTop (entryFrame m #[(.long q1), (.long q2), (.int p3), (.int p4), (.int p5)] maxLocals)) (T217.setTop (mkF m 416 #[.val (.long q1), .second, .val (.long q2), .second, .val (.int p3), .val (.int p4), .val (.int p5), .val (.ref b2), .val (.int x100), .val (.int x101), .val (.ref b104), .val (.int v203), .unset, .unset] [(.ref b104), (.int (3 : Int32)), (.int x101), (.int x100), (.ref b2), (.int x220)])) := fun t k => P218 t (by
        subst hx220
        show Steps p.tables e below (T217.setTop (mkF m 406 #[.val (.long q1), .second, .val (.long q2), .second, .val (.int p3), .val (.int p4), .val (.int p5), .val (.ref b2), .val (.int x100), .val (.int x101), .val (.ref b104), .val (.int v203), .unset, .unset] [(.int x219), (.int x215)])) t
        refine XS.iadd X217.here hx rfl (hb hby at_406) rfl ?_
        show Steps p.tables e below (T217.setTop (mkF m 407 #[.val (.long q1), .second, .val (.long q2), .second, .val (.int p3), .val (.int p4), .val (.int p5), .val (.ref b2), .val (.int x100), .val (.int x101), .val (.ref b104), .val (.int v203), .unset, .unset] [(.int (x215 + x219))])) t
        refine XS.aload X217.here hx rfl (hb hby at_407) rfl rfl ?_
        show Steps p.tables e below (T217.setTop (mkF m 409 #[.val (.long q1), .second, .val (.long q2), .second, .val (.int p3), .val (.int p4), .val (.int p5), .val (.ref b2), .val (.int x100), .val (.int x101), .val (.ref b104), .val (.int v203), .unset, .unset] [(.ref b2), (.int (x215 + x219))])) t
        refine XS.iload X217.here hx rfl (hb hby at_409) rfl ?_
        show Steps p.tables e below (T217.setTop (mkF m 411 #[.val (.long q1), .second, .val (.long q2), .second, .val (.int p3), .val (.int p4), .val (.int p5), .val (.ref b2), .val (.int x100), .val (.int x101), .val (.ref b104), .val (.int v203), .unset, .unset] [(.int x100), (.ref b2), (.int (x215 + x219))])) t
        refine XS.iload X217.here hx rfl (hb hby at_411) rfl ?_
        show Steps p.tables e below (T217.setTop (mkF m 413 #[.val (.long q1), .second, .val (.long q2), .second, .val (.int p3), .val (.int p4), .val (.int p5), .val (.ref b2), .val (.int x100), .val (.int x101), .val (.ref b104), .val (.int v203), .unset, .unset] [(.int x101), (.int x100), (.ref b2), (.int (x215 + x219))])) t
        refine XS.iconst X217.here hx rfl (hb hby at_413) ?_
        show Steps p.tables e below (T217.setTop (mkF m 414 #[.val (.long q1), .second, .val (.long q2), .second, .val (.int p3), .val (.int p4), .val (.int p5), .val (.ref b2), .val (.int x100), .val (.int x101), .val (.ref b104), .val (.int v203), .unset, .unset] [(.int (3 : Int32)), (.int x101), (.int x100), (.ref b2), (.int (x215 + x219))])) t
        refine XS.aload X217.here hx rfl (hb hby at_414) rfl rfl ?_
        exact k)
      obtain ⟨_, _, ⟨T222, L222, k222, n222⟩, -, X222, ⟨Lc222, hQ222, l222, y222, z222⟩, st222⟩ := Jvm.LawKit.callS X217 hx (y := (⟨"com/example/carrel/carrel/server/marc/MarcRecordDigitsPinLaw", "term", "([BIII[I)I"⟩ : MethodName)) hown (mvT hZ (hw _ (List.mem_of_getElem? (i := 15) rfl))) (mvT hZ (hw _ (List.mem_of_getElem? (i := 16) rfl))) (mvT hZ (hw _ (List.mem_of_getElem? (i := 3) rfl))) (mvT hZ (hw _ (List.mem_of_getElem? (i := 17) rfl))) (by decide) (backOf (W := 1) (rmTe l Z a0 hw [] b2 x100 x101 (3 : Int32) b104 k2 VB (own_W DB x100 (3 : Int32)) k104 VP (own_pw x101 (3 : Int32)) h151 n0 Z151 (AB.keep K151 nin0) (AP.keep K151 nin0) (own_fk hf (by decide) (by decide)) (hgB _) (fun h_ => ⟨own_pk hcn (by decide) h_, hgP _⟩)) hZ (hw _ (List.mem_of_getElem? (i := 17) rfl)) (hw _ (List.mem_of_getElem? (i := 3) rfl)) (by decide) (by decide)) (g := (mkF m 416 #[.val (.long q1), .second, .val (.long q2), .second, .val (.int p3), .val (.int p4), .val (.int p5), .val (.ref b2), .val (.int x100), .val (.int x101), .val (.ref b104), .val (.int v203), .unset, .unset] [(.ref b104), (.int (3 : Int32)), (.int x101), (.int x100), (.ref b2), (.int x220)])) rfl (by rw [hml]; rfl) (argsL := [(.ref b2), (.int x100), (.int x101), (.int (3 : Int32)), (.ref b104)]) (rest := [(.int x220)]) (lenOf pd_3 rfl) rfl (by show 2 * 0 + _ ≤ _; exact Nat.le_of_eq rfl) (hb hby at_416) (fun _ _ => ⟨rfl, e217, (by decide : 2 + 0 ≤ _), (by decide : 21 + 0 ≤ _)⟩)
      dsimp only [Pt.U, Pt.locs, Pt.cells, Pt.slots] at X222 l222 y222 z222 st222 hQ222
      subst y222 z222
      obtain ⟨rfl, N222q, e222⟩ := hQ222
      have N222 : Fr n0 L222 := by rw [l222]; exact Fr.app N217 N222q
      have P223 : Rch p e below (s₁.setTop (entryFrame m #[(.long q1), (.long q2), (.int p3), (.int p4), (.int p5)] maxLocals)) (T222.setTop (mkF m 419 #[.val (.long q1), .second, .val (.long q2), .second, .val (.int p3), .val (.int p4), .val (.int p5), .val (.ref b2), .val (.int x100), .val (.int x101), .val (.ref b104), .val (.int v203), .unset, .unset] [(.int (own_term x101 (3 : Int32) (own_W DB x100 (3 : Int32)) (own_pw x101 (3 : Int32)))), (.int x220)])) := fun t k => P221 t (st222 t k)
      obtain ⟨x224, hx224⟩ : ∃ z : Int32, z = (own_term x101 (3 : Int32) (own_W DB x100 (3 : Int32)) (own_pw x101 (3 : Int32))) := ⟨_, rfl⟩
      rw [← hx224] at P223
      obtain ⟨x225, hx225⟩ : ∃ z : Int32, z = (x220 + x224) := ⟨_, rfl⟩
      have P226 : Rch p e below (s₁.setTop (entryFrame m #[(.long q1), (.long q2), (.int p3), (.int p4), (.int p5)] maxLocals)) (T222.setTop (mkF m 429 #[.val (.long q1), .second, .val (.long q2), .second, .val (.int p3), .val (.int p4), .val (.int p5), .val (.ref b2), .val (.int x100), .val (.int x101), .val (.ref b104), .val (.int v203), .unset, .unset] [(.ref b104), (.int (4 : Int32)), (.int x101), (.int x100), (.ref b2), (.int x225)])) := fun t k => P223 t (by
        subst hx225
        show Steps p.tables e below (T222.setTop (mkF m 419 #[.val (.long q1), .second, .val (.long q2), .second, .val (.int p3), .val (.int p4), .val (.int p5), .val (.ref b2), .val (.int x100), .val (.int x101), .val (.ref b104), .val (.int v203), .unset, .unset] [(.int x224), (.int x220)])) t
        refine XS.iadd X222.here hx rfl (hb hby at_419) rfl ?_
        show Steps p.tables e below (T222.setTop (mkF m 420 #[.val (.long q1), .second, .val (.long q2), .second, .val (.int p3), .val (.int p4), .val (.int p5), .val (.ref b2), .val (.int x100), .val (.int x101), .val (.ref b104), .val (.int v203), .unset, .unset] [(.int (x220 + x224))])) t
        refine XS.aload X222.here hx rfl (hb hby at_420) rfl rfl ?_
        show Steps p.tables e below (T222.setTop (mkF m 422 #[.val (.long q1), .second, .val (.long q2), .second, .val (.int p3), .val (.int p4), .val (.int p5), .val (.ref b2), .val (.int x100), .val (.int x101), .val (.ref b104), .val (.int v203), .unset, .unset] [(.ref b2), (.int (x220 + x224))])) t
        refine XS.iload X222.here hx rfl (hb hby at_422) rfl ?_
        show Steps p.tables e below (T222.setTop (mkF m 424 #[.val (.long q1), .second, .val (.long q2), .second, .val (.int p3), .val (.int p4), .val (.int p5), .val (.ref b2), .val (.int x100), .val (.int x101), .val (.ref b104), .val (.int v203), .unset, .unset] [(.int x100), (.ref b2), (.int (x220 + x224))])) t
        refine XS.iload X222.here hx rfl (hb hby at_424) rfl ?_
        show Steps p.tables e below (T222.setTop (mkF m 426 #[.val (.long q1), .second, .val (.long q2), .second, .val (.int p3), .val (.int p4), .val (.int p5), .val (.ref b2), .val (.int x100), .val (.int x101), .val (.ref b104), .val (.int v203), .unset, .unset] [(.int x101), (.int x100), (.ref b2), (.int (x220 + x224))])) t
        refine XS.iconst X222.here hx rfl (hb hby at_426) ?_
        show Steps p.tables e below (T222.setTop (mkF m 427 #[.val (.long q1), .second, .val (.long q2), .second, .val (.int p3), .val (.int p4), .val (.int p5), .val (.ref b2), .val (.int x100), .val (.int x101), .val (.ref b104), .val (.int v203), .unset, .unset] [(.int (4 : Int32)), (.int x101), (.int x100), (.ref b2), (.int (x220 + x224))])) t
        refine XS.aload X222.here hx rfl (hb hby at_427) rfl rfl ?_
        exact k)
      obtain ⟨_, _, ⟨T227, L227, k227, n227⟩, -, X227, ⟨Lc227, hQ227, l227, y227, z227⟩, st227⟩ := Jvm.LawKit.callS X222 hx (y := (⟨"com/example/carrel/carrel/server/marc/MarcRecordDigitsPinLaw", "term", "([BIII[I)I"⟩ : MethodName)) hown (mvT hZ (hw _ (List.mem_of_getElem? (i := 15) rfl))) (mvT hZ (hw _ (List.mem_of_getElem? (i := 16) rfl))) (mvT hZ (hw _ (List.mem_of_getElem? (i := 3) rfl))) (mvT hZ (hw _ (List.mem_of_getElem? (i := 17) rfl))) (by decide) (backOf (W := 1) (rmTe l Z a0 hw [] b2 x100 x101 (4 : Int32) b104 k2 VB (own_W DB x100 (4 : Int32)) k104 VP (own_pw x101 (4 : Int32)) h151 n0 Z151 (AB.keep K151 nin0) (AP.keep K151 nin0) (own_fk hf (by decide) (by decide)) (hgB _) (fun h_ => ⟨own_pk hcn (by decide) h_, hgP _⟩)) hZ (hw _ (List.mem_of_getElem? (i := 17) rfl)) (hw _ (List.mem_of_getElem? (i := 3) rfl)) (by decide) (by decide)) (g := (mkF m 429 #[.val (.long q1), .second, .val (.long q2), .second, .val (.int p3), .val (.int p4), .val (.int p5), .val (.ref b2), .val (.int x100), .val (.int x101), .val (.ref b104), .val (.int v203), .unset, .unset] [(.ref b104), (.int (4 : Int32)), (.int x101), (.int x100), (.ref b2), (.int x225)])) rfl (by rw [hml]; rfl) (argsL := [(.ref b2), (.int x100), (.int x101), (.int (4 : Int32)), (.ref b104)]) (rest := [(.int x225)]) (lenOf pd_3 rfl) rfl (by show 2 * 0 + _ ≤ _; exact Nat.le_of_eq rfl) (hb hby at_429) (fun _ _ => ⟨rfl, e222, (by decide : 2 + 0 ≤ _), (by decide : 21 + 0 ≤ _)⟩)
      dsimp only [Pt.U, Pt.locs, Pt.cells, Pt.slots] at X227 l227 y227 z227 st227 hQ227
      subst y227 z227
      obtain ⟨rfl, N227q, e227⟩ := hQ227
      have N227 : Fr n0 L227 := by rw [l227]; exact Fr.app N222 N227q
      have P228 : Rch p e below (s₁.setTop (entryFrame m #[(.long q1), (.long q2), (.int p3), (.int p4), (.int p5)] maxLocals)) (T227.setTop (mkF m 432 #[.val (.long q1), .second, .val (.long q2), .second, .val (.int p3), .val (.int p4), .val (.int p5), .val (.ref b2), .val (.int x100), .val (.int x101), .val (.ref b104), .val (.int v203), .unset, .unset] [(.int (own_term x101 (4 : Int32) (own_W DB x100 (4 : Int32)) (own_pw x101 (4 : Int32)))), (.int x225)])) := fun t k => P226 t (st227 t k)
      obtain ⟨x229, hx229⟩ : ∃ z : Int32, z = (own_term x101 (4 : Int32) (own_W DB x100 (4 : Int32)) (own_pw x101 (4 : Int32))) := ⟨_, rfl⟩
      rw [← hx229] at P228
      obtain ⟨x230, hx230⟩ : ∃ z : Int32, z = (x225 + x229) := ⟨_, rfl⟩
      have P231 : Rch p e below (s₁.setTop (entryFrame m #[(.long q1), (.long q2), (.int p3), (.int p4), (.int p5)] maxLocals)) (T227.setTop (mkF m 442 #[.val (.long q1), .second, .val (.long q2), .second, .val (.int p3), .val (.int p4), .val (.int p5), .val (.ref b2), .val (.int x100), .val (.int x101), .val (.ref b104), .val (.int v203), .unset, .unset] [(.ref b104), (.int (5 : Int32)), (.int x101), (.int x100), (.ref b2), (.int x230)])) := fun t k => P228 t (by
        subst hx230
        show Steps p.tables e below (T227.setTop (mkF m 432 #[.val (.long q1), .second, .val (.long q2), .second, .val (.int p3), .val (.int p4), .val (.int p5), .val (.ref b2), .val (.int x100), .val (.int x101), .val (.ref b104), .val (.int v203), .unset, .unset] [(.int x229), (.int x225)])) t
        refine XS.iadd X227.here hx rfl (hb hby at_432) rfl ?_
        show Steps p.tables e below (T227.setTop (mkF m 433 #[.val (.long q1), .second, .val (.long q2), .second, .val (.int p3), .val (.int p4), .val (.int p5), .val (.ref b2), .val (.int x100), .val (.int x101), .val (.ref b104), .val (.int v203), .unset, .unset] [(.int (x225 + x229))])) t
        refine XS.aload X227.here hx rfl (hb hby at_433) rfl rfl ?_
        show Steps p.tables e below (T227.setTop (mkF m 435 #[.val (.long q1), .second, .val (.long q2), .second, .val (.int p3), .val (.int p4), .val (.int p5), .val (.ref b2), .val (.int x100), .val (.int x101), .val (.ref b104), .val (.int v203), .unset, .unset] [(.ref b2), (.int (x225 + x229))])) t
        refine XS.iload X227.here hx rfl (hb hby at_435) rfl ?_
        show Steps p.tables e below (T227.setTop (mkF m 437 #[.val (.long q1), .second, .val (.long q2), .second, .val (.int p3), .val (.int p4), .val (.int p5), .val (.ref b2), .val (.int x100), .val (.int x101), .val (.ref b104), .val (.int v203), .unset, .unset] [(.int x100), (.ref b2), (.int (x225 + x229))])) t
        refine XS.iload X227.here hx rfl (hb hby at_437) rfl ?_
        show Steps p.tables e below (T227.setTop (mkF m 439 #[.val (.long q1), .second, .val (.long q2), .second, .val (.int p3), .val (.int p4), .val (.int p5), .val (.ref b2), .val (.int x100), .val (.int x101), .val (.ref b104), .val (.int v203), .unset, .unset] [(.int x101), (.int x100), (.ref b2), (.int (x225 + x229))])) t
        refine XS.iconst X227.here hx rfl (hb hby at_439) ?_
        show Steps p.tables e below (T227.setTop (mkF m 440 #[.val (.long q1), .second, .val (.long q2), .second, .val (.int p3), .val (.int p4), .val (.int p5), .val (.ref b2), .val (.int x100), .val (.int x101), .val (.ref b104), .val (.int v203), .unset, .unset] [(.int (5 : Int32)), (.int x101), (.int x100), (.ref b2), (.int (x225 + x229))])) t
        refine XS.aload X227.here hx rfl (hb hby at_440) rfl rfl ?_
        exact k)
      obtain ⟨_, _, ⟨T232, L232, k232, n232⟩, -, X232, ⟨Lc232, hQ232, l232, y232, z232⟩, st232⟩ := Jvm.LawKit.callS X227 hx (y := (⟨"com/example/carrel/carrel/server/marc/MarcRecordDigitsPinLaw", "term", "([BIII[I)I"⟩ : MethodName)) hown (mvT hZ (hw _ (List.mem_of_getElem? (i := 15) rfl))) (mvT hZ (hw _ (List.mem_of_getElem? (i := 16) rfl))) (mvT hZ (hw _ (List.mem_of_getElem? (i := 3) rfl))) (mvT hZ (hw _ (List.mem_of_getElem? (i := 17) rfl))) (by decide) (backOf (W := 1) (rmTe l Z a0 hw [] b2 x100 x101 (5 : Int32) b104 k2 VB (own_W DB x100 (5 : Int32)) k104 VP (own_pw x101 (5 : Int32)) h151 n0 Z151 (AB.keep K151 nin0) (AP.keep K151 nin0) (own_fk hf (by decide) (by decide)) (hgB _) (fun h_ => ⟨own_pk hcn (by decide) h_, hgP _⟩)) hZ (hw _ (List.mem_of_getElem? (i := 17) rfl)) (hw _ (List.mem_of_getElem? (i := 3) rfl)) (by decide) (by decide)) (g := (mkF m 442 #[.val (.long q1), .second, .val (.long q2), .second, .val (.int p3), .val (.int p4), .val (.int p5), .val (.ref b2), .val (.int x100), .val (.int x101), .val (.ref b104), .val (.int v203), .unset, .unset] [(.ref b104), (.int (5 : Int32)), (.int x101), (.int x100), (.ref b2), (.int x230)])) rfl (by rw [hml]; rfl) (argsL := [(.ref b2), (.int x100), (.int x101), (.int (5 : Int32)), (.ref b104)]) (rest := [(.int x230)]) (lenOf pd_3 rfl) rfl (by show 2 * 0 + _ ≤ _; exact Nat.le_of_eq rfl) (hb hby at_442) (fun _ _ => ⟨rfl, e227, (by decide : 2 + 0 ≤ _), (by decide : 21 + 0 ≤ _)⟩)
      dsimp only [Pt.U, Pt.locs, Pt.cells, Pt.slots] at X232 l232 y232 z232 st232 hQ232
      subst y232 z232
      obtain ⟨rfl, N232q, e232⟩ := hQ232
      have N232 : Fr n0 L232 := by rw [l232]; exact Fr.app N227 N232q
      have P233 : Rch p e below (s₁.setTop (entryFrame m #[(.long q1), (.long q2), (.int p3), (.int p4), (.int p5)] maxLocals)) (T232.setTop (mkF m 445 #[.val (.long q1), .second, .val (.long q2), .second, .val (.int p3), .val (.int p4), .val (.int p5), .val (.ref b2), .val (.int x100), .val (.int x101), .val (.ref b104), .val (.int v203), .unset, .unset] [(.int (own_term x101 (5 : Int32) (own_W DB x100 (5 : Int32)) (own_pw x101 (5 : Int32)))), (.int x230)])) := fun t k => P231 t (st232 t k)
      obtain ⟨x234, hx234⟩ : ∃ z : Int32, z = (own_term x101 (5 : Int32) (own_W DB x100 (5 : Int32)) (own_pw x101 (5 : Int32))) := ⟨_, rfl⟩
      rw [← hx234] at P233
      obtain ⟨x235, hx235⟩ : ∃ z : Int32, z = (x230 + x234) := ⟨_, rfl⟩
      have P236 : Rch p e below (s₁.setTop (entryFrame m #[(.long q1), (.long q2), (.int p3), (.int p4), (.int p5)] maxLocals)) (T232.setTop (mkF m 456 #[.val (.long q1), .second, .val (.long q2), .second, .val (.int p3), .val (.int p4), .val (.int p5), .val (.ref b2), .val (.int x100), .val (.int x101), .val (.ref b104), .val (.int v203), .unset, .unset] [(.ref b104), (.int (6 : Int32)), (.int x101), (.int x100), (.ref b2), (.int x235)])) := fun t k => P233 t (by
        subst hx235
        show Steps p.tables e below (T232.setTop (mkF m 445 #[.val (.long q1), .second, .val (.long q2), .second, .val (.int p3), .val (.int p4), .val (.int p5), .val (.ref b2), .val (.int x100), .val (.int x101), .val (.ref b104), .val (.int v203), .unset, .unset] [(.int x234), (.int x230)])) t
        refine XS.iadd X232.here hx rfl (hb hby at_445) rfl ?_
        show Steps p.tables e below (T232.setTop (mkF m 446 #[.val (.long q1), .second, .val (.long q2), .second, .val (.int p3), .val (.int p4), .val (.int p5), .val (.ref b2), .val (.int x100), .val (.int x101), .val (.ref b104), .val (.int v203), .unset, .unset] [(.int (x230 + x234))])) t
        refine XS.aload X232.here hx rfl (hb hby at_446) rfl rfl ?_
        show Steps p.tables e below (T232.setTop (mkF m 448 #[.val (.long q1), .second, .val (.long q2), .second, .val (.int p3), .val (.int p4), .val (.int p5), .val (.ref b2), .val (.int x100), .val (.int x101), .val (.ref b104), .val (.int v203), .unset, .unset] [(.ref b2), (.int (x230 + x234))])) t
        refine XS.iload X232.here hx rfl (hb hby at_448) rfl ?_
        show Steps p.tables e below (T232.setTop (mkF m 450 #[.val (.long q1), .second, .val (.long q2), .second, .val (.int p3), .val (.int p4), .val (.int p5), .val (.ref b2), .val (.int x100), .val (.int x101), .val (.ref b104), .val (.int v203), .unset, .unset] [(.int x100), (.ref b2), (.int (x230 + x234))])) t
        refine XS.iload X232.here hx rfl (hb hby at_450) rfl ?_
        show Steps p.tables e below (T232.setTop (mkF m 452 #[.val (.long q1), .second, .val (.long q2), .second, .val (.int p3), .val (.int p4), .val (.int p5), .val (.ref b2), .val (.int x100), .val (.int x101), .val (.ref b104), .val (.int v203), .unset, .unset] [(.int x101), (.int x100), (.ref b2), (.int (x230 + x234))])) t
        refine XS.bipush X232.here hx rfl (hb hby at_452) ?_
        show Steps p.tables e below (T232.setTop (mkF m 454 #[.val (.long q1), .second, .val (.long q2), .second, .val (.int p3), .val (.int p4), .val (.int p5), .val (.ref b2), .val (.int x100), .val (.int x101), .val (.ref b104), .val (.int v203), .unset, .unset] [(.int (6 : Int32)), (.int x101), (.int x100), (.ref b2), (.int (x230 + x234))])) t
        refine XS.aload X232.here hx rfl (hb hby at_454) rfl rfl ?_
        exact k)
      obtain ⟨_, _, ⟨T237, L237, k237, n237⟩, -, X237, ⟨Lc237, hQ237, l237, y237, z237⟩, st237⟩ := Jvm.LawKit.callS X232 hx (y := (⟨"com/example/carrel/carrel/server/marc/MarcRecordDigitsPinLaw", "term", "([BIII[I)I"⟩ : MethodName)) hown (mvT hZ (hw _ (List.mem_of_getElem? (i := 15) rfl))) (mvT hZ (hw _ (List.mem_of_getElem? (i := 16) rfl))) (mvT hZ (hw _ (List.mem_of_getElem? (i := 3) rfl))) (mvT hZ (hw _ (List.mem_of_getElem? (i := 17) rfl))) (by decide) (backOf (W := 1) (rmTe l Z a0 hw [] b2 x100 x101 (6 : Int32) b104 k2 VB (own_W DB x100 (6 : Int32)) k104 VP (own_pw x101 (6 : Int32)) h151 n0 Z151 (AB.keep K151 nin0) (AP.keep K151 nin0) (own_fk hf (by decide) (by decide)) (hgB _) (fun h_ => ⟨own_pk hcn (by decide) h_, hgP _⟩)) hZ (hw _ (List.mem_of_getElem? (i := 17) rfl)) (hw _ (List.mem_of_getElem? (i := 3) rfl)) (by decide) (by decide)) (g := (mkF m 456 #[.val (.long q1), .second, .val (.long q2), .second, .val (.int p3), .val (.int p4), .val (.int p5), .val (.ref b2), .val (.int x100), .val (.int x101), .val (.ref b104), .val (.int v203), .unset, .unset] [(.ref b104), (.int (6 : Int32)), (.int x101), (.int x100), (.ref b2), (.int x235)])) rfl (by rw [hml]; rfl) (argsL := [(.ref b2), (.int x100), (.int x101), (.int (6 : Int32)), (.ref b104)]) (rest := [(.int x235)]) (lenOf pd_3 rfl) rfl (by show 2 * 0 + _ ≤ _; exact Nat.le_of_eq rfl) (hb hby at_456) (fun _ _ => ⟨rfl, e232, (by decide : 2 + 0 ≤ _), (by decide : 21 + 0 ≤ _)⟩)
      dsimp only [Pt.U, Pt.locs, Pt.cells, Pt.slots] at X237 l237 y237 z237 st237 hQ237
      subst y237 z237
      obtain ⟨rfl, N237q, e237⟩ := hQ237
      have N237 : Fr n0 L237 := by rw [l237]; exact Fr.app N232 N237q
      have P238 : Rch p e below (s₁.setTop (entryFrame m #[(.long q1), (.long q2), (.int p3), (.int p4), (.int p5)] maxLocals)) (T237.setTop (mkF m 459 #[.val (.long q1), .second, .val (.long q2), .second, .val (.int p3), .val (.int p4), .val (.int p5), .val (.ref b2), .val (.int x100), .val (.int x101), .val (.ref b104), .val (.int v203), .unset, .unset] [(.int (own_term x101 (6 : Int32) (own_W DB x100 (6 : Int32)) (own_pw x101 (6 : Int32)))), (.int x235)])) := fun t k => P236 t (st237 t k)
      obtain ⟨x239, hx239⟩ : ∃ z : Int32, z = (own_term x101 (6 : Int32) (own_W DB x100 (6 : Int32)) (own_pw x101 (6 : Int32))) := ⟨_, rfl⟩
      rw [← hx239] at P238
      obtain ⟨x240, hx240⟩ : ∃ z : Int32, z = (x235 + x239) := ⟨_, rfl⟩
      have P241 : Rch p e below (s₁.setTop (entryFrame m #[(.long q1), (.long q2), (.int p3), (.int p4), (.int p5)] maxLocals)) (T237.setTop (mkF m 470 #[.val (.long q1), .second, .val (.long q2), .second, .val (.int p3), .val (.int p4), .val (.int p5), .val (.ref b2), .val (.int x100), .val (.int x101), .val (.ref b104), .val (.int v203), .unset, .unset] [(.ref b104), (.int (7 : Int32)), (.int x101), (.int x100), (.ref b2), (.int x240)])) := fun t k => P238 t (by
        subst hx240
        show Steps p.tables e below (T237.setTop (mkF m 459 #[.val (.long q1), .second, .val (.long q2), .second, .val (.int p3), .val (.int p4), .val (.int p5), .val (.ref b2), .val (.int x100), .val (.int x101), .val (.ref b104), .val (.int v203), .unset, .unset] [(.int x239), (.int x235)])) t
        refine XS.iadd X237.here hx rfl (hb hby at_459) rfl ?_
        show Steps p.tables e below (T237.setTop (mkF m 460 #[.val (.long q1), .second, .val (.long q2), .second, .val (.int p3), .val (.int p4), .val (.int p5), .val (.ref b2), .val (.int x100), .val (.int x101), .val (.ref b104), .val (.int v203), .unset, .unset] [(.int (x235 + x239))])) t
        refine XS.aload X237.here hx rfl (hb hby at_460) rfl rfl ?_
        show Steps p.tables e below (T237.setTop (mkF m 462 #[.val (.long q1), .second, .val (.long q2), .second, .val (.int p3), .val (.int p4), .val (.int p5), .val (.ref b2), .val (.int x100), .val (.int x101), .val (.ref b104), .val (.int v203), .unset, .unset] [(.ref b2), (.int (x235 + x239))])) t
        refine XS.iload X237.here hx rfl (hb hby at_462) rfl ?_
        show Steps p.tables e below (T237.setTop (mkF m 464 #[.val (.long q1), .second, .val (.long q2), .second, .val (.int p3), .val (.int p4), .val (.int p5), .val (.ref b2), .val (.int x100), .val (.int x101), .val (.ref b104), .val (.int v203), .unset, .unset] [(.int x100), (.ref b2), (.int (x235 + x239))])) t
        refine XS.iload X237.here hx rfl (hb hby at_464) rfl ?_
        show Steps p.tables e below (T237.setTop (mkF m 466 #[.val (.long q1), .second, .val (.long q2), .second, .val (.int p3), .val (.int p4), .val (.int p5), .val (.ref b2), .val (.int x100), .val (.int x101), .val (.ref b104), .val (.int v203), .unset, .unset] [(.int x101), (.int x100), (.ref b2), (.int (x235 + x239))])) t
        refine XS.bipush X237.here hx rfl (hb hby at_466) ?_
        show Steps p.tables e below (T237.setTop (mkF m 468 #[.val (.long q1), .second, .val (.long q2), .second, .val (.int p3), .val (.int p4), .val (.int p5), .val (.ref b2), .val (.int x100), .val (.int x101), .val (.ref b104), .val (.int v203), .unset, .unset] [(.int (7 : Int32)), (.int x101), (.int x100), (.ref b2), (.int (x235 + x239))])) t
        refine XS.aload X237.here hx rfl (hb hby at_468) rfl rfl ?_
        exact k)
      obtain ⟨_, _, ⟨T242, L242, k242, n242⟩, -, X242, ⟨Lc242, hQ242, l242, y242, z242⟩, st242⟩ := Jvm.LawKit.callS X237 hx (y := (⟨"com/example/carrel/carrel/server/marc/MarcRecordDigitsPinLaw", "term", "([BIII[I)I"⟩ : MethodName)) hown (mvT hZ (hw _ (List.mem_of_getElem? (i := 15) rfl))) (mvT hZ (hw _ (List.mem_of_getElem? (i := 16) rfl))) (mvT hZ (hw _ (List.mem_of_getElem? (i := 3) rfl))) (mvT hZ (hw _ (List.mem_of_getElem? (i := 17) rfl))) (by decide) (backOf (W := 1) (rmTe l Z a0 hw [] b2 x100 x101 (7 : Int32) b104 k2 VB (own_W DB x100 (7 : Int32)) k104 VP (own_pw x101 (7 : Int32)) h151 n0 Z151 (AB.keep K151 nin0) (AP.keep K151 nin0) (own_fk hf (by decide) (by decide)) (hgB _) (fun h_ => ⟨own_pk hcn (by decide) h_, hgP _⟩)) hZ (hw _ (List.mem_of_getElem? (i := 17) rfl)) (hw _ (List.mem_of_getElem? (i := 3) rfl)) (by decide) (by decide)) (g := (mkF m 470 #[.val (.long q1), .second, .val (.long q2), .second, .val (.int p3), .val (.int p4), .val (.int p5), .val (.ref b2), .val (.int x100), .val (.int x101), .val (.ref b104), .val (.int v203), .unset, .unset] [(.ref b104), (.int (7 : Int32)), (.int x101), (.int x100), (.ref b2), (.int x240)])) rfl (by rw [hml]; rfl) (argsL := [(.ref b2), (.int x100), (.int x101), (.int (7 : Int32)), (.ref b104)]) (rest := [(.int x240)]) (lenOf pd_3 rfl) rfl (by show 2 * 0 + _ ≤ _; exact Nat.le_of_eq rfl) (hb hby at_470) (fun _ _ => ⟨rfl, e237, (by decide : 2 + 0 ≤ _), (by decide : 21 + 0 ≤ _)⟩)
      dsimp only [Pt.U, Pt.locs, Pt.cells, Pt.slots] at X242 l242 y242 z242 st242 hQ242
      subst y242 z242
      obtain ⟨rfl, N242q, e242⟩ := hQ242
      have N242 : Fr n0 L242 := by rw [l242]; exact Fr.app N237 N242q
      have P243 : Rch p e below (s₁.setTop (entryFrame m #[(.long q1), (.long q2), (.int p3), (.int p4), (.int p5)] maxLocals)) (T242.setTop (mkF m 473 #[.val (.long q1), .second, .val (.long q2), .second, .val (.int p3), .val (.int p4), .val (.int p5), .val (.ref b2), .val (.int x100), .val (.int x101), .val (.ref b104), .val (.int v203), .unset, .unset] [(.int (own_term x101 (7 : Int32) (own_W DB x100 (7 : Int32)) (own_pw x101 (7 : Int32)))), (.int x240)])) := fun t k => P241 t (st242 t k)
      obtain ⟨x244, hx244⟩ : ∃ z : Int32, z = (own_term x101 (7 : Int32) (own_W DB x100 (7 : Int32)) (own_pw x101 (7 : Int32))) := ⟨_, rfl⟩
      rw [← hx244] at P243
      obtain ⟨x245, hx245⟩ : ∃ z : Int32, z = (x240 + x244) := ⟨_, rfl⟩
      have P246 : Rch p e below (s₁.setTop (entryFrame m #[(.long q1), (.long q2), (.int p3), (.int p4), (.int p5)] maxLocals)) (T242.setTop (mkF m 484 #[.val (.long q1), .second, .val (.long q2), .second, .val (.int p3), .val (.int p4), .val (.int p5), .val (.ref b2), .val (.int x100), .val (.int x101), .val (.ref b104), .val (.int v203), .unset, .unset] [(.ref b104), (.int (8 : Int32)), (.int x101), (.int x100), (.ref b2), (.int x245)])) := fun t k => P243 t (by
        subst hx245
        show Steps p.tables e below (T242.setTop (mkF m 473 #[.val (.long q1), .second, .val (.long q2), .second, .val (.int p3), .val (.int p4), .val (.int p5), .val (.ref b2), .val (.int x100), .val (.int x101), .val (.ref b104), .val (.int v203), .unset, .unset] [(.int x244), (.int x240)])) t
        refine XS.iadd X242.here hx rfl (hb hby at_473) rfl ?_
        show Steps p.tables e below (T242.setTop (mkF m 474 #[.val (.long q1), .second, .val (.long q2), .second, .val (.int p3), .val (.int p4), .val (.int p5), .val (.ref b2), .val (.int x100), .val (.int x101), .val (.ref b104), .val (.int v203), .unset, .unset] [(.int (x240 + x244))])) t
        refine XS.aload X242.here hx rfl (hb hby at_474) rfl rfl ?_
        show Steps p.tables e below (T242.setTop (mkF m 476 #[.val (.long q1), .second, .val (.long q2), .second, .val (.int p3), .val (.int p4), .val (.int p5), .val (.ref b2), .val (.int x100), .val (.int x101), .val (.ref b104), .val (.int v203), .unset, .unset] [(.ref b2), (.int (x240 + x244))])) t
        refine XS.iload X242.here hx rfl (hb hby at_476) rfl ?_
        show Steps p.tables e below (T242.setTop (mkF m 478 #[.val (.long q1), .second, .val (.long q2), .second, .val (.int p3), .val (.int p4), .val (.int p5), .val (.ref b2), .val (.int x100), .val (.int x101), .val (.ref b104), .val (.int v203), .unset, .unset] [(.int x100), (.ref b2), (.int (x240 + x244))])) t
        refine XS.iload X242.here hx rfl (hb hby at_478) rfl ?_
        show Steps p.tables e below (T242.setTop (mkF m 480 #[.val (.long q1), .second, .val (.long q2), .second, .val (.int p3), .val (.int p4), .val (.int p5), .val (.ref b2), .val (.int x100), .val (.int x101), .val (.ref b104), .val (.int v203), .unset, .unset] [(.int x101), (.int x100), (.ref b2), (.int (x240 + x244))])) t
        refine XS.bipush X242.here hx rfl (hb hby at_480) ?_
        show Steps p.tables e below (T242.setTop (mkF m 482 #[.val (.long q1), .second, .val (.long q2), .second, .val (.int p3), .val (.int p4), .val (.int p5), .val (.ref b2), .val (.int x100), .val (.int x101), .val (.ref b104), .val (.int v203), .unset, .unset] [(.int (8 : Int32)), (.int x101), (.int x100), (.ref b2), (.int (x240 + x244))])) t
        refine XS.aload X242.here hx rfl (hb hby at_482) rfl rfl ?_
        exact k)
      obtain ⟨_, _, ⟨T247, L247, k247, n247⟩, -, X247, ⟨Lc247, hQ247, l247, y247, z247⟩, st247⟩ := Jvm.LawKit.callS X242 hx (y := (⟨"com/example/carrel/carrel/server/marc/MarcRecordDigitsPinLaw", "term", "([BIII[I)I"⟩ : MethodName)) hown (mvT hZ (hw _ (List.mem_of_getElem? (i := 15) rfl))) (mvT hZ (hw _ (List.mem_of_getElem? (i := 16) rfl))) (mvT hZ (hw _ (List.mem_of_getElem? (i := 3) rfl))) (mvT hZ (hw _ (List.mem_of_getElem? (i := 17) rfl))) (by decide) (backOf (W := 1) (rmTe l Z a0 hw [] b2 x100 x101 (8 : Int32) b104 k2 VB (own_W DB x100 (8 : Int32)) k104 VP (own_pw x101 (8 : Int32)) h151 n0 Z151 (AB.keep K151 nin0) (AP.keep K151 nin0) (own_fk hf (by decide) (by decide)) (hgB _) (fun h_ => ⟨own_pk hcn (by decide) h_, hgP _⟩)) hZ (hw _ (List.mem_of_getElem? (i := 17) rfl)) (hw _ (List.mem_of_getElem? (i := 3) rfl)) (by decide) (by decide)) (g := (mkF m 484 #[.val (.long q1), .second, .val (.long q2), .second, .val (.int p3), .val (.int p4), .val (.int p5), .val (.ref b2), .val (.int x100), .val (.int x101), .val (.ref b104), .val (.int v203), .unset, .unset] [(.ref b104), (.int (8 : Int32)), (.int x101), (.int x100), (.ref b2), (.int x245)])) rfl (by rw [hml]; rfl) (argsL := [(.ref b2), (.int x100), (.int x101), (.int (8 : Int32)), (.ref b104)]) (rest := [(.int x245)]) (lenOf pd_3 rfl) rfl (by show 2 * 0 + _ ≤ _; exact Nat.le_of_eq rfl) (hb hby at_484) (fun _ _ => ⟨rfl, e242, (by decide : 2 + 0 ≤ _), (by decide : 21 + 0 ≤ _)⟩)
      dsimp only [Pt.U, Pt.locs, Pt.cells, Pt.slots] at X247 l247 y247 z247 st247 hQ247
      subst y247 z247
      obtain ⟨rfl, N247q, e247⟩ := hQ247
      have N247 : Fr n0 L247 := by rw [l247]; exact Fr.app N242 N247q
      have P248 : Rch p e below (s₁.setTop (entryFrame m #[(.long q1), (.long q2), (.int p3), (.int p4), (.int p5)] maxLocals)) (T247.setTop (mkF m 487 #[.val (.long q1), .second, .val (.long q2), .second, .val (.int p3), .val (.int p4), .val (.int p5), .val (.ref b2), .val (.int x100), .val (.int x101), .val (.ref b104), .val (.int v203), .unset, .unset] [(.int (own_term x101 (8 : Int32) (own_W DB x100 (8 : Int32)) (own_pw x101 (8 : Int32)))), (.int x245)])) := fun t k => P246 t (st247 t k)
      obtain ⟨x249, hx249⟩ : ∃ z : Int32, z = (own_term x101 (8 : Int32) (own_W DB x100 (8 : Int32)) (own_pw x101 (8 : Int32))) := ⟨_, rfl⟩
      rw [← hx249] at P248
      obtain ⟨x250, hx250⟩ : ∃ z : Int32, z = (x245 + x249) := ⟨_, rfl⟩
      have P251 : Rch p e below (s₁.setTop (entryFrame m #[(.long q1), (.long q2), (.int p3), (.int p4), (.int p5)] maxLocals)) (T247.setTop (mkF m 490 #[.val (.long q1), .second, .val (.long q2), .second, .val (.int p3), .val (.int p4), .val (.int p5), .val (.ref b2), .val (.int x100), .val (.int x101), .val (.ref b104), .val (.int v203), .val (.int x250), .unset] [])) := fun t k => P248 t (by
        subst hx250
        show Steps p.tables e below (T247.setTop (mkF m 487 #[.val (.long q1), .second, .val (.long q2), .second, .val (.int p3), .val (.int p4), .val (.int p5), .val (.ref b2), .val (.int x100), .val (.int x101), .val (.ref b104), .val (.int v203), .unset, .unset] [(.int x249), (.int x245)])) t
        refine XS.iadd X247.here hx rfl (hb hby at_487) rfl ?_
        show Steps p.tables e below (T247.setTop (mkF m 488 #[.val (.long q1), .second, .val (.long q2), .second, .val (.int p3), .val (.int p4), .val (.int p5), .val (.ref b2), .val (.int x100), .val (.int x101), .val (.ref b104), .val (.int v203), .unset, .unset] [(.int (x245 + x249))])) t
        refine XS.istore X247.here hx rfl (hb hby at_488) rfl (l' := #[.val (.long q1), .second, .val (.long q2), .second, .val (.int p3), .val (.int p4), .val (.int p5), .val (.ref b2), .val (.int x100), .val (.int x101), .val (.ref b104), .val (.int v203), .val (.int (x245 + x249)), .unset]) rfl ?_
        exact k)
      exact ⟨T247, _, h151, x250, X247, e247, N247, Z151, (Keep.refl h151 []), (by subst hx250 hx249 hx245 hx244 hx240 hx239 hx235 hx234 hx230 hx229 hx225 hx224 hx220 hx219 hx215 hx214 hx210; first | rfl | rw [if_pos c206] | simp only [if_pos c206]), P251⟩
    · have P252 : Rch p e below (s₁.setTop (entryFrame m #[(.long q1), (.long q2), (.int p3), (.int p4), (.int p5)] maxLocals)) (T151.setTop (mkF m 490 #[.val (.long q1), .second, .val (.long q2), .second, .val (.int p3), .val (.int p4), .val (.int p5), .val (.ref b2), .val (.int x100), .val (.int x101), .val (.ref b104), .val (.int v203), .val (.int (-1 : Int32)), .unset] [])) := fun t k => P204 t (by
        show Steps p.tables e below (T151.setTop (mkF m 360 #[.val (.long q1), .second, .val (.long q2), .second, .val (.int p3), .val (.int p4), .val (.int p5), .val (.ref b2), .val (.int x100), .val (.int x101), .val (.ref b104), .val (.int v203), .unset, .unset] [(.int v203)])) t
        refine XS.ifNo X151.here hx rfl (hb hby at_360) rfl ((if0 _ _).trans (feq c206).1) ?_
        show Steps p.tables e below (T151.setTop (mkF m 363 #[.val (.long q1), .second, .val (.long q2), .second, .val (.int p3), .val (.int p4), .val (.int p5), .val (.ref b2), .val (.int x100), .val (.int x101), .val (.ref b104), .val (.int v203), .unset, .unset] [])) t
        refine XS.iconst X151.here hx rfl (hb hby at_363) ?_
        show Steps p.tables e below (T151.setTop (mkF m 364 #[.val (.long q1), .second, .val (.long q2), .second, .val (.int p3), .val (.int p4), .val (.int p5), .val (.ref b2), .val (.int x100), .val (.int x101), .val (.ref b104), .val (.int v203), .unset, .unset] [(.int (-1 : Int32))])) t
        refine XS.istore X151.here hx rfl (hb hby at_364) rfl (l' := #[.val (.long q1), .second, .val (.long q2), .second, .val (.int p3), .val (.int p4), .val (.int p5), .val (.ref b2), .val (.int x100), .val (.int x101), .val (.ref b104), .val (.int v203), .val (.int (-1 : Int32)), .unset]) rfl ?_
        show Steps p.tables e below (T151.setTop (mkF m 366 #[.val (.long q1), .second, .val (.long q2), .second, .val (.int p3), .val (.int p4), .val (.int p5), .val (.ref b2), .val (.int x100), .val (.int x101), .val (.ref b104), .val (.int v203), .val (.int (-1 : Int32)), .unset] [])) t
        refine XS.goto X151.here hx rfl (pc0 := 366) (pc' := 490) rfl (hb hby at_366) (by decide) (by decide) ?_
        exact k)
      exact ⟨T151, _, h151, (-1 : Int32), X151, e151, N151, Z151, (Keep.refl h151 []), (by first | rfl | rw [if_neg c206] | simp only [if_neg c206]), P252⟩
  have P254 : Rch p e below (s₁.setTop (entryFrame m #[(.long q1), (.long q2), (.int p3), (.int p4), (.int p5)] maxLocals)) (T205.setTop (mkF m 496 #[.val (.long q1), .second, .val (.long q2), .second, .val (.int p3), .val (.int p4), .val (.int p5), .val (.ref b2), .val (.int x100), .val (.int x101), .val (.ref b104), .val (.int v203), .val (.int v253), .unset] [(.int x101), (.int x100), (.ref b2)])) := fun t k => P205 t (by
    show Steps p.tables e below (T205.setTop (mkF m 490 #[.val (.long q1), .second, .val (.long q2), .second, .val (.int p3), .val (.int p4), .val (.int p5), .val (.ref b2), .val (.int x100), .val (.int x101), .val (.ref b104), .val (.int v203), .val (.int v253), .unset] [])) t
    refine XS.aload X205.here hx rfl (hb hby at_490) rfl rfl ?_
    show Steps p.tables e below (T205.setTop (mkF m 492 #[.val (.long q1), .second, .val (.long q2), .second, .val (.int p3), .val (.int p4), .val (.int p5), .val (.ref b2), .val (.int x100), .val (.int x101), .val (.ref b104), .val (.int v203), .val (.int v253), .unset] [(.ref b2)])) t
    refine XS.iload X205.here hx rfl (hb hby at_492) rfl ?_
    show Steps p.tables e below (T205.setTop (mkF m 494 #[.val (.long q1), .second, .val (.long q2), .second, .val (.int p3), .val (.int p4), .val (.int p5), .val (.ref b2), .val (.int x100), .val (.int x101), .val (.ref b104), .val (.int v203), .val (.int v253), .unset] [(.int x100), (.ref b2)])) t
    refine XS.iload X205.here hx rfl (hb hby at_494) rfl ?_
    exact k)
  obtain ⟨_, _, ⟨T255, L255, k255, n255⟩, -, X255, ⟨Lc255, hQ255, l255, y255, z255⟩, st255⟩ := Jvm.LawKit.callS X205 hx (y := (⟨"com/example/carrel/carrel/server/marc/MarcRecord", "digits", "([BII)I"⟩ : MethodName)) hown (mvT hZ (hw _ (List.mem_of_getElem? (i := 18) rfl))) (mvT hZ (hw _ (List.mem_of_getElem? (i := 19) rfl))) (mvT hZ (hw _ (List.mem_of_getElem? (i := 20) rfl))) (mvT hZ (hw _ (List.mem_of_getElem? (i := 21) rfl))) (by decide) (backOf (W := 0) (rmDi l Z a0 hw [] b2 x100 x101 k2 VB (own_win DB x100 x101) h205 n0 Z205 ((AB.keep K151 nin0).keep K205 nin0) hf.1 (own_wl DB x100 hcn.1) (by omega) (own_wg hgB x100 x101)) hZ (hw _ (List.mem_of_getElem? (i := 21) rfl)) (hw _ (List.mem_of_getElem? (i := 20) rfl)) (by decide) (by decide)) (g := (mkF m 496 #[.val (.long q1), .second, .val (.long q2), .second, .val (.int p3), .val (.int p4), .val (.int p5), .val (.ref b2), .val (.int x100), .val (.int x101), .val (.ref b104), .val (.int v203), .val (.int v253), .unset] [(.int x101), (.int x100), (.ref b2)])) rfl (by rw [hml]; rfl) (argsL := [(.ref b2), (.int x100), (.int x101)]) (rest := []) (lenOf pd_4 rfl) rfl (by show 2 * 0 + _ ≤ _; exact Nat.le_of_eq rfl) (hb hby at_496) (fun _ _ => ⟨rfl, e205, (by decide : 2 + 0 ≤ _), (by decide : 21 + 0 ≤ _)⟩)
  dsimp only [Pt.U, Pt.locs, Pt.cells, Pt.slots] at X255 l255 y255 z255 st255 hQ255
  subst y255 z255
  obtain ⟨rfl, N255q, e255⟩ := hQ255
  have N255 : Fr n0 L255 := by rw [l255]; exact Fr.app N205 N255q
  have P256 : Rch p e below (s₁.setTop (entryFrame m #[(.long q1), (.long q2), (.int p3), (.int p4), (.int p5)] maxLocals)) (T255.setTop (mkF m 499 #[.val (.long q1), .second, .val (.long q2), .second, .val (.int p3), .val (.int p4), .val (.int p5), .val (.ref b2), .val (.int x100), .val (.int x101), .val (.ref b104), .val (.int v203), .val (.int v253), .unset] [(.int (own_digits (own_win DB x100 x101)))])) := fun t k => P254 t (st255 t k)
  obtain ⟨x257, hx257⟩ : ∃ z : Int32, z = (own_digits (own_win DB x100 x101)) := ⟨_, rfl⟩
  rw [← hx257] at P256
  have P258 : Rch p e below (s₁.setTop (entryFrame m #[(.long q1), (.long q2), (.int p3), (.int p4), (.int p5)] maxLocals)) (T255.setTop (mkF m 505 #[.val (.long q1), .second, .val (.long q2), .second, .val (.int p3), .val (.int p4), .val (.int p5), .val (.ref b2), .val (.int x100), .val (.int x101), .val (.ref b104), .val (.int v203), .val (.int v253), .val (.int x257)] [(.int v253), (.int x257)])) := fun t k => P256 t (by
    show Steps p.tables e below (T255.setTop (mkF m 499 #[.val (.long q1), .second, .val (.long q2), .second, .val (.int p3), .val (.int p4), .val (.int p5), .val (.ref b2), .val (.int x100), .val (.int x101), .val (.ref b104), .val (.int v203), .val (.int v253), .unset] [(.int x257)])) t
    refine XS.istore X255.here hx rfl (hb hby at_499) rfl (l' := #[.val (.long q1), .second, .val (.long q2), .second, .val (.int p3), .val (.int p4), .val (.int p5), .val (.ref b2), .val (.int x100), .val (.int x101), .val (.ref b104), .val (.int v203), .val (.int v253), .val (.int x257)]) rfl ?_
    show Steps p.tables e below (T255.setTop (mkF m 501 #[.val (.long q1), .second, .val (.long q2), .second, .val (.int p3), .val (.int p4), .val (.int p5), .val (.ref b2), .val (.int x100), .val (.int x101), .val (.ref b104), .val (.int v203), .val (.int v253), .val (.int x257)] [])) t
    refine XS.iload X255.here hx rfl (hb hby at_501) rfl ?_
    show Steps p.tables e below (T255.setTop (mkF m 503 #[.val (.long q1), .second, .val (.long q2), .second, .val (.int p3), .val (.int p4), .val (.int p5), .val (.ref b2), .val (.int x100), .val (.int x101), .val (.ref b104), .val (.int v203), .val (.int v253), .val (.int x257)] [(.int x257)])) t
    refine XS.iload X255.here hx rfl (hb hby at_503) rfl ?_
    exact k)
  have hfin : x257 = v253 := by
    subst hx257 hv253 hv203 hx150
    exact own_main DB hrB x100 x101 hf hcn
  have P259 : Rch p e below (s₁.setTop (entryFrame m #[(.long q1), (.long q2), (.int p3), (.int p4), (.int p5)] maxLocals)) (T255.setTop (mkF m 513 #[.val (.long q1), .second, .val (.long q2), .second, .val (.int p3), .val (.int p4), .val (.int p5), .val (.ref b2), .val (.int x100), .val (.int x101), .val (.ref b104), .val (.int v203), .val (.int v253), .val (.int x257)] [(.int (1 : Int32))])) := fun t k => P258 t (by
    show Steps p.tables e below (T255.setTop (mkF m 505 #[.val (.long q1), .second, .val (.long q2), .second, .val (.int p3), .val (.int p4), .val (.int p5), .val (.ref b2), .val (.int x100), .val (.int x101), .val (.ref b104), .val (.int v203), .val (.int v253), .val (.int x257)] [(.int v253), (.int x257)])) t
    refine XS.icmpNo X255.here hx rfl (hb hby at_505) rfl (teq hfin).2 ?_
    show Steps p.tables e below (T255.setTop (mkF m 508 #[.val (.long q1), .second, .val (.long q2), .second, .val (.int p3), .val (.int p4), .val (.int p5), .val (.ref b2), .val (.int x100), .val (.int x101), .val (.ref b104), .val (.int v203), .val (.int v253), .val (.int x257)] [])) t
    refine XS.iconst X255.here hx rfl (hb hby at_508) ?_
    show Steps p.tables e below (T255.setTop (mkF m 509 #[.val (.long q1), .second, .val (.long q2), .second, .val (.int p3), .val (.int p4), .val (.int p5), .val (.ref b2), .val (.int x100), .val (.int x101), .val (.ref b104), .val (.int v203), .val (.int v253), .val (.int x257)] [(.int (1 : Int32))])) t
    refine XS.goto X255.here hx rfl (pc0 := 509) (pc' := 513) rfl (hb hby at_509) (by decide) (by decide) ?_
    exact k)
  obtain ⟨fs, hr, hrun, hended, hW, hsame⟩ := X255.leave (v := some (.int (1 : Int32))) (fun h => by rw [Bd.returns] at h; cases h)
  refine ⟨_, _, P259 _ ?_, hrun, hended, _, _, rfl, ?_, ⟨_, rfl⟩, hW, hsame.mono (by decide) (by decide)⟩
  · exact retN X255 hx (t := .boolean) Bd.returns (by simp) (hb hby at_513) hr
  · show Q_rm0 Z q1 q2 p3 p4 p5 h0 n0 _ T255.heap _
    rw [e255]
    exact ⟨rfl, N255⟩
set_option maxRecDepth 65536 in
set_option maxHeartbeats 40000000 in
theorem comes_1 {Post : Tables → Env → Array Value → State → Outcome → State → Prop} (hpost : ∀ tb e args s v u, (limb_1_1.after args s (.returned v) u = true ∧ limb_1_2.after args s (.returned v) u = true ∧ True) → FrameEnd s (.returned v) u (Jvm.fieldLocs frame_1_writes args s ++ Jvm.arrayLocs frame_1_arrays args s ++ Jvm.staticLocs frame_1_statics s) 16 128 → Post tb e args s (.returned v) u) :
    ArmFor flags0 classFile x code maxLocals ret World_1 tables_1 room_1 Calls_1 rest_1 Pre_1 Post := by
  intro l hfl _ _ p e ha hc hk s m args below hf hA hF happ hP
  obtain ⟨hcalls, hrest, hpre⟩ := hP
  obtain ⟨-, -, -, hnamed, -, -, -, hat⟩ := (Spec.applies_iff hf).mp happ
  obtain ⟨hg, hn⟩ := and_e (Cond.before_iff.mp (show (Jvm.Cond.and given_1 narrow_1).before args s = true from hpre))
  obtain ⟨gc, gr0⟩ := and_e hg
  obtain ⟨ga0, gr1⟩ := and_e gr0
  obtain ⟨ga1, gr2⟩ := and_e gr1
  obtain ⟨ga2, gr3⟩ := and_e gr2
  obtain ⟨ga3, gr4⟩ := and_e gr3
  obtain ⟨w0, w1, w2, w3, w4, rfl⟩ : ∃ w0 w1 w2 w3 w4 : Value, args = #[w0, w1, w2, w3, w4] := by
    have hs : args.size = 5 := by simpa [Cond.value, given_1] using gc
    obtain ⟨L⟩ := args
    match L, hs with
    | [w0, w1, w2, w3, w4], _ => exact ⟨w0, w1, w2, w3, w4, rfl⟩
  have hw := fun d (hd : d ∈ tables_1) => atoms_spec (ws := Jvm.Cond.code x code maxLocals ret :: tables_1) hat d (List.mem_cons_of_mem _ hd)
  have hfit : Fit s := fun {y c} hc i hi => by
    obtain ⟨ha, rfl⟩ := Array.getElem?_eq_some_iff.mp hc
    have q := List.all_eq_true.mp ((Array.all_eq_true_iff_forall_mem.mp hF) _ (Array.getElem_mem ha)) i (List.mem_range.mpr hi)
    simpa [Array.getElem?_eq_getElem hi] using q
  obtain ⟨i0, ei0⟩ := isL_v ga0
  obtain rfl : w0 = (.long i0) := Option.some.inj ei0
  obtain ⟨i1, ei1⟩ := isL_v ga1
  obtain rfl : w1 = (.long i1) := Option.some.inj ei1
  obtain ⟨i2, ei2⟩ := is_v ga2
  obtain rfl : w2 = (.int i2) := Option.some.inj ei2
  obtain ⟨i3, ei3⟩ := is_v ga3
  obtain rfl : w3 = (.int i3) := Option.some.inj ei3
  obtain ⟨i4, ei4⟩ := is_v gr4
  obtain rfl : w4 = (.int i4) := Option.some.inj ei4
  obtain ⟨n, o, h1, h2, h3, _, L, rfl, ⟨rfl, N⟩, hq⟩ := rm0 l s _ hw tables_1 i0 i1 i2 i3 i4 s.heap s.heap.size (Nat.le_refl _)  p e ha hc hk s m _ below hf ((Spec.applies_iff_loose hf).mp happ).1 ⟨rfl, State.Warmed39.refl s, rfl⟩ trivial
  refine ⟨n, _, h1, h2, h3, hpost _ _ _ _ _ _ ⟨Cond.after_iff.mpr rfl, Cond.after_iff.mpr (eq_i res_at (Term.int_eval (1)) rfl), trivial⟩ ⟨hq.1, hq.2.1, (hq.2.2.sift fun y hy => Or.inr (N y hy)).mono (by decide) (by decide)⟩⟩
theorem main_1_1 : Claimed_1_1 := comes_1 fun _ _ _ _ _ _ h hF => ⟨h.1, hF⟩
theorem main_1_2 : Claimed_1_2 := comes_1 fun _ _ _ _ _ _ h hF => ⟨h.2.1, hF⟩
end Jvm.Pilot.@@N@@
namespace Jvm.Pilot.@@N@@
open Jvm Jvm.ClassFile Sem Op Lib Jvm.Free Jvm.Stand Jvm.Pilot.@@N@@.Jvm.D
/-! MADE BY PROGRAM (witnessworld.py) out of the Statement's table words and the real class files: 9 classes; the members and pool entries that the words name. The judged class is class 1, her method 5. -/
namespace start1
open Jvm.ClassFile
def u (s : String) : CpInfo := .utf8 (stringToUtf16 s)
/-- a pool by its gaps: so many unusable entries, then the entry; so many at the end -/
def gap : Nat → List CpInfo → List CpInfo
  | 0, r => r
  | n + 1, r => .unusable :: gap n r
def poolList (es : List (Nat × CpInfo)) (last : Nat) : List CpInfo := es.foldr (fun e r => gap e.1 (e.2 :: r)) (gap last [])
def pool (es : List (Nat × CpInfo)) (last : Nat) : Array CpInfo := ⟨poolList es last⟩
def fileOf (pool : Array CpInfo) (this : Nat) (attrs : Array Attribute := #[]) (ms : Array MethodInfo := #[]) (fl : Nat := 33) (sup : Nat := 0) (ifs : Array Nat := #[]) (fds : Array FieldInfo := #[]) : ClassFile where
  minorVersion := 0
  majorVersion := 65
  constantPool := pool
  accessFlags := fl
  thisClass := this
  superClass := sup
  interfaces := ifs
  fields := fds
  methods := ms
  attributes := attrs
def plain (name : String) (sup : Option ClassId) : Class where
  name := name
  kind := .ordinary
  loader := none
  accessFlags := 33
  super := sup
  interfaces := #[]
  cf := none
  fields := #[]
  methods := #[]
  instanceTypes := #[]
  staticTypes := #[]
  resolved := #[]
  callSites := []
  init := .initialized
  statics := none
  mirror := none

def pool0 : Array CpInfo := pool [(5, u "<init>"), (0, u "()V"), (1, .class_ 10), (1, u "java/lang/Object")] 113

def k0m0 : Method := { name := "<init>", desc := "()V", sig := { parameters := [], returnType := none }, accessFlags := 1, code := none }
/-- java/lang/Object -/
def k0 : Class := { plain "java/lang/Object" none with
  accessFlags := 33
  interfaces := #[]
  cf := some (fileOf pool0 8 #[] #[{ accessFlags := 1, nameIndex := 5, descriptorIndex := 6, attributes := #[] }] 33 0 #[] #[])
  fields := #[]
  methods := #[k0m0]
  instanceTypes := #[]
  staticTypes := #[]
  resolved := Array.replicate 124 none
  statics := none }

def pool1 : Array CpInfo := pool [(2, .class_ 4), (1, u "java/lang/Object"), (0, u "<init>"), (0, u "()V"), (0, .long 255), (1, .methodref 10 11), (0, .class_ 12), (0, .nameAndType 13 14), (0, u "com/example/carrel/carrel/server/marc/MarcRecordDigitsPinLaw"), (0, u "dig"), (0, u "(B)I"), (0, .methodref 10 16), (0, .nameAndType 17 18), (0, u "draw"), (0, u "(JIII)B"), (0, .integer 2147483647), (0, .integer 100000), (0, .integer 1000000), (0, .integer 10000000), (0, .integer 100000000), (0, .methodref 10 25), (0, .nameAndType 26 27), (0, u "badAt"), (0, u "([BIII)Z"), (0, .methodref 10 29), (0, .nameAndType 30 31), (0, u "term"), (0, u "([BIII[I)I"), (0, .methodref 33 34), (0, .class_ 35), (0, .nameAndType 36 37), (0, u "com/example/carrel/carrel/server/marc/MarcRecord"), (0, u "digits"), (0, u "([BII)I"), (3, u "law"), (0, u "(JJIII)Z")] 6

def k1m0 : Method := { name := "<init>", desc := "()V", sig := { parameters := [], returnType := none }, accessFlags := 1, code := none }
def k1c1 : Code := { maxStack := 4, maxLocals := 6, code := method_2_code, exceptionTable := #[], attributes := #[] }
def k1m1 : Method := { name := "draw", desc := "(JIII)B", sig := { parameters := [.long, .int, .int, .int], returnType := some .byte }, accessFlags := 10, code := some k1c1 }
def k1c2 : Code := { maxStack := 2, maxLocals := 2, code := method_3_code, exceptionTable := #[], attributes := #[] }
def k1m2 : Method := { name := "dig", desc := "(B)I", sig := { parameters := [.byte], returnType := some .int }, accessFlags := 10, code := some k1c2 }
def k1c3 : Code := { maxStack := 3, maxLocals := 4, code := method_4_code, exceptionTable := #[], attributes := #[] }
def k1m3 : Method := { name := "badAt", desc := "([BIII)Z", sig := { parameters := [(.array .byte), .int, .int, .int], returnType := some .boolean }, accessFlags := 10, code := some k1c3 }
def k1c4 : Code := { maxStack := 4, maxLocals := 5, code := method_5_code, exceptionTable := #[], attributes := #[] }
def k1m4 : Method := { name := "term", desc := "([BIII[I)I", sig := { parameters := [(.array .byte), .int, .int, .int, (.array .int)], returnType := some .int }, accessFlags := 10, code := some k1c4 }
def k1c5 : Code := { maxStack := 8, maxLocals := 14, code := code, exceptionTable := #[], attributes := #[] }
def k1m5 : Method := { name := "law", desc := "(JJIII)Z", sig := { parameters := [.long, .long, .int, .int, .int], returnType := some .boolean }, accessFlags := 9, code := some k1c5 }
/-- com/example/carrel/carrel/server/marc/MarcRecordDigitsPinLaw -/
def k1 : Class := { plain "com/example/carrel/carrel/server/marc/MarcRecordDigitsPinLaw" (some 0) with
  accessFlags := 49
  interfaces := #[]
  cf := some (fileOf pool1 10 #[] #[{ accessFlags := 1, nameIndex := 5, descriptorIndex := 6, attributes := #[] }, { accessFlags := 10, nameIndex := 17, descriptorIndex := 18, attributes := #[] }, { accessFlags := 10, nameIndex := 13, descriptorIndex := 14, attributes := #[] }, { accessFlags := 10, nameIndex := 26, descriptorIndex := 27, attributes := #[] }, { accessFlags := 10, nameIndex := 30, descriptorIndex := 31, attributes := #[] }, { accessFlags := 9, nameIndex := 41, descriptorIndex := 42, attributes := #[] }] 49 2 #[] #[])
  fields := #[]
  methods := #[k1m0, k1m1, k1m2, k1m3, k1m4, k1m5]
  instanceTypes := #[]
  staticTypes := #[]
  resolved := Array.replicate 49 none
  statics := none }

def pool2 : Array CpInfo := pool [(1, .class_ 2), (0, u "com/example/carrel/carrel/server/marc/MarcRecord"), (1, .class_ 6), (1, u "java/lang/Object"), (4, u "bytes"), (0, u "[B"), (2, u "indicatorCount"), (0, u "I"), (2, u "identifierLength"), (2, u "digits"), (0, u "([BII)I"), (2, u "baseAddress"), (2, u "lengthDigits"), (2, u "startDigits"), (2, u "entryLength"), (90, u "LENGTH_DIGITS"), (2, u "LEADER_LENGTH"), (1, u "MIN_LENGTH"), (1, u "INDICATOR_COUNT"), (1, u "IDENTIFIER_LENGTH"), (1, u "BASE_ADDRESS"), (1, u "BASE_ADDRESS_DIGITS"), (0, u "ENTRY_MAP"), (1, u "TAG_LENGTH"), (1, u "SUBFIELD_DELIMITER"), (0, u "B"), (1, u "FIELD_TERMINATOR"), (1, u "RECORD_TERMINATOR")] 37

def k2c0 : Code := { maxStack := 3, maxLocals := 5, code := prog_103_method_11_code, exceptionTable := #[], attributes := #[] }
def k2m0 : Method := { name := "digits", desc := "([BII)I", sig := { parameters := [(.array .byte), .int, .int], returnType := some .int }, accessFlags := 8, code := some k2c0 }
/-- com/example/carrel/carrel/server/marc/MarcRecord -/
def k2 : Class := { plain "com/example/carrel/carrel/server/marc/MarcRecord" (some 0) with
  accessFlags := 49
  interfaces := #[]
  cf := some (fileOf pool2 1 #[] #[{ accessFlags := 8, nameIndex := 22, descriptorIndex := 23, attributes := #[] }] 49 4 #[] #[{ accessFlags := 24, nameIndex := 126, descriptorIndex := 16, attributes := #[] }, { accessFlags := 26, nameIndex := 129, descriptorIndex := 16, attributes := #[] }, { accessFlags := 24, nameIndex := 131, descriptorIndex := 16, attributes := #[] }, { accessFlags := 26, nameIndex := 133, descriptorIndex := 16, attributes := #[] }, { accessFlags := 26, nameIndex := 135, descriptorIndex := 16, attributes := #[] }, { accessFlags := 26, nameIndex := 137, descriptorIndex := 16, attributes := #[] }, { accessFlags := 26, nameIndex := 139, descriptorIndex := 16, attributes := #[] }, { accessFlags := 26, nameIndex := 140, descriptorIndex := 16, attributes := #[] }, { accessFlags := 26, nameIndex := 142, descriptorIndex := 16, attributes := #[] }, { accessFlags := 26, nameIndex := 144, descriptorIndex := 145, attributes := #[] }, { accessFlags := 26, nameIndex := 147, descriptorIndex := 145, attributes := #[] }, { accessFlags := 26, nameIndex := 149, descriptorIndex := 145, attributes := #[] }, { accessFlags := 18, nameIndex := 11, descriptorIndex := 12, attributes := #[] }, { accessFlags := 18, nameIndex := 15, descriptorIndex := 16, attributes := #[] }, { accessFlags := 18, nameIndex := 19, descriptorIndex := 16, attributes := #[] }, { accessFlags := 18, nameIndex := 26, descriptorIndex := 16, attributes := #[] }, { accessFlags := 18, nameIndex := 29, descriptorIndex := 16, attributes := #[] }, { accessFlags := 18, nameIndex := 32, descriptorIndex := 16, attributes := #[] }, { accessFlags := 18, nameIndex := 35, descriptorIndex := 16, attributes := #[] }])
  fields := #[{ name := "LENGTH_DIGITS", type := .int, accessFlags := 24, slot := 0, constantValue := 0 }, { name := "LEADER_LENGTH", type := .int, accessFlags := 26, slot := 1, constantValue := 0 }, { name := "MIN_LENGTH", type := .int, accessFlags := 24, slot := 2, constantValue := 0 }, { name := "INDICATOR_COUNT", type := .int, accessFlags := 26, slot := 3, constantValue := 0 }, { name := "IDENTIFIER_LENGTH", type := .int, accessFlags := 26, slot := 4, constantValue := 0 }, { name := "BASE_ADDRESS", type := .int, accessFlags := 26, slot := 5, constantValue := 0 }, { name := "BASE_ADDRESS_DIGITS", type := .int, accessFlags := 26, slot := 6, constantValue := 0 }, { name := "ENTRY_MAP", type := .int, accessFlags := 26, slot := 7, constantValue := 0 }, { name := "TAG_LENGTH", type := .int, accessFlags := 26, slot := 8, constantValue := 0 }, { name := "SUBFIELD_DELIMITER", type := .byte, accessFlags := 26, slot := 9, constantValue := 0 }, { name := "FIELD_TERMINATOR", type := .byte, accessFlags := 26, slot := 10, constantValue := 0 }, { name := "RECORD_TERMINATOR", type := .byte, accessFlags := 26, slot := 11, constantValue := 0 }, { name := "bytes", type := (.array .byte), accessFlags := 18, slot := 0, constantValue := 0 }, { name := "indicatorCount", type := .int, accessFlags := 18, slot := 1, constantValue := 0 }, { name := "identifierLength", type := .int, accessFlags := 18, slot := 2, constantValue := 0 }, { name := "baseAddress", type := .int, accessFlags := 18, slot := 3, constantValue := 0 }, { name := "lengthDigits", type := .int, accessFlags := 18, slot := 4, constantValue := 0 }, { name := "startDigits", type := .int, accessFlags := 18, slot := 5, constantValue := 0 }, { name := "entryLength", type := .int, accessFlags := 18, slot := 6, constantValue := 0 }]
  methods := #[k2m0]
  instanceTypes := #[(.array .byte), .int, .int, .int, .int, .int, .int]
  staticTypes := #[.int, .int, .int, .int, .int, .int, .int, .int, .int, .byte, .byte, .byte]
  resolved := Array.replicate 187 none
  statics := none }

def pool3 : Array CpInfo := pool [(1, u "java/lang/Cloneable"), (0, .class_ 1), (0, u "java/lang/Object"), (0, .class_ 3)] 3

/-- java/lang/Cloneable -/
def k3 : Class := { plain "java/lang/Cloneable" (some 0) with
  accessFlags := 1537
  interfaces := #[]
  cf := some (fileOf pool3 2 #[] #[] 1537 4 #[] #[])
  fields := #[]
  methods := #[]
  instanceTypes := #[]
  staticTypes := #[]
  resolved := Array.replicate 8 none
  statics := none }

def pool4 : Array CpInfo := pool [(1, u "java/io/Serializable"), (0, .class_ 1), (0, u "java/lang/Object"), (0, .class_ 3)] 3

/-- java/io/Serializable -/
def k4 : Class := { plain "java/io/Serializable" (some 0) with
  accessFlags := 1537
  interfaces := #[]
  cf := some (fileOf pool4 2 #[] #[] 1537 4 #[] #[])
  fields := #[]
  methods := #[]
  instanceTypes := #[]
  staticTypes := #[]
  resolved := Array.replicate 8 none
  statics := none }

/-- the primitive byte -/
def k5 : Class := { plain "byte" none with kind := .primitive 'B', accessFlags := 0x411 }
/-- [B -/
def k6 : Class := { plain "[B" (some 0) with kind := .array 5 .byte, interfaces := #[3, 4], accessFlags := 1041 }

/-- the primitive int -/
def k7 : Class := { plain "int" none with kind := .primitive 'I', accessFlags := 0x411 }
/-- [I -/
def k8 : Class := { plain "[I" (some 0) with kind := .array 7 .int, interfaces := #[3, 4], accessFlags := 1041 }

def heap : Heap := #[]
def classes : Array Class := #[k0, k1, k2, k3, k4, k5, k6, k7, k8]
def interned : List (Array UInt16 × Addr) := []
def slotsUsed : Nat := 0
def theMethod : MethodId := ⟨1, 5⟩
def args0 : Array Value := #[.long 5, .long 7, .int 3, .int 1, .int 9]
def aboutOver (below : List Frame) : State where
  vm := { classes := classes, interned := interned.toArray }
  heap := heap
  slotsUsed := slotsUsed
  threads := #[{ frames := .invoking theMethod args0 :: below }]
def below0 : List Frame := [.native { method := ⟨0, 0⟩, args := #[] }]
def about1 : State := aboutOver below0
def p0 : Program := .bare "" "" ""
def e0 : Env := launch0.env 0 0 0
theorem w_frames : about1.frames = Frame.invoking theMethod args0 :: below0 := rfl
set_option maxRecDepth 65536 in
theorem w_args : argsFit about1.vm theMethod args0 = true := by decide +kernel
set_option maxRecDepth 65536 in
theorem w_heap : heapFits about1 = true := by decide +kernel
set_option maxRecDepth 65536 in
theorem w_runnable : about1.curStatus? = some .runnable := by decide +kernel
set_option maxRecDepth 65536 in
theorem w_alone : about1.alone = true := by decide +kernel
set_option maxRecDepth 65536 in
theorem w_named : about1.methodNamed? x = some theMethod := by decide +kernel
set_option maxRecDepth 65536 in
theorem w_hears : about1.hears theMethod below0 = true := by decide +kernel
set_option maxRecDepth 65536 in
theorem w_ripe : about1.ripe theMethod args0 below0 = true := by decide +kernel
theorem w_running : about1.status = .running := rfl
set_option maxRecDepth 65536 in
theorem w_room : about1.hasRoom e0.platform room_1 = true :=
  launch0.hasRoom_least _ room_1 (by decide +kernel) (by decide +kernel) (by decide +kernel) (by decide +kernel) (by decide +kernel) (by decide +kernel)
theorem allAtoms_all (ts : List Jvm.Cond) (a : Array Jvm.Value) (st : Jvm.State) : (allAtoms ts).before a st = ts.all (fun c => c.before a st) := by
  induction ts with
  | nil => rfl
  | cons c t ih =>
    show (Jvm.Cond.and c (allAtoms t)).before a st = _
    rw [Jvm.Cond.before_and, ih, List.all_cons]
def words1 : List Jvm.Cond := Jvm.Cond.code x code maxLocals ret :: tables_1
/-- a 'code' word, met by the world's own term for the bytes: nothing is compared byte by byte -/
theorem code_word {y : MethodName} {bytes : ByteArray} {mx : Nat} {rt : Option FieldType} {a : Array Value} {s : State} {m : MethodId} {meth : Method} {c : Code} (h1 : s.methodNamed? y = some m) (h2 : s.vm.method? m = some meth) (h3 : meth.code = some c) (h4 : c.code = bytes)
    (h5 : (c.maxLocals == mx && c.exceptionTable.isEmpty && decide (c.maxStack ≤ mostOperands) && decide (meth.sig.returnType = rt) && !meth.locks && decide (parseMethodDescriptor y.desc = some meth.sig)) = true) : (Jvm.Cond.code y bytes mx rt).before a s = true := by
  simp only [Bool.and_eq_true, beq_iff_eq, Bool.not_eq_true', decide_eq_true_eq] at h5
  obtain ⟨⟨⟨⟨⟨g1, g2⟩, g3⟩, g4⟩, g5⟩, g6⟩ := h5
  simp [Cond.before, Cond.holds, Cond.value, h1, h2, h3, h4, g1, g2, g3, g4, g5, g6]
def isCode : Jvm.Cond → Bool
  | .code _ _ _ _ => true
  | _ => false
theorem all_split {L : List Jvm.Cond} {P : Jvm.Cond → Bool} (h1 : L.all (fun c => isCode c || P c) = true) (h2 : ∀ c ∈ L.filter isCode, P c = true) : L.all P = true := by
  refine List.all_eq_true.mpr fun c hc => ?_
  have h := List.all_eq_true.mp h1 c hc
  rcases Bool.eq_false_or_eq_true (isCode c) with hi | hi
  · exact h2 c (List.mem_filter.mpr ⟨hc, hi⟩)
  · simpa [hi] using h
set_option maxRecDepth 65536 in
theorem w_c0 : (Jvm.Cond.code x code maxLocals ret).before args0 about1 = true := code_word (m := ⟨1, 5⟩) (meth := k1m5) (c := k1c5) (by decide +kernel) rfl rfl rfl (by decide +kernel)
set_option maxRecDepth 65536 in
theorem w_c1 : (Jvm.Cond.code ({ cls := "com/example/carrel/carrel/server/marc/MarcRecordDigitsPinLaw", name := "draw", desc := "(JIII)B" } : Jvm.MethodName) method_2_code (6 : Nat) (Option.some Jvm.ClassFile.FieldType.byte)).before args0 about1 = true := code_word (m := ⟨1, 1⟩) (meth := k1m1) (c := k1c1) (by decide +kernel) rfl rfl rfl (by decide +kernel)
set_option maxRecDepth 65536 in
theorem w_c2 : (Jvm.Cond.code ({ cls := "com/example/carrel/carrel/server/marc/MarcRecordDigitsPinLaw", name := "badAt", desc := "([BIII)Z" } : Jvm.MethodName) method_4_code (4 : Nat) (Option.some Jvm.ClassFile.FieldType.boolean)).before args0 about1 = true := code_word (m := ⟨1, 3⟩) (meth := k1m3) (c := k1c3) (by decide +kernel) rfl rfl rfl (by decide +kernel)
set_option maxRecDepth 65536 in
theorem w_c3 : (Jvm.Cond.code ({ cls := "com/example/carrel/carrel/server/marc/MarcRecordDigitsPinLaw", name := "term", desc := "([BIII[I)I" } : Jvm.MethodName) method_5_code (5 : Nat) (Option.some Jvm.ClassFile.FieldType.int)).before args0 about1 = true := code_word (m := ⟨1, 4⟩) (meth := k1m4) (c := k1c4) (by decide +kernel) rfl rfl rfl (by decide +kernel)
set_option maxRecDepth 65536 in
theorem w_c4 : (Jvm.Cond.code ({ cls := "com/example/carrel/carrel/server/marc/MarcRecord", name := "digits", desc := "([BII)I" } : Jvm.MethodName) prog_103_method_11_code (5 : Nat) (Option.some Jvm.ClassFile.FieldType.int)).before args0 about1 = true := code_word (m := ⟨2, 0⟩) (meth := k2m0) (c := k2c0) (by decide +kernel) rfl rfl rfl (by decide +kernel)
set_option maxRecDepth 65536 in
theorem w_c5 : (Jvm.Cond.code ({ cls := "com/example/carrel/carrel/server/marc/MarcRecordDigitsPinLaw", name := "dig", desc := "(B)I" } : Jvm.MethodName) method_3_code (2 : Nat) (Option.some Jvm.ClassFile.FieldType.int)).before args0 about1 = true := code_word (m := ⟨1, 2⟩) (meth := k1m2) (c := k1c2) (by decide +kernel) rfl rfl rfl (by decide +kernel)
def codes1 : List Jvm.Cond := [Jvm.Cond.code x code maxLocals ret, Jvm.Cond.code ({ cls := "com/example/carrel/carrel/server/marc/MarcRecordDigitsPinLaw", name := "draw", desc := "(JIII)B" } : Jvm.MethodName) method_2_code (6 : Nat) (Option.some Jvm.ClassFile.FieldType.byte), Jvm.Cond.code ({ cls := "com/example/carrel/carrel/server/marc/MarcRecordDigitsPinLaw", name := "badAt", desc := "([BIII)Z" } : Jvm.MethodName) method_4_code (4 : Nat) (Option.some Jvm.ClassFile.FieldType.boolean), Jvm.Cond.code ({ cls := "com/example/carrel/carrel/server/marc/MarcRecordDigitsPinLaw", name := "term", desc := "([BIII[I)I" } : Jvm.MethodName) method_5_code (5 : Nat) (Option.some Jvm.ClassFile.FieldType.int), Jvm.Cond.code ({ cls := "com/example/carrel/carrel/server/marc/MarcRecord", name := "digits", desc := "([BII)I" } : Jvm.MethodName) prog_103_method_11_code (5 : Nat) (Option.some Jvm.ClassFile.FieldType.int), Jvm.Cond.code ({ cls := "com/example/carrel/carrel/server/marc/MarcRecordDigitsPinLaw", name := "dig", desc := "(B)I" } : Jvm.MethodName) method_3_code (2 : Nat) (Option.some Jvm.ClassFile.FieldType.int)]
set_option maxRecDepth 65536 in
theorem codes_eq : words1.filter isCode = codes1 := rfl
theorem w_codes : ∀ c ∈ words1.filter isCode, c.before args0 about1 = true := by
  rw [codes_eq]
  intro c hc
  simp only [codes1, List.mem_cons, List.not_mem_nil, or_false] at hc
  rcases hc with rfl | rfl | rfl | rfl | rfl | rfl
  · exact w_c0
  · exact w_c1
  · exact w_c2
  · exact w_c3
  · exact w_c4
  · exact w_c5
set_option maxRecDepth 65536 in
theorem w_t1 : (words1.take 24).all (fun c => isCode c || c.before args0 about1) = true := by decide +kernel
set_option maxRecDepth 65536 in
theorem w_t2 : (words1.drop 24).all (fun c => isCode c || c.before args0 about1) = true := by decide +kernel
theorem w_tables : (allAtoms (Jvm.Cond.code x code maxLocals ret :: tables_1)).before args0 about1 = true := by
  rw [allAtoms_all]
  show words1.all (fun c => c.before args0 about1) = true
  refine all_split ?_ w_codes
  rw [← List.take_append_drop 24 words1, List.all_append, w_t1, w_t2]
  rfl
set_option maxRecDepth 65536 in
theorem w_case : (Jvm.Cond.and given_1 narrow_1).before args0 about1 = true := by decide +kernel
theorem w_applies : (headSpec (Jvm.Cond.code x code maxLocals ret :: tables_1) room_1).applies x e0.platform about1 = true :=
  (Spec.applies_iff w_frames).mpr ⟨w_running, w_runnable, w_alone, w_named, w_hears, w_ripe, w_room, w_tables⟩
theorem atStart : AtStart classFile x code maxLocals ret World_1 tables_1 room_1 Calls_1 rest_1 Pre_1 launch0 p0 e0 about1 theMethod args0 below0 :=
  ⟨lists_1, trivial, launch0.admits_env _ _ _, launch0.least_env, fairChoices_fair.cas, fairChoices_fair.clock, w_frames, w_args, w_heap, w_applies, trivial, trivial, w_case⟩
end start1
theorem witness_1 : WitnessClaimed_1 := ⟨start1.p0, start1.e0, start1.about1, start1.theMethod, start1.args0, start1.below0, start1.atStart⟩
end Jvm.Pilot.@@N@@
