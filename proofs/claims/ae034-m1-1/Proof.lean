import JvmDerived
import JvmDerived.Pilot.@@N@@Statement
import JvmDerived.Pilot.@@N@@Code
set_option linter.unusedVariables false
set_option linter.unusedSimpArgs false
namespace Jvm.RoadKit
open Sem ClassFile Op Lib Jvm.Stand Jvm.Free Jvm.LawKit
section New
variable {p : Program} {l : Launch} {e : Env} {R : Room} {s : State} {m : MethodId} {args : Array Value} {below : List Frame} {meth : Method} {c : Code} {T : State} {locs : List Loc} {cells slots : Nat}
theorem retI (X : Stand p l e R s m args below meth c T locs cells slots) (hx : p.tables.exec = Jvm.exec) {pc : Nat} {Ls : Array Slot} {z : Int32} {rest : List Value} (hret : meth.sig.returnType = some .int) (hd : decode c.code pc = .ok (.ireturn, 1)) {fs : List Frame}
    (hl : ∀ (f : JFrame) (acts : List Action), f.method = m → f.locked = none → f.entered = [] → (doReturn e (T.setTop f) acts (some (.int z))).1 = T.setFrames fs) : Steps p.tables e below (T.setTop (mkF m pc Ls (.int z :: rest))) (T.setFrames fs) := by
  have hm' : T.vm.method? m = some meth := X.method'
  have hn : narrow .int (.int z) = .int z := rfl
  show Steps p.tables e below (T.setTop { method := m, pc := pc, locals := Ls, stack := _ :: rest, locked := none }) _
  jvm_step X.here [X.here.top, hx, hd, hm', hret, hn]
  first | (intro acts; rw [hl _ acts rfl rfl rfl]) | rw [hl _ _ rfl rfl rfl]
  exact Steps.refl _
end New
end Jvm.RoadKit
namespace Jvm.Pilot.@@N@@
open Jvm Jvm.ClassFile Sem Op Lib Jvm.Free Jvm.Stand Jvm.LawKit Jvm.RoadKit Bundle Jvm.Pilot.@@N@@.Jvm.D
theorem own_more {p : Program} {l : Launch} {e : Env} {R : Room} {s : State} {m : MethodId} {args : Array Value} {below : List Frame} {meth : Method} {c : Code} {T : State} {locs : List Loc} {k n k' n' : Nat} (X : Stand p l e R s m args below meth c T locs k n) (hk : k ≤ k') (hn : n ≤ n') : Stand p l e R s m args below meth c T locs k' n' := { X with same := X.same.mono hk hn }
theorem own_nar {t : FieldType} {v : Value} (h : v.isRef = true) (ht : t.isReference = true := by rfl) : narrow t v = v := by
  rcases ref_cases h with rfl | ⟨a, rfl⟩ <;> cases t <;> first | rfl | (cases ht; done)
theorem own_fit {t : FieldType} {v : Value} (h : v.isRef = true) (ht : t.isReference = true := by rfl) : fits t v = true := by
  rcases ref_cases h with rfl | ⟨a, rfl⟩ <;> cases t <;> first | rfl | (cases ht; done)
theorem own_ifc {P Q : Prop} [Decidable P] [Decidable Q] {α : Type} {a b c d : α} (h : P ↔ Q) (h1 : a = c) (h2 : b = d) : (if P then a else b) = (if Q then c else d) := by
  subst h1 h2; by_cases q : Q
  · rw [if_pos q, if_pos (h.mpr q)]
  · rw [if_neg q, if_neg (fun p => q (h.mp p))]
theorem own_selp {Z s : State} {a0 args : Array Value} {y : MethodName} {n : Nat} (hZ : Z.Warmed39 s.vm) (wi : (Cond.instantiable y.cls n).before a0 Z = true) (wm : (Cond.instanceMethod y).before a0 Z = true) (wp : (Cond.privateMethod y).before a0 Z = true) (hy : y.cls ≠ "java/lang/invoke/MethodHandle" ∧ y.cls ≠ "java/lang/invoke/VarHandle") : (Cond.selects y.cls y y).before args s = true := by
  obtain ⟨c, k, h1, h2, -, h4, -⟩ := Cond.instantiable_spec (show (Cond.instantiable y.cls n).before args s = true from mvT hZ wi)
  exact selects_self_of_private h1 h2 (Bool.or_eq_false_iff.mp h4).1 (Cond.privateMethod_at (mvP hZ wp (args := #[]))) (mvT hZ wm) hy
theorem own_cat {v : Value} (h : v.isRef = true) : v.category = 1 := by rcases ref_cases h with rfl | ⟨a, rfl⟩ <;> rfl
abbrev lv (x : Int64) : Slot := .val (.long x)
abbrev sd : Slot := .second
abbrev un : Slot := .unset
abbrev Rch (p : Program) (e : Env) (below : List Frame) (A B : State) : Prop := ∀ t, Steps p.tables e below B t → Steps p.tables e below A t
theorem d1_0 : decode prog_17_method_1_code 0 = .ok (.aload_n 0, 1) := by decide +kernel
theorem d1_1 : decode prog_17_method_1_code 1 = .ok (.invokespecial 1, 3) := by decide +kernel
theorem d1_4 : decode prog_17_method_1_code 4 = .ok (.aload_n 0, 1) := by decide +kernel
theorem d1_5 : decode prog_17_method_1_code 5 = .ok (.sipush 256, 3) := by decide +kernel
theorem d1_8 : decode prog_17_method_1_code 8 = .ok (.newarray .char, 2) := by decide +kernel
theorem d1_10 : decode prog_17_method_1_code 10 = .ok (.putfield 7, 3) := by decide +kernel
theorem d1_13 : decode prog_17_method_1_code 13 = .ok (.aload_n 0, 1) := by decide +kernel
theorem d1_14 : decode prog_17_method_1_code 14 = .ok (.bipush 16, 2) := by decide +kernel
theorem d1_16 : decode prog_17_method_1_code 16 = .ok (.anewarray 13, 3) := by decide +kernel
theorem d1_19 : decode prog_17_method_1_code 19 = .ok (.putfield 15, 3) := by decide +kernel
theorem d1_22 : decode prog_17_method_1_code 22 = .ok (.aload_n 0, 1) := by decide +kernel
theorem d1_23 : decode prog_17_method_1_code 23 = .ok (.bipush 16, 2) := by decide +kernel
theorem d1_25 : decode prog_17_method_1_code 25 = .ok (.newarray .int, 2) := by decide +kernel
theorem d1_27 : decode prog_17_method_1_code 27 = .ok (.putfield 19, 3) := by decide +kernel
theorem d1_30 : decode prog_17_method_1_code 30 = .ok (.aload_n 0, 1) := by decide +kernel
theorem d1_31 : decode prog_17_method_1_code 31 = .ok (.bipush 16, 2) := by decide +kernel
theorem d1_33 : decode prog_17_method_1_code 33 = .ok (.anewarray 23, 3) := by decide +kernel
theorem d1_36 : decode prog_17_method_1_code 36 = .ok (.putfield 25, 3) := by decide +kernel
theorem d1_39 : decode prog_17_method_1_code 39 = .ok (.return_, 1) := by decide +kernel
theorem pn_0 : plainName "com/example/rideau/rideau/internal/HeldText" = true := by first | (simp [plainName, overriddenIn]; done) | decide +kernel
theorem d3_0 : decode prog_17_method_2_code 0 = .ok (.aload_n 0, 1) := by decide +kernel
theorem d3_1 : decode prog_17_method_2_code 1 = .ok (.getfield 29, 3) := by decide +kernel
theorem d3_4 : decode prog_17_method_2_code 4 = .ok (.ifCond .ne 7, 3) := by decide +kernel
theorem d3_11 : decode prog_17_method_2_code 11 = .ok (.iconst 0, 1) := by decide +kernel
theorem d3_7 : decode prog_17_method_2_code 7 = .ok (.iconst 1, 1) := by decide +kernel
theorem d3_8 : decode prog_17_method_2_code 8 = .ok (.goto 4, 3) := by decide +kernel
theorem d3_12 : decode prog_17_method_2_code 12 = .ok (.ireturn, 1) := by decide +kernel
theorem d7_0 : decode jdk_29_method_65_code 0 = .ok (.iload_n 0, 1) := by decide +kernel
theorem d7_1 : decode jdk_29_method_65_code 1 = .ok (.iload_n 1, 1) := by decide +kernel
theorem d7_2 : decode jdk_29_method_65_code 2 = .ok (.if_icmp .lt 7, 3) := by decide +kernel
theorem d7_9 : decode jdk_29_method_65_code 9 = .ok (.iload_n 1, 1) := by decide +kernel
theorem d7_5 : decode jdk_29_method_65_code 5 = .ok (.iload_n 0, 1) := by decide +kernel
theorem d7_6 : decode jdk_29_method_65_code 6 = .ok (.goto 4, 3) := by decide +kernel
theorem d7_10 : decode jdk_29_method_65_code 10 = .ok (.ireturn, 1) := by decide +kernel
theorem d9_0 : decode jdk_29_method_69_code 0 = .ok (.iload_n 0, 1) := by decide +kernel
theorem d9_1 : decode jdk_29_method_69_code 1 = .ok (.iload_n 1, 1) := by decide +kernel
theorem d9_2 : decode jdk_29_method_69_code 2 = .ok (.if_icmp .gt 7, 3) := by decide +kernel
theorem d9_9 : decode jdk_29_method_69_code 9 = .ok (.iload_n 1, 1) := by decide +kernel
theorem d9_5 : decode jdk_29_method_69_code 5 = .ok (.iload_n 0, 1) := by decide +kernel
theorem d9_6 : decode jdk_29_method_69_code 6 = .ok (.goto 4, 3) := by decide +kernel
theorem d9_10 : decode jdk_29_method_69_code 10 = .ok (.ireturn, 1) := by decide +kernel
theorem d11_0 : decode jdk_43_method_3_code 0 = .ok (.iload_n 0, 1) := by decide +kernel
theorem d11_1 : decode jdk_43_method_3_code 1 = .ok (.sipush 255, 3) := by decide +kernel
theorem d11_4 : decode jdk_43_method_3_code 4 = .ok (.if_icmp .gt 7, 3) := by decide +kernel
theorem d11_11 : decode jdk_43_method_3_code 11 = .ok (.iconst 0, 1) := by decide +kernel
theorem d11_7 : decode jdk_43_method_3_code 7 = .ok (.iconst 1, 1) := by decide +kernel
theorem d11_8 : decode jdk_43_method_3_code 8 = .ok (.goto 4, 3) := by decide +kernel
theorem d11_12 : decode jdk_43_method_3_code 12 = .ok (.ireturn, 1) := by decide +kernel
theorem pn_1 : plainName "java/lang/StringLatin1" = true := by first | (simp [plainName, overriddenIn]; done) | decide +kernel
theorem d5_0 : decode prog_17_method_4_code 0 = .ok (.aload_n 0, 1) := by decide +kernel
theorem d5_1 : decode prog_17_method_4_code 1 = .ok (.getfield 29, 3) := by decide +kernel
theorem d5_4 : decode prog_17_method_4_code 4 = .ok (.aload_n 0, 1) := by decide +kernel
theorem d5_5 : decode prog_17_method_4_code 5 = .ok (.getfield 15, 3) := by decide +kernel
theorem d5_8 : decode prog_17_method_4_code 8 = .ok (.arraylength, 1) := by decide +kernel
theorem d5_9 : decode prog_17_method_4_code 9 = .ok (.if_icmp .ne 60, 3) := by decide +kernel
theorem d5_69 : decode prog_17_method_4_code 69 = .ok (.aload_n 0, 1) := by decide +kernel
theorem d5_70 : decode prog_17_method_4_code 70 = .ok (.getfield 15, 3) := by decide +kernel
theorem d5_73 : decode prog_17_method_4_code 73 = .ok (.aload_n 0, 1) := by decide +kernel
theorem d5_74 : decode prog_17_method_4_code 74 = .ok (.getfield 29, 3) := by decide +kernel
theorem d5_77 : decode prog_17_method_4_code 77 = .ok (.aload_n 1, 1) := by decide +kernel
theorem d5_78 : decode prog_17_method_4_code 78 = .ok (.aastore, 1) := by decide +kernel
theorem d5_79 : decode prog_17_method_4_code 79 = .ok (.aload_n 0, 1) := by decide +kernel
theorem d5_80 : decode prog_17_method_4_code 80 = .ok (.getfield 19, 3) := by decide +kernel
theorem d5_83 : decode prog_17_method_4_code 83 = .ok (.aload_n 0, 1) := by decide +kernel
theorem d5_84 : decode prog_17_method_4_code 84 = .ok (.getfield 29, 3) := by decide +kernel
theorem d5_87 : decode prog_17_method_4_code 87 = .ok (.aload_n 0, 1) := by decide +kernel
theorem d5_88 : decode prog_17_method_4_code 88 = .ok (.getfield 33, 3) := by decide +kernel
theorem d5_91 : decode prog_17_method_4_code 91 = .ok (.iastore, 1) := by decide +kernel
theorem d5_92 : decode prog_17_method_4_code 92 = .ok (.aload_n 0, 1) := by decide +kernel
theorem d5_93 : decode prog_17_method_4_code 93 = .ok (.getfield 25, 3) := by decide +kernel
theorem d5_96 : decode prog_17_method_4_code 96 = .ok (.aload_n 0, 1) := by decide +kernel
theorem d5_97 : decode prog_17_method_4_code 97 = .ok (.getfield 29, 3) := by decide +kernel
theorem d5_100 : decode prog_17_method_4_code 100 = .ok (.aload_n 2, 1) := by decide +kernel
theorem d5_101 : decode prog_17_method_4_code 101 = .ok (.aastore, 1) := by decide +kernel
theorem d5_102 : decode prog_17_method_4_code 102 = .ok (.aload_n 0, 1) := by decide +kernel
theorem d5_103 : decode prog_17_method_4_code 103 = .ok (.dup, 1) := by decide +kernel
theorem d5_104 : decode prog_17_method_4_code 104 = .ok (.getfield 29, 3) := by decide +kernel
theorem d5_107 : decode prog_17_method_4_code 107 = .ok (.iconst 1, 1) := by decide +kernel
theorem d5_108 : decode prog_17_method_4_code 108 = .ok (.iadd, 1) := by decide +kernel
theorem d5_109 : decode prog_17_method_4_code 109 = .ok (.putfield 29, 3) := by decide +kernel
theorem d5_112 : decode prog_17_method_4_code 112 = .ok (.return_, 1) := by decide +kernel
theorem d6_0 : decode prog_17_method_3_code 0 = .ok (.aload_n 0, 1) := by decide +kernel
theorem d6_1 : decode prog_17_method_3_code 1 = .ok (.getfield 33, 3) := by decide +kernel
theorem d6_4 : decode prog_17_method_3_code 4 = .ok (.iload 4, 2) := by decide +kernel
theorem d6_6 : decode prog_17_method_3_code 6 = .ok (.iadd, 1) := by decide +kernel
theorem d6_7 : decode prog_17_method_3_code 7 = .ok (.aload_n 0, 1) := by decide +kernel
theorem d6_8 : decode prog_17_method_3_code 8 = .ok (.getfield 7, 3) := by decide +kernel
theorem d6_11 : decode prog_17_method_3_code 11 = .ok (.arraylength, 1) := by decide +kernel
theorem d6_12 : decode prog_17_method_3_code 12 = .ok (.if_icmp .le 31, 3) := by decide +kernel
theorem d6_43 : decode prog_17_method_3_code 43 = .ok (.aload_n 2, 1) := by decide +kernel
theorem d6_44 : decode prog_17_method_3_code 44 = .ok (.iload_n 3, 1) := by decide +kernel
theorem d6_45 : decode prog_17_method_3_code 45 = .ok (.aload_n 0, 1) := by decide +kernel
theorem d6_46 : decode prog_17_method_3_code 46 = .ok (.getfield 7, 3) := by decide +kernel
theorem d6_49 : decode prog_17_method_3_code 49 = .ok (.aload_n 0, 1) := by decide +kernel
theorem d6_50 : decode prog_17_method_3_code 50 = .ok (.getfield 33, 3) := by decide +kernel
theorem d6_53 : decode prog_17_method_3_code 53 = .ok (.iload 4, 2) := by decide +kernel
theorem d6_55 : decode prog_17_method_3_code 55 = .ok (.invokestatic 48, 3) := by decide +kernel
theorem d6_58 : decode prog_17_method_3_code 58 = .ok (.aload_n 0, 1) := by decide +kernel
theorem d6_59 : decode prog_17_method_3_code 59 = .ok (.dup, 1) := by decide +kernel
theorem d6_60 : decode prog_17_method_3_code 60 = .ok (.getfield 33, 3) := by decide +kernel
theorem d6_63 : decode prog_17_method_3_code 63 = .ok (.iload 4, 2) := by decide +kernel
theorem d6_65 : decode prog_17_method_3_code 65 = .ok (.iadd, 1) := by decide +kernel
theorem d6_66 : decode prog_17_method_3_code 66 = .ok (.putfield 33, 3) := by decide +kernel
theorem d6_69 : decode prog_17_method_3_code 69 = .ok (.aload_n 0, 1) := by decide +kernel
theorem d6_70 : decode prog_17_method_3_code 70 = .ok (.getfield 29, 3) := by decide +kernel
theorem d6_73 : decode prog_17_method_3_code 73 = .ok (.ifCond .le 36, 3) := by decide +kernel
theorem d6_109 : decode prog_17_method_3_code 109 = .ok (.aload_n 0, 1) := by decide +kernel
theorem d6_110 : decode prog_17_method_3_code 110 = .ok (.aload_n 1, 1) := by decide +kernel
theorem d6_111 : decode prog_17_method_3_code 111 = .ok (.aconst_null, 1) := by decide +kernel
theorem d6_112 : decode prog_17_method_3_code 112 = .ok (.invokevirtual 54, 3) := by decide +kernel
theorem d6_115 : decode prog_17_method_3_code 115 = .ok (.return_, 1) := by decide +kernel
theorem d8_0 : decode jdk_65_method_125_code 0 = .ok (.iload_n 1, 1) := by decide +kernel
theorem d8_1 : decode jdk_65_method_125_code 1 = .ok (.aload_n 0, 1) := by decide +kernel
theorem d8_2 : decode jdk_65_method_125_code 2 = .ok (.arraylength, 1) := by decide +kernel
theorem d8_3 : decode jdk_65_method_125_code 3 = .ok (.if_icmp .ne 11, 3) := by decide +kernel
theorem d8_14 : decode jdk_65_method_125_code 14 = .ok (.iload_n 1, 1) := by decide +kernel
theorem d8_15 : decode jdk_65_method_125_code 15 = .ok (.newarray .char, 2) := by decide +kernel
theorem d8_17 : decode jdk_65_method_125_code 17 = .ok (.astore_n 2, 1) := by decide +kernel
theorem d8_18 : decode jdk_65_method_125_code 18 = .ok (.aload_n 0, 1) := by decide +kernel
theorem d8_19 : decode jdk_65_method_125_code 19 = .ok (.iconst 0, 1) := by decide +kernel
theorem d8_20 : decode jdk_65_method_125_code 20 = .ok (.aload_n 2, 1) := by decide +kernel
theorem d8_21 : decode jdk_65_method_125_code 21 = .ok (.iconst 0, 1) := by decide +kernel
theorem d8_22 : decode jdk_65_method_125_code 22 = .ok (.aload_n 0, 1) := by decide +kernel
theorem d8_23 : decode jdk_65_method_125_code 23 = .ok (.arraylength, 1) := by decide +kernel
theorem d8_24 : decode jdk_65_method_125_code 24 = .ok (.iload_n 1, 1) := by decide +kernel
theorem d8_25 : decode jdk_65_method_125_code 25 = .ok (.invokestatic 304, 3) := by decide +kernel
theorem d8_28 : decode jdk_65_method_125_code 28 = .ok (.invokestatic 150, 3) := by decide +kernel
theorem d8_31 : decode jdk_65_method_125_code 31 = .ok (.aload_n 2, 1) := by decide +kernel
theorem d8_32 : decode jdk_65_method_125_code 32 = .ok (.areturn, 1) := by decide +kernel
theorem pn_2 : plainName "java/util/Arrays" = true := by first | (simp [plainName, overriddenIn]; done) | decide +kernel
theorem d6_15 : decode prog_17_method_3_code 15 = .ok (.aload_n 0, 1) := by decide +kernel
theorem d6_16 : decode prog_17_method_3_code 16 = .ok (.aload_n 0, 1) := by decide +kernel
theorem d6_17 : decode prog_17_method_3_code 17 = .ok (.getfield 7, 3) := by decide +kernel
theorem d6_20 : decode prog_17_method_3_code 20 = .ok (.aload_n 0, 1) := by decide +kernel
theorem d6_21 : decode prog_17_method_3_code 21 = .ok (.getfield 33, 3) := by decide +kernel
theorem d6_24 : decode prog_17_method_3_code 24 = .ok (.iload 4, 2) := by decide +kernel
theorem d6_26 : decode prog_17_method_3_code 26 = .ok (.iadd, 1) := by decide +kernel
theorem d6_27 : decode prog_17_method_3_code 27 = .ok (.aload_n 0, 1) := by decide +kernel
theorem d6_28 : decode prog_17_method_3_code 28 = .ok (.getfield 7, 3) := by decide +kernel
theorem d6_31 : decode prog_17_method_3_code 31 = .ok (.arraylength, 1) := by decide +kernel
theorem d6_32 : decode prog_17_method_3_code 32 = .ok (.iconst 2, 1) := by decide +kernel
theorem d6_33 : decode prog_17_method_3_code 33 = .ok (.imul, 1) := by decide +kernel
theorem d6_34 : decode prog_17_method_3_code 34 = .ok (.invokestatic 36, 3) := by decide +kernel
theorem d6_37 : decode prog_17_method_3_code 37 = .ok (.invokestatic 42, 3) := by decide +kernel
theorem d6_40 : decode prog_17_method_3_code 40 = .ok (.putfield 7, 3) := by decide +kernel
theorem d6_76 : decode prog_17_method_3_code 76 = .ok (.aload_n 0, 1) := by decide +kernel
theorem d6_77 : decode prog_17_method_3_code 77 = .ok (.getfield 15, 3) := by decide +kernel
theorem d6_80 : decode prog_17_method_3_code 80 = .ok (.aload_n 0, 1) := by decide +kernel
theorem d6_81 : decode prog_17_method_3_code 81 = .ok (.getfield 29, 3) := by decide +kernel
theorem d6_84 : decode prog_17_method_3_code 84 = .ok (.iconst 1, 1) := by decide +kernel
theorem d6_85 : decode prog_17_method_3_code 85 = .ok (.isub, 1) := by decide +kernel
theorem d6_86 : decode prog_17_method_3_code 86 = .ok (.aaload, 1) := by decide +kernel
theorem d6_87 : decode prog_17_method_3_code 87 = .ok (.aload_n 1, 1) := by decide +kernel
theorem d6_88 : decode prog_17_method_3_code 88 = .ok (.if_acmp .ne 21, 3) := by decide +kernel
theorem d6_91 : decode prog_17_method_3_code 91 = .ok (.aload_n 0, 1) := by decide +kernel
theorem d6_92 : decode prog_17_method_3_code 92 = .ok (.getfield 19, 3) := by decide +kernel
theorem d6_95 : decode prog_17_method_3_code 95 = .ok (.aload_n 0, 1) := by decide +kernel
theorem d6_96 : decode prog_17_method_3_code 96 = .ok (.getfield 29, 3) := by decide +kernel
theorem d6_99 : decode prog_17_method_3_code 99 = .ok (.iconst 1, 1) := by decide +kernel
theorem d6_100 : decode prog_17_method_3_code 100 = .ok (.isub, 1) := by decide +kernel
theorem d6_101 : decode prog_17_method_3_code 101 = .ok (.aload_n 0, 1) := by decide +kernel
theorem d6_102 : decode prog_17_method_3_code 102 = .ok (.getfield 33, 3) := by decide +kernel
theorem d6_105 : decode prog_17_method_3_code 105 = .ok (.iastore, 1) := by decide +kernel
theorem d6_106 : decode prog_17_method_3_code 106 = .ok (.goto 9, 3) := by decide +kernel
theorem d4_0 : decode prog_17_method_7_code 0 = .ok (.aload_n 0, 1) := by decide +kernel
theorem d4_1 : decode prog_17_method_7_code 1 = .ok (.iconst 0, 1) := by decide +kernel
theorem d4_2 : decode prog_17_method_7_code 2 = .ok (.putfield 33, 3) := by decide +kernel
theorem d4_5 : decode prog_17_method_7_code 5 = .ok (.aload_n 0, 1) := by decide +kernel
theorem d4_6 : decode prog_17_method_7_code 6 = .ok (.iconst 0, 1) := by decide +kernel
theorem d4_7 : decode prog_17_method_7_code 7 = .ok (.putfield 29, 3) := by decide +kernel
theorem d4_10 : decode prog_17_method_7_code 10 = .ok (.aload_n 0, 1) := by decide +kernel
theorem d4_11 : decode prog_17_method_7_code 11 = .ok (.getfield 7, 3) := by decide +kernel
theorem d4_14 : decode prog_17_method_7_code 14 = .ok (.arraylength, 1) := by decide +kernel
theorem d4_15 : decode prog_17_method_7_code 15 = .ok (.sipush 8192, 3) := by decide +kernel
theorem d4_18 : decode prog_17_method_7_code 18 = .ok (.if_icmp .le 12, 3) := by decide +kernel
theorem d4_30 : decode prog_17_method_7_code 30 = .ok (.aload_n 0, 1) := by decide +kernel
theorem d4_31 : decode prog_17_method_7_code 31 = .ok (.getfield 15, 3) := by decide +kernel
theorem d4_21 : decode prog_17_method_7_code 21 = .ok (.aload_n 0, 1) := by decide +kernel
theorem d4_22 : decode prog_17_method_7_code 22 = .ok (.sipush 8192, 3) := by decide +kernel
theorem d4_25 : decode prog_17_method_7_code 25 = .ok (.newarray .char, 2) := by decide +kernel
theorem d4_27 : decode prog_17_method_7_code 27 = .ok (.putfield 7, 3) := by decide +kernel
theorem d4_34 : decode prog_17_method_7_code 34 = .ok (.arraylength, 1) := by decide +kernel
theorem d4_35 : decode prog_17_method_7_code 35 = .ok (.sipush 8192, 3) := by decide +kernel
theorem d4_38 : decode prog_17_method_7_code 38 = .ok (.if_icmp .le 32, 3) := by decide +kernel
theorem d4_70 : decode prog_17_method_7_code 70 = .ok (.return_, 1) := by decide +kernel
theorem d12_0 : decode jdk_43_method_46_code 0 = .ok (.iconst 1, 1) := by decide +kernel
theorem d12_1 : decode jdk_43_method_46_code 1 = .ok (.newarray .byte, 2) := by decide +kernel
theorem d12_3 : decode jdk_43_method_46_code 3 = .ok (.dup, 1) := by decide +kernel
theorem d12_4 : decode jdk_43_method_46_code 4 = .ok (.iconst 0, 1) := by decide +kernel
theorem d12_5 : decode jdk_43_method_46_code 5 = .ok (.iload_n 0, 1) := by decide +kernel
theorem d12_6 : decode jdk_43_method_46_code 6 = .ok (.i2b, 1) := by decide +kernel
theorem d12_7 : decode jdk_43_method_46_code 7 = .ok (.bastore, 1) := by decide +kernel
theorem d12_8 : decode jdk_43_method_46_code 8 = .ok (.areturn, 1) := by decide +kernel
theorem d13_0 : decode jdk_42_method_151_code 0 = .ok (.aload_n 0, 1) := by decide +kernel
theorem d13_1 : decode jdk_42_method_151_code 1 = .ok (.invokespecial 1, 3) := by decide +kernel
theorem d13_4 : decode jdk_42_method_151_code 4 = .ok (.aload_n 0, 1) := by decide +kernel
theorem d13_5 : decode jdk_42_method_151_code 5 = .ok (.aload_n 1, 1) := by decide +kernel
theorem d13_6 : decode jdk_42_method_151_code 6 = .ok (.putfield 9, 3) := by decide +kernel
theorem d13_9 : decode jdk_42_method_151_code 9 = .ok (.aload_n 0, 1) := by decide +kernel
theorem d13_10 : decode jdk_42_method_151_code 10 = .ok (.iload_n 2, 1) := by decide +kernel
theorem d13_11 : decode jdk_42_method_151_code 11 = .ok (.putfield 15, 3) := by decide +kernel
theorem d13_14 : decode jdk_42_method_151_code 14 = .ok (.return_, 1) := by decide +kernel
theorem pn_3 : plainName "java/lang/String" = true := by first | (simp [plainName, overriddenIn]; done) | decide +kernel
theorem d10_0 : decode jdk_42_method_139_code 0 = .ok (.getstatic 38, 3) := by decide +kernel
theorem d10_3 : decode jdk_42_method_139_code 3 = .ok (.ifCond .eq 23, 3) := by decide +kernel
theorem d10_6 : decode jdk_42_method_139_code 6 = .ok (.iload_n 0, 1) := by decide +kernel
theorem d10_7 : decode jdk_42_method_139_code 7 = .ok (.invokestatic 1015, 3) := by decide +kernel
theorem d10_10 : decode jdk_42_method_139_code 10 = .ok (.ifCond .eq 16, 3) := by decide +kernel
theorem d10_13 : decode jdk_42_method_139_code 13 = .ok (.new 10, 3) := by decide +kernel
theorem d10_16 : decode jdk_42_method_139_code 16 = .ok (.dup, 1) := by decide +kernel
theorem d10_17 : decode jdk_42_method_139_code 17 = .ok (.iload_n 0, 1) := by decide +kernel
theorem d10_18 : decode jdk_42_method_139_code 18 = .ok (.invokestatic 1018, 3) := by decide +kernel
theorem d10_21 : decode jdk_42_method_139_code 21 = .ok (.iconst 0, 1) := by decide +kernel
theorem d10_22 : decode jdk_42_method_139_code 22 = .ok (.invokespecial 209, 3) := by decide +kernel
theorem d10_25 : decode jdk_42_method_139_code 25 = .ok (.areturn, 1) := by decide +kernel
theorem pn_4 : plainName "com/example/rideau/rideau/internal/HeldTextClearPinLaw" = true := by first | (simp [plainName, overriddenIn]; done) | decide +kernel
theorem pd_0 : parseMethodDescriptor "(Lcom/example/rideau/rideau/internal/HeldText$Piece;Ljava/lang/String;)V" = some ⟨[(.object "com/example/rideau/rideau/internal/HeldText$Piece"), (.object "java/lang/String")], none⟩ := by decide +kernel
theorem pd_1 : parseMethodDescriptor "(II)I" = some ⟨[.int, .int], some .int⟩ := by decide +kernel
theorem pd_2 : parseMethodDescriptor "([CI)[C" = some ⟨[(.array .char), .int], some (.array .char)⟩ := by decide +kernel
theorem pd_3 : parseMethodDescriptor "(C)Z" = some ⟨[.char], some .boolean⟩ := by decide +kernel
theorem pd_4 : parseMethodDescriptor "(C)[B" = some ⟨[.char], some (.array .byte)⟩ := by decide +kernel
theorem pd_5 : parseMethodDescriptor "([BB)V" = some ⟨[(.array .byte), .byte], none⟩ := by decide +kernel
theorem pd_6 : parseMethodDescriptor "()V" = some ⟨[], none⟩ := by decide +kernel
theorem pd_7 : parseMethodDescriptor "(Lcom/example/rideau/rideau/internal/HeldText$Piece;[CII)V" = some ⟨[(.object "com/example/rideau/rideau/internal/HeldText$Piece"), (.array .char), .int, .int], none⟩ := by decide +kernel
theorem pd_8 : parseMethodDescriptor "()Z" = some ⟨[], some .boolean⟩ := by decide +kernel
theorem pd_9 : parseMethodDescriptor "(C)Ljava/lang/String;" = some ⟨[.char], some (.object "java/lang/String")⟩ := by decide +kernel
def Q_rmI (Z : State) (a1 : Addr) (h0 : Heap) (n0 : Nat) (v : Option Value) (h : Heap) (L : List Loc) : Prop := ∃ (ac : Addr), ∃ (ap : Addr), ∃ (ae : Addr), ∃ (an : Addr), ∃ (kc : ClassId), ∃ (kp : ClassId), ∃ (ke : ClassId), ∃ (kn : ClassId), ∃ (vc : List Value), ∃ (vp : List Value), ∃ (ve : List Value), ∃ (vn : List Value), v = none ∧ Fr n0 L ∧ Keep h0 h [a1] ∧ (h0.size ≤ ac) ∧ (h0.size ≤ ap) ∧ (h0.size ≤ ae) ∧ (h0.size ≤ an) ∧ (Exa Z h a1 "com/example/rideau/rideau/internal/HeldText") ∧ (Fld Z h a1 "com/example/rideau/rideau/internal/HeldText" "chars" "[C" (.ref ac)) ∧ (Fld Z h a1 "com/example/rideau/rideau/internal/HeldText" "pieces" "[Lcom/example/rideau/rideau/internal/HeldText$Piece;" (.ref ap)) ∧ (Fld Z h a1 "com/example/rideau/rideau/internal/HeldText" "ends" "[I" (.ref ae)) ∧ (Fld Z h a1 "com/example/rideau/rideau/internal/HeldText" "names" "[Ljava/lang/String;" (.ref an)) ∧ (Fld Z h a1 "com/example/rideau/rideau/internal/HeldText" "size" "I" (.int (0 : Int32))) ∧ (Fld Z h a1 "com/example/rideau/rideau/internal/HeldText" "length" "I" (.int (0 : Int32))) ∧ (Arv Z h ac kc .char (256 : Int32) vc (.int (0 : Int32))) ∧ (Arv Z h ap kp (.object "com/example/rideau/rideau/internal/HeldText$Piece") (16 : Int32) vp .null) ∧ (Arv Z h ae ke .int (16 : Int32) ve (.int (0 : Int32))) ∧ (Arv Z h an kn (.object "java/lang/String") (16 : Int32) vn .null) ∧ (ac ≠ ap) ∧ (ac ≠ ae) ∧ (ac ≠ an) ∧ (ap ≠ ae) ∧ (ap ≠ an) ∧ (ae ≠ an) ∧ (Ovr Z kp "com/example/rideau/rideau/internal/HeldText$Piece") ∧ (Ovr Z kn "java/lang/String") ∧ (vp.length = 16) ∧ (ve.length = 16) ∧ (vn.length = 16)
set_option maxRecDepth 65536 in
set_option maxHeartbeats 40000000 in
theorem rmI (l : Launch) (Z : State) (a0 : Array Value) (hw : ∀ d ∈ tables_1, d.before a0 Z = true) (ws : List Jvm.Cond) (a1 : Addr) (h0 : Heap) (n0 : Nat) (Z0 : n0 ≤ h0.size) (E1 : Exa Z h0 a1 "com/example/rideau/rideau/internal/HeldText") (g1 : n0 ≤ a1) (G_chars : Fld Z h0 a1 "com/example/rideau/rideau/internal/HeldText" "chars" "[C" .null) (G_pieces : Fld Z h0 a1 "com/example/rideau/rideau/internal/HeldText" "pieces" "[Lcom/example/rideau/rideau/internal/HeldText$Piece;" .null) (G_ends : Fld Z h0 a1 "com/example/rideau/rideau/internal/HeldText" "ends" "[I" .null) (G_names : Fld Z h0 a1 "com/example/rideau/rideau/internal/HeldText" "names" "[Ljava/lang/String;" .null) (G_s : Fld Z h0 a1 "com/example/rideau/rideau/internal/HeldText" "size" "I" (.int (0 : Int32))) (G_l : Fld Z h0 a1 "com/example/rideau/rideau/internal/HeldText" "length" "I" (.int (0 : Int32))) :
    MetFree l (⟨"com/example/rideau/rideau/internal/HeldText", "<init>", "()V"⟩ : MethodName) (head1 (Jvm.Cond.code (⟨"com/example/rideau/rideau/internal/HeldText", "<init>", "()V"⟩ : MethodName) prog_17_method_1_code 1 none :: ws) ({ frames := 1, cells := 4, slots := 304, locals := 12 } : Room)) (fun a U => a = #[(.ref a1)] ∧ Z.Warmed39 U.vm ∧ U.heap = h0) (fun _ _ _ _ _ => True) (fun _ U o U' => ∃ v L, o = .returned v ∧ Q_rmI Z a1 h0 n0 v U'.heap L ∧ FrameEnd U o U' L ({ frames := 1, cells := 4, slots := 304, locals := 12 } : Room).cells ({ frames := 1, cells := 4, slots := 304, locals := 12 } : Room).slots) := by
  refine MetFree.of_bodySF (plainFor_of_name pn_0) hisR ?_
  intro p e s m args below meth c s₁ Bd hml0 hP hK
  obtain ⟨rfl, hZ, hh⟩ := hP
  have hx := Bd.exec
  have hby := Bd.bytes
  have hml : c.maxLocals = 1 := hml0
  have hown : s.vm.findClass "com/example/rideau/rideau/internal/HeldText" = some m.cls := findClass_of_methodNamed Bd.named
  have hnm := (name_of_methodNamed Bd.named Bd.method).1
  have X0 : Stand p l e ({ frames := 1, cells := 4, slots := 304, locals := 12 } : Room) s m #[(.ref a1)] below meth c s₁ [] 0 0 := Stand.of_body Bd
  have e0 : s₁.heap = h0 := by rw [← hh, Bd.state]; rfl
  have N0 := Fr.nil n0
  have P0 : Rch p e below (s₁.setTop (entryFrame m #[(.ref a1)] 1)) (s₁.setTop (mkF m 0 #[rv a1] [])) := fun t k => castTop (by first | (simp [entryFrame, mkF, argsToLocals, Value.category]; done) | rfl) k
  have P1 : Rch p e below (s₁.setTop (entryFrame m #[(.ref a1)] 1)) (s₁.setTop (mkF m 1 #[rv a1] [(.ref a1)])) := fun t k => P0 t (by
    show Steps p.tables e below (s₁.setTop (mkF m 0 #[rv a1] [])) t
    refine XS.aloadN X0.here hx rfl (hb hby d1_0) rfl rfl ?_
    exact k)
  obtain ⟨T2, X2, e2, st2⟩ := initO X0 hx hZ hown (hw _ (List.mem_of_getElem? (i := 27) rfl)) (hw _ (List.mem_of_getElem? (i := 28) rfl)) (hw _ (List.mem_of_getElem? (i := 29) rfl)) e0 (g := (mkF m 1 #[rv a1] [(.ref a1)])) rfl (by rw [hml]; rfl) rfl (hb hby d1_1) (by decide) (W := 0) (by show 2 * 0 + _ ≤ _; exact Nat.le_of_eq rfl) (by decide)
  have P3 : Rch p e below (s₁.setTop (entryFrame m #[(.ref a1)] 1)) (T2.setTop (mkF m 4 #[rv a1] [])) := fun t k => P1 t (st2 t k)
  have P4 : Rch p e below (s₁.setTop (entryFrame m #[(.ref a1)] 1)) (T2.setTop (mkF m 8 #[rv a1] [(.int (256 : Int32)), (.ref a1)])) := fun t k => P3 t (by
    show Steps p.tables e below (T2.setTop (mkF m 4 #[rv a1] [])) t
    refine XS.aloadN X2.here hx rfl (hb hby d1_4) rfl rfl ?_
    refine XS.sipush X2.here hx rfl (hb hby d1_5) ?_
    exact k)
  obtain ⟨T5, h5, k5, X5, e5, E5, A5, st5⟩ := newP X2 hx hZ (hw _ (List.mem_of_getElem? (i := 19) rfl)) e2 (g := (mkF m 8 #[rv a1] [(.int (256 : Int32)), (.ref a1)])) rfl (hb hby d1_8) rfl (by decide) (cap := 256) (by decide) (by decide) (by decide) (by decide)
  obtain ⟨b5, g5⟩ : ∃ z, z = h0.size := ⟨_, rfl⟩
  rw [← g5] at A5 st5
  have g_b5 : n0 ≤ b5 := Nat.le_trans Z0 (Nat.le_of_eq g5.symm)
  have sz_b5 : h0.size ≤ b5 := Nat.le_trans (Keep.refl h0 [a1]).1 (Nat.le_of_eq g5.symm)
  have ne_a1_b5 : a1 ≠ b5 := Nat.ne_of_lt (Nat.lt_of_lt_of_le E1.lt (Nat.le_of_eq g5.symm))
  have V5 : Arv Z h5 b5 k5 .char (256 : Int32) [] (.int (0 : Int32)) := Arv.new A5 (by decide)
  have P6 : Rch p e below (s₁.setTop (entryFrame m #[(.ref a1)] 1)) (T5.setTop (mkF m 10 #[rv a1] [(.ref b5), (.ref a1)])) := fun t k => P4 t (st5 t k)
  obtain ⟨T7, h7, X7, e7, W7, st7⟩ := putF X5 hx hZ hown (host := "") (Or.inl (hw _ (List.mem_of_getElem? (i := 30) rfl))) Via.refl e5 (G_chars.ext E5) (E1.ext E5) (Or.inl (hw _ (List.mem_of_getElem? (i := 31) rfl))) (hw _ (List.mem_of_getElem? (i := 22) rfl)) (ty := (.array .char)) (by decide) rfl rfl (g := (mkF m 10 #[rv a1] [(.ref b5), (.ref a1)])) rfl rfl (hb hby d1_10)
  have Fw7 := (G_chars.ext E5).same W7
  have P8 : Rch p e below (s₁.setTop (entryFrame m #[(.ref a1)] 1)) (T7.setTop (mkF m 13 #[rv a1] [])) := fun t k => P6 t (st7 t k)
  have N7 := Fr.snoc X7 N0 g1
  have P9 : Rch p e below (s₁.setTop (entryFrame m #[(.ref a1)] 1)) (T7.setTop (mkF m 16 #[rv a1] [(.int (16 : Int32)), (.ref a1)])) := fun t k => P8 t (by
    show Steps p.tables e below (T7.setTop (mkF m 13 #[rv a1] [])) t
    refine XS.aloadN X7.here hx rfl (hb hby d1_13) rfl rfl ?_
    refine XS.bipush X7.here hx rfl (hb hby d1_14) ?_
    exact k)
  have f11 : n0 ≤ h7.size := (Nat.le_trans (Nat.le_trans Z0 E5.1) (Keep.of_wr W7).1)
  have f12 : Keep h0 h7 [a1] := (((Keep.refl h0 [a1]).ext E5).wr W7 (Or.inl (List.mem_of_getElem? (i := 0) rfl)))
  obtain ⟨T10, h10, k10, X10, e10, E10, A10, O10, st10⟩ := newR X7 hx hZ hown (hw _ (List.mem_of_getElem? (i := 32) rfl)) (hw _ (List.mem_of_getElem? (i := 1) rfl)) e7 (g := (mkF m 16 #[rv a1] [(.int (16 : Int32)), (.ref a1)])) rfl (hb hby d1_16) rfl (by decide) (cap := 16) (by decide) (by decide) (by decide) (by decide)
  obtain ⟨b10, g10⟩ : ∃ z, z = h7.size := ⟨_, rfl⟩
  rw [← g10] at A10 st10
  have g_b10 : n0 ≤ b10 := Nat.le_trans f11 (Nat.le_of_eq g10.symm)
  have sz_b10 : h0.size ≤ b10 := Nat.le_trans f12.1 (Nat.le_of_eq g10.symm)
  have ne_a1_b10 : a1 ≠ b10 := Nat.ne_of_lt (Nat.lt_of_lt_of_le ((E1.ext E5).wr W7).lt (Nat.le_of_eq g10.symm))
  have ne_b5_b10 : b5 ≠ b10 := Nat.ne_of_lt (Nat.lt_of_lt_of_le (V5.other W7 (Ne.symm ne_a1_b5)).lt (Nat.le_of_eq g10.symm))
  have V10 : Arv Z h10 b10 k10 (.object "com/example/rideau/rideau/internal/HeldText$Piece") (16 : Int32) [.null, .null, .null, .null, .null, .null, .null, .null, .null, .null, .null, .null, .null, .null, .null, .null] .null := (Arv.new A10 (by decide)).pad (pad_rep [] .null 16)
  have P13 : Rch p e below (s₁.setTop (entryFrame m #[(.ref a1)] 1)) (T10.setTop (mkF m 19 #[rv a1] [(.ref b10), (.ref a1)])) := fun t k => P9 t (st10 t k)
  have f15 : Fld Z h10 a1 "com/example/rideau/rideau/internal/HeldText" "pieces" "[Lcom/example/rideau/rideau/internal/HeldText$Piece;" .null := (((G_pieces.ext E5).other W7 (Or.inr (slot_ne (Or.inl (hw _ (List.mem_of_getElem? (i := 34) rfl))) (Or.inl (hw _ (List.mem_of_getElem? (i := 31) rfl))) (by decide) (t := (.array (.object "com/example/rideau/rideau/internal/HeldText$Piece"))) (t' := (.array .char)) (by decide) (by decide)))).ext E10)
  obtain ⟨T14, h14, X14, e14, W14, st14⟩ := putF X10 hx hZ hown (host := "") (Or.inl (hw _ (List.mem_of_getElem? (i := 33) rfl))) Via.refl e10 f15 (((E1.ext E5).wr W7).ext E10) (Or.inl (hw _ (List.mem_of_getElem? (i := 34) rfl))) (hw _ (List.mem_of_getElem? (i := 22) rfl)) (ty := (.array (.object "com/example/rideau/rideau/internal/HeldText$Piece"))) (by decide) rfl rfl (g := (mkF m 19 #[rv a1] [(.ref b10), (.ref a1)])) rfl rfl (hb hby d1_19)
  have Fw14 := f15.same W14
  have P16 : Rch p e below (s₁.setTop (entryFrame m #[(.ref a1)] 1)) (T14.setTop (mkF m 22 #[rv a1] [])) := fun t k => P13 t (st14 t k)
  have N14 := Fr.snoc X14 N7 g1
  have P17 : Rch p e below (s₁.setTop (entryFrame m #[(.ref a1)] 1)) (T14.setTop (mkF m 25 #[rv a1] [(.int (16 : Int32)), (.ref a1)])) := fun t k => P16 t (by
    show Steps p.tables e below (T14.setTop (mkF m 22 #[rv a1] [])) t
    refine XS.aloadN X14.here hx rfl (hb hby d1_22) rfl rfl ?_
    refine XS.bipush X14.here hx rfl (hb hby d1_23) ?_
    exact k)
  have f19 : Arv Z h14 b5 k5 .char (256 : Int32) [] (.int (0 : Int32)) := (((V5.other W7 (Ne.symm ne_a1_b5)).ext E10).other W14 (Ne.symm ne_a1_b5))
  have f20 : n0 ≤ h14.size := (Nat.le_trans (Nat.le_trans f11 E10.1) (Keep.of_wr W14).1)
  have f21 : Keep h0 h14 [a1] := ((f12.ext E10).wr W14 (Or.inl (List.mem_of_getElem? (i := 0) rfl)))
  obtain ⟨T18, h18, k18, X18, e18, E18, A18, st18⟩ := newP X14 hx hZ (hw _ (List.mem_of_getElem? (i := 35) rfl)) e14 (g := (mkF m 25 #[rv a1] [(.int (16 : Int32)), (.ref a1)])) rfl (hb hby d1_25) rfl (by decide) (cap := 16) (by decide) (by decide) (by decide) (by decide)
  obtain ⟨b18, g18⟩ : ∃ z, z = h14.size := ⟨_, rfl⟩
  rw [← g18] at A18 st18
  have g_b18 : n0 ≤ b18 := Nat.le_trans f20 (Nat.le_of_eq g18.symm)
  have sz_b18 : h0.size ≤ b18 := Nat.le_trans f21.1 (Nat.le_of_eq g18.symm)
  have ne_a1_b18 : a1 ≠ b18 := Nat.ne_of_lt (Nat.lt_of_lt_of_le ((((E1.ext E5).wr W7).ext E10).wr W14).lt (Nat.le_of_eq g18.symm))
  have ne_b5_b18 : b5 ≠ b18 := Nat.ne_of_lt (Nat.lt_of_lt_of_le f19.lt (Nat.le_of_eq g18.symm))
  have ne_b10_b18 : b10 ≠ b18 := Nat.ne_of_lt (Nat.lt_of_lt_of_le (V10.other W14 (Ne.symm ne_a1_b10)).lt (Nat.le_of_eq g18.symm))
  have V18 : Arv Z h18 b18 k18 .int (16 : Int32) [(.int (0 : Int32)), (.int (0 : Int32)), (.int (0 : Int32)), (.int (0 : Int32)), (.int (0 : Int32)), (.int (0 : Int32)), (.int (0 : Int32)), (.int (0 : Int32)), (.int (0 : Int32)), (.int (0 : Int32)), (.int (0 : Int32)), (.int (0 : Int32)), (.int (0 : Int32)), (.int (0 : Int32)), (.int (0 : Int32)), (.int (0 : Int32))] (.int (0 : Int32)) := (Arv.new A18 (by decide)).pad (pad_rep [] (.int (0 : Int32)) 16)
  have P22 : Rch p e below (s₁.setTop (entryFrame m #[(.ref a1)] 1)) (T18.setTop (mkF m 27 #[rv a1] [(.ref b18), (.ref a1)])) := fun t k => P17 t (st18 t k)
  have f24 : Fld Z h18 a1 "com/example/rideau/rideau/internal/HeldText" "ends" "[I" .null := (((((G_ends.ext E5).other W7 (Or.inr (slot_ne (Or.inl (hw _ (List.mem_of_getElem? (i := 37) rfl))) (Or.inl (hw _ (List.mem_of_getElem? (i := 31) rfl))) (by decide) (t := (.array .int)) (t' := (.array .char)) (by decide) (by decide)))).ext E10).other W14 (Or.inr (slot_ne (Or.inl (hw _ (List.mem_of_getElem? (i := 37) rfl))) (Or.inl (hw _ (List.mem_of_getElem? (i := 34) rfl))) (by decide) (t := (.array .int)) (t' := (.array (.object "com/example/rideau/rideau/internal/HeldText$Piece"))) (by decide) (by decide)))).ext E18)
  obtain ⟨T23, h23, X23, e23, W23, st23⟩ := putF X18 hx hZ hown (host := "") (Or.inl (hw _ (List.mem_of_getElem? (i := 36) rfl))) Via.refl e18 f24 (((((E1.ext E5).wr W7).ext E10).wr W14).ext E18) (Or.inl (hw _ (List.mem_of_getElem? (i := 37) rfl))) (hw _ (List.mem_of_getElem? (i := 22) rfl)) (ty := (.array .int)) (by decide) rfl rfl (g := (mkF m 27 #[rv a1] [(.ref b18), (.ref a1)])) rfl rfl (hb hby d1_27)
  have Fw23 := f24.same W23
  have P25 : Rch p e below (s₁.setTop (entryFrame m #[(.ref a1)] 1)) (T23.setTop (mkF m 30 #[rv a1] [])) := fun t k => P22 t (st23 t k)
  have N23 := Fr.snoc X23 N14 g1
  have P26 : Rch p e below (s₁.setTop (entryFrame m #[(.ref a1)] 1)) (T23.setTop (mkF m 33 #[rv a1] [(.int (16 : Int32)), (.ref a1)])) := fun t k => P25 t (by
    show Steps p.tables e below (T23.setTop (mkF m 30 #[rv a1] [])) t
    refine XS.aloadN X23.here hx rfl (hb hby d1_30) rfl rfl ?_
    refine XS.bipush X23.here hx rfl (hb hby d1_31) ?_
    exact k)
  have f28 : Arv Z h23 b10 k10 (.object "com/example/rideau/rideau/internal/HeldText$Piece") (16 : Int32) [.null, .null, .null, .null, .null, .null, .null, .null, .null, .null, .null, .null, .null, .null, .null, .null] .null := (((V10.other W14 (Ne.symm ne_a1_b10)).ext E18).other W23 (Ne.symm ne_a1_b10))
  have f29 : n0 ≤ h23.size := (Nat.le_trans (Nat.le_trans f20 E18.1) (Keep.of_wr W23).1)
  have f30 : Keep h0 h23 [a1] := ((f21.ext E18).wr W23 (Or.inl (List.mem_of_getElem? (i := 0) rfl)))
  obtain ⟨T27, h27, k27, X27, e27, E27, A27, O27, st27⟩ := newR X23 hx hZ hown (hw _ (List.mem_of_getElem? (i := 38) rfl)) (hw _ (List.mem_of_getElem? (i := 39) rfl)) e23 (g := (mkF m 33 #[rv a1] [(.int (16 : Int32)), (.ref a1)])) rfl (hb hby d1_33) rfl (by decide) (cap := 16) (by decide) (by decide) (by decide) (by decide)
  obtain ⟨b27, g27⟩ : ∃ z, z = h23.size := ⟨_, rfl⟩
  rw [← g27] at A27 st27
  have g_b27 : n0 ≤ b27 := Nat.le_trans f29 (Nat.le_of_eq g27.symm)
  have sz_b27 : h0.size ≤ b27 := Nat.le_trans f30.1 (Nat.le_of_eq g27.symm)
  have ne_a1_b27 : a1 ≠ b27 := Nat.ne_of_lt (Nat.lt_of_lt_of_le ((((((E1.ext E5).wr W7).ext E10).wr W14).ext E18).wr W23).lt (Nat.le_of_eq g27.symm))
  have ne_b5_b27 : b5 ≠ b27 := Nat.ne_of_lt (Nat.lt_of_lt_of_le ((f19.ext E18).other W23 (Ne.symm ne_a1_b5)).lt (Nat.le_of_eq g27.symm))
  have ne_b10_b27 : b10 ≠ b27 := Nat.ne_of_lt (Nat.lt_of_lt_of_le f28.lt (Nat.le_of_eq g27.symm))
  have ne_b18_b27 : b18 ≠ b27 := Nat.ne_of_lt (Nat.lt_of_lt_of_le (V18.other W23 (Ne.symm ne_a1_b18)).lt (Nat.le_of_eq g27.symm))
  have V27 : Arv Z h27 b27 k27 (.object "java/lang/String") (16 : Int32) [.null, .null, .null, .null, .null, .null, .null, .null, .null, .null, .null, .null, .null, .null, .null, .null] .null := (Arv.new A27 (by decide)).pad (pad_rep [] .null 16)
  have P31 : Rch p e below (s₁.setTop (entryFrame m #[(.ref a1)] 1)) (T27.setTop (mkF m 36 #[rv a1] [(.ref b27), (.ref a1)])) := fun t k => P26 t (st27 t k)
  have f33 : Exa Z h27 a1 "com/example/rideau/rideau/internal/HeldText" := (((((((E1.ext E5).wr W7).ext E10).wr W14).ext E18).wr W23).ext E27)
  have f34 : Fld Z h27 a1 "com/example/rideau/rideau/internal/HeldText" "names" "[Ljava/lang/String;" .null := (((((((G_names.ext E5).other W7 (Or.inr (slot_ne (Or.inl (hw _ (List.mem_of_getElem? (i := 41) rfl))) (Or.inl (hw _ (List.mem_of_getElem? (i := 31) rfl))) (by decide) (t := (.array (.object "java/lang/String"))) (t' := (.array .char)) (by decide) (by decide)))).ext E10).other W14 (Or.inr (slot_ne (Or.inl (hw _ (List.mem_of_getElem? (i := 41) rfl))) (Or.inl (hw _ (List.mem_of_getElem? (i := 34) rfl))) (by decide) (t := (.array (.object "java/lang/String"))) (t' := (.array (.object "com/example/rideau/rideau/internal/HeldText$Piece"))) (by decide) (by decide)))).ext E18).other W23 (Or.inr (slot_ne (Or.inl (hw _ (List.mem_of_getElem? (i := 41) rfl))) (Or.inl (hw _ (List.mem_of_getElem? (i := 37) rfl))) (by decide) (t := (.array (.object "java/lang/String"))) (t' := (.array .int)) (by decide) (by decide)))).ext E27)
  obtain ⟨T32, h32, X32, e32, W32, st32⟩ := putF X27 hx hZ hown (host := "") (Or.inl (hw _ (List.mem_of_getElem? (i := 40) rfl))) Via.refl e27 f34 f33 (Or.inl (hw _ (List.mem_of_getElem? (i := 41) rfl))) (hw _ (List.mem_of_getElem? (i := 22) rfl)) (ty := (.array (.object "java/lang/String"))) (by decide) rfl rfl (g := (mkF m 36 #[rv a1] [(.ref b27), (.ref a1)])) rfl rfl (hb hby d1_36)
  have Fw32 := f34.same W32
  have P35 : Rch p e below (s₁.setTop (entryFrame m #[(.ref a1)] 1)) (T32.setTop (mkF m 39 #[rv a1] [])) := fun t k => P31 t (st32 t k)
  have N32 := Fr.snoc X32 N23 g1
  obtain ⟨fs, hr, hrun, hended, hW, hsame⟩ := X32.leave (v := none) (fun _ => rfl)
  refine ⟨_, _, P35 _ ?_, hrun, hended, _, _, rfl, ?_, ⟨_, rfl⟩, hW, hsame.mono (by decide) (by decide)⟩
  · exact X32.returnOut hx Bd.returns (hb hby d1_39) hr
  · show Q_rmI Z a1 h0 n0 _ T32.heap _
    rw [e32]
    have f36 : Fld Z h32 a1 "com/example/rideau/rideau/internal/HeldText" "chars" "[C" (.ref b5) := ((((((Fw7.ext E10).other W14 (Or.inr (slot_ne (Or.inl (hw _ (List.mem_of_getElem? (i := 31) rfl))) (Or.inl (hw _ (List.mem_of_getElem? (i := 34) rfl))) (by decide) (t := (.array .char)) (t' := (.array (.object "com/example/rideau/rideau/internal/HeldText$Piece"))) (by decide) (by decide)))).ext E18).other W23 (Or.inr (slot_ne (Or.inl (hw _ (List.mem_of_getElem? (i := 31) rfl))) (Or.inl (hw _ (List.mem_of_getElem? (i := 37) rfl))) (by decide) (t := (.array .char)) (t' := (.array .int)) (by decide) (by decide)))).ext E27).other W32 (Or.inr (slot_ne (Or.inl (hw _ (List.mem_of_getElem? (i := 31) rfl))) (Or.inl (hw _ (List.mem_of_getElem? (i := 41) rfl))) (by decide) (t := (.array .char)) (t' := (.array (.object "java/lang/String"))) (by decide) (by decide))))
    have f37 : Fld Z h32 a1 "com/example/rideau/rideau/internal/HeldText" "pieces" "[Lcom/example/rideau/rideau/internal/HeldText$Piece;" (.ref b10) := ((((Fw14.ext E18).other W23 (Or.inr (slot_ne (Or.inl (hw _ (List.mem_of_getElem? (i := 34) rfl))) (Or.inl (hw _ (List.mem_of_getElem? (i := 37) rfl))) (by decide) (t := (.array (.object "com/example/rideau/rideau/internal/HeldText$Piece"))) (t' := (.array .int)) (by decide) (by decide)))).ext E27).other W32 (Or.inr (slot_ne (Or.inl (hw _ (List.mem_of_getElem? (i := 34) rfl))) (Or.inl (hw _ (List.mem_of_getElem? (i := 41) rfl))) (by decide) (t := (.array (.object "com/example/rideau/rideau/internal/HeldText$Piece"))) (t' := (.array (.object "java/lang/String"))) (by decide) (by decide))))
    have f38 : Fld Z h32 a1 "com/example/rideau/rideau/internal/HeldText" "ends" "[I" (.ref b18) := ((Fw23.ext E27).other W32 (Or.inr (slot_ne (Or.inl (hw _ (List.mem_of_getElem? (i := 37) rfl))) (Or.inl (hw _ (List.mem_of_getElem? (i := 41) rfl))) (by decide) (t := (.array .int)) (t' := (.array (.object "java/lang/String"))) (by decide) (by decide))))
    have f39 : Arv Z h32 b5 k5 .char (256 : Int32) [] (.int (0 : Int32)) := ((((f19.ext E18).other W23 (Ne.symm ne_a1_b5)).ext E27).other W32 (Ne.symm ne_a1_b5))
    have f40 : Arv Z h32 b18 k18 .int (16 : Int32) [(.int (0 : Int32)), (.int (0 : Int32)), (.int (0 : Int32)), (.int (0 : Int32)), (.int (0 : Int32)), (.int (0 : Int32)), (.int (0 : Int32)), (.int (0 : Int32)), (.int (0 : Int32)), (.int (0 : Int32)), (.int (0 : Int32)), (.int (0 : Int32)), (.int (0 : Int32)), (.int (0 : Int32)), (.int (0 : Int32)), (.int (0 : Int32))] (.int (0 : Int32)) := (((V18.other W23 (Ne.symm ne_a1_b18)).ext E27).other W32 (Ne.symm ne_a1_b18))
    have f41 : Keep h0 h32 [a1] := ((f30.ext E27).wr W32 (Or.inl (List.mem_of_getElem? (i := 0) rfl)))
    have f42 : Fld Z h32 a1 "com/example/rideau/rideau/internal/HeldText" "size" "I" (.int (0 : Int32)) := ((((((((G_s.ext E5).other W7 (Or.inr (slot_ne (Or.inl (hw _ (List.mem_of_getElem? (i := 48) rfl))) (Or.inl (hw _ (List.mem_of_getElem? (i := 31) rfl))) (by decide) (t := .int) (t' := (.array .char)) (by decide) (by decide)))).ext E10).other W14 (Or.inr (slot_ne (Or.inl (hw _ (List.mem_of_getElem? (i := 48) rfl))) (Or.inl (hw _ (List.mem_of_getElem? (i := 34) rfl))) (by decide) (t := .int) (t' := (.array (.object "com/example/rideau/rideau/internal/HeldText$Piece"))) (by decide) (by decide)))).ext E18).other W23 (Or.inr (slot_ne (Or.inl (hw _ (List.mem_of_getElem? (i := 48) rfl))) (Or.inl (hw _ (List.mem_of_getElem? (i := 37) rfl))) (by decide) (t := .int) (t' := (.array .int)) (by decide) (by decide)))).ext E27).other W32 (Or.inr (slot_ne (Or.inl (hw _ (List.mem_of_getElem? (i := 48) rfl))) (Or.inl (hw _ (List.mem_of_getElem? (i := 41) rfl))) (by decide) (t := .int) (t' := (.array (.object "java/lang/String"))) (by decide) (by decide))))
    have f43 : Fld Z h32 a1 "com/example/rideau/rideau/internal/HeldText" "length" "I" (.int (0 : Int32)) := ((((((((G_l.ext E5).other W7 (Or.inr (slot_ne (Or.inl (hw _ (List.mem_of_getElem? (i := 55) rfl))) (Or.inl (hw _ (List.mem_of_getElem? (i := 31) rfl))) (by decide) (t := .int) (t' := (.array .char)) (by decide) (by decide)))).ext E10).other W14 (Or.inr (slot_ne (Or.inl (hw _ (List.mem_of_getElem? (i := 55) rfl))) (Or.inl (hw _ (List.mem_of_getElem? (i := 34) rfl))) (by decide) (t := .int) (t' := (.array (.object "com/example/rideau/rideau/internal/HeldText$Piece"))) (by decide) (by decide)))).ext E18).other W23 (Or.inr (slot_ne (Or.inl (hw _ (List.mem_of_getElem? (i := 55) rfl))) (Or.inl (hw _ (List.mem_of_getElem? (i := 37) rfl))) (by decide) (t := .int) (t' := (.array .int)) (by decide) (by decide)))).ext E27).other W32 (Or.inr (slot_ne (Or.inl (hw _ (List.mem_of_getElem? (i := 55) rfl))) (Or.inl (hw _ (List.mem_of_getElem? (i := 41) rfl))) (by decide) (t := .int) (t' := (.array (.object "java/lang/String"))) (by decide) (by decide))))
    exact ⟨b5, b10, b18, b27, k5, k10, k18, k27, [], [.null, .null, .null, .null, .null, .null, .null, .null, .null, .null, .null, .null, .null, .null, .null, .null], [(.int (0 : Int32)), (.int (0 : Int32)), (.int (0 : Int32)), (.int (0 : Int32)), (.int (0 : Int32)), (.int (0 : Int32)), (.int (0 : Int32)), (.int (0 : Int32)), (.int (0 : Int32)), (.int (0 : Int32)), (.int (0 : Int32)), (.int (0 : Int32)), (.int (0 : Int32)), (.int (0 : Int32)), (.int (0 : Int32)), (.int (0 : Int32))], [.null, .null, .null, .null, .null, .null, .null, .null, .null, .null, .null, .null, .null, .null, .null, .null], rfl, N32, f41, sz_b5, sz_b10, sz_b18, sz_b27, (f33.wr W32), f36, f37, f38, Fw32, f42, f43, f39, ((f28.ext E27).other W32 (Ne.symm ne_a1_b10)), f40, (V27.other W32 (Ne.symm ne_a1_b27)), ne_b5_b10, ne_b5_b18, ne_b5_b27, ne_b10_b18, ne_b10_b27, ne_b18_b27, O10, O27, rfl, rfl, rfl⟩
def own_ie (sz : Int32) : Int32 := (if sz = (0 : Int32) then (1 : Int32) else (0 : Int32))
def Q_rmE (Z : State) (a1 : Addr) (sz : Int32) (h0 : Heap) (n0 : Nat) (v : Option Value) (h : Heap) (L : List Loc) : Prop := v = some (.int (own_ie sz)) ∧ Fr n0 L ∧ h = h0
set_option maxRecDepth 65536 in
set_option maxHeartbeats 40000000 in
theorem rmE (l : Launch) (Z : State) (a0 : Array Value) (hw : ∀ d ∈ tables_1, d.before a0 Z = true) (ws : List Jvm.Cond) (a1 : Addr) (sz : Int32) (h0 : Heap) (n0 : Nat) (Z0 : n0 ≤ h0.size) (F1 : Fld Z h0 a1 "com/example/rideau/rideau/internal/HeldText" "size" "I" (.int sz)) :
    MetFree l (⟨"com/example/rideau/rideau/internal/HeldText", "isEmpty", "()Z"⟩ : MethodName) (head1 (Jvm.Cond.code (⟨"com/example/rideau/rideau/internal/HeldText", "isEmpty", "()Z"⟩ : MethodName) prog_17_method_2_code 1 (some .boolean) :: ws) ({ frames := 0, cells := 0, slots := 0, locals := 0 } : Room)) (fun a U => a = #[(.ref a1)] ∧ Z.Warmed39 U.vm ∧ U.heap = h0) (fun _ _ _ _ _ => True) (fun _ U o U' => ∃ v L, o = .returned v ∧ Q_rmE Z a1 sz h0 n0 v U'.heap L ∧ FrameEnd U o U' L ({ frames := 0, cells := 0, slots := 0, locals := 0 } : Room).cells ({ frames := 0, cells := 0, slots := 0, locals := 0 } : Room).slots) := by
  refine MetFree.of_bodySF (plainFor_of_name pn_0) hisR ?_
  intro p e s m args below meth c s₁ Bd hml0 hP hK
  obtain ⟨rfl, hZ, hh⟩ := hP
  have hx := Bd.exec
  have hby := Bd.bytes
  have hml : c.maxLocals = 1 := hml0
  have hown : s.vm.findClass "com/example/rideau/rideau/internal/HeldText" = some m.cls := findClass_of_methodNamed Bd.named
  have hnm := (name_of_methodNamed Bd.named Bd.method).1
  have X0 : Stand p l e ({ frames := 0, cells := 0, slots := 0, locals := 0 } : Room) s m #[(.ref a1)] below meth c s₁ [] 0 0 := Stand.of_body Bd
  have e0 : s₁.heap = h0 := by rw [← hh, Bd.state]; rfl
  have N0 := Fr.nil n0
  have P0 : Rch p e below (s₁.setTop (entryFrame m #[(.ref a1)] 1)) (s₁.setTop (mkF m 0 #[rv a1] [])) := fun t k => castTop (by first | (simp [entryFrame, mkF, argsToLocals, Value.category]; done) | rfl) k
  have P1 : Rch p e below (s₁.setTop (entryFrame m #[(.ref a1)] 1)) (s₁.setTop (mkF m 1 #[rv a1] [(.ref a1)])) := fun t k => P0 t (by
    show Steps p.tables e below (s₁.setTop (mkF m 0 #[rv a1] [])) t
    refine XS.aloadN X0.here hx rfl (hb hby d3_0) rfl rfl ?_
    exact k)
  obtain ⟨T2, X2, e2, st2⟩ := getF X0 hx hZ hown (host := "") (Or.inl (hw _ (List.mem_of_getElem? (i := 47) rfl))) Via.refl e0 F1 (g := (mkF m 1 #[rv a1] [(.ref a1)])) rfl rfl (hb hby d3_1)
  have P3 : Rch p e below (s₁.setTop (entryFrame m #[(.ref a1)] 1)) (T2.setTop (mkF m 4 #[rv a1] [(.int sz)])) := fun t k => P1 t (st2 t k)
  obtain ⟨v5, hv5, P6⟩ : ∃ (v5 : Int32), v5 = (if sz = (0 : Int32) then (1 : Int32) else (0 : Int32)) ∧ Rch p e below (s₁.setTop (entryFrame m #[(.ref a1)] 1)) (T2.setTop (mkF m 12 #[rv a1] [(.int v5)])) := by
    by_cases c4 : sz = (0 : Int32)
    · refine ⟨(1 : Int32), (by first | rw [if_pos c4] | simp only [if_pos c4] | rfl), fun t k => P3 t ?_⟩
      show Steps p.tables e below (T2.setTop (mkF m 4 #[rv a1] [(.int sz)])) t
      refine XS.ifNo X2.here hx rfl (hb hby d3_4) rfl ((if0 _ _).trans (teq c4).2) ?_
      refine XS.iconst X2.here hx rfl (hb hby d3_7) ?_
      refine XS.goto X2.here hx rfl (pc0 := 8) (pc' := 12) rfl (hb hby d3_8) (by decide) (by decide) ?_
      exact k
    · refine ⟨(0 : Int32), (by first | rw [if_neg c4] | simp only [if_neg c4] | rfl), fun t k => P3 t ?_⟩
      show Steps p.tables e below (T2.setTop (mkF m 4 #[rv a1] [(.int sz)])) t
      refine XS.ifYes X2.here hx rfl (pc0 := 4) (pc' := 11) rfl (hb hby d3_4) rfl ((if0 _ _).trans (feq c4).2) (by decide) (by decide) ?_
      refine XS.iconst X2.here hx rfl (hb hby d3_11) ?_
      exact k
  have hz7 : nar .boolean v5 = v5 := by rw [hv5]; (repeat' split) <;> rfl
  obtain ⟨fs, hr, hrun, hended, hW, hsame⟩ := X2.leave (v := some (.int (nar .boolean v5))) (fun h => by rw [Bd.returns] at h; cases h)
  refine ⟨_, _, P6 _ ?_, hrun, hended, _, _, rfl, ?_, ⟨_, rfl⟩, hW, hsame.mono (by decide) (by decide)⟩
  · exact retN X2 hx (t := .boolean) Bd.returns (by simp) (hb hby d3_12) hr
  · show Q_rmE Z a1 sz h0 n0 _ T2.heap _
    rw [e2]
    exact ⟨(by rw [hz7]; unfold own_ie; subst hv5; first | rfl | rw [] | simp only [] | simp [*]), N0, rfl⟩
def own_mx (p1 : Int32) (p2 : Int32) : Int32 := (if p1 < p2 then p2 else p1)
def Q_rmMx (Z : State) (p1 : Int32) (p2 : Int32) (h0 : Heap) (n0 : Nat) (v : Option Value) (h : Heap) (L : List Loc) : Prop := v = some (.int (own_mx p1 p2)) ∧ Fr n0 L ∧ h = h0
set_option maxRecDepth 65536 in
set_option maxHeartbeats 40000000 in
theorem rmMx (l : Launch) (Z : State) (a0 : Array Value) (hw : ∀ d ∈ tables_1, d.before a0 Z = true) (ws : List Jvm.Cond) (p1 : Int32) (p2 : Int32) (h0 : Heap) (n0 : Nat) (Z0 : n0 ≤ h0.size) :
    MetFree l (⟨"java/lang/Math", "max", "(II)I"⟩ : MethodName) (head1 (Jvm.Cond.code (⟨"java/lang/Math", "max", "(II)I"⟩ : MethodName) jdk_29_method_65_code 2 (some .int) :: ws) ({ frames := 0, cells := 0, slots := 0, locals := 0 } : Room)) (fun a U => a = #[(.int p1), (.int p2)] ∧ Z.Warmed39 U.vm ∧ U.heap = h0) (fun _ _ _ _ _ => True) (fun _ U o U' => ∃ v L, o = .returned v ∧ Q_rmMx Z p1 p2 h0 n0 v U'.heap L ∧ FrameEnd U o U' L ({ frames := 0, cells := 0, slots := 0, locals := 0 } : Room).cells ({ frames := 0, cells := 0, slots := 0, locals := 0 } : Room).slots) := by
  refine MetFree.of_bodySF (Jvm.Free.JP.mathPlain rfl (by decide +kernel)) hisR ?_
  intro p e s m args below meth c s₁ Bd hml0 hP hK
  obtain ⟨rfl, hZ, hh⟩ := hP
  have hx := Bd.exec
  have hby := Bd.bytes
  have hml : c.maxLocals = 2 := hml0
  have hown : s.vm.findClass "java/lang/Math" = some m.cls := findClass_of_methodNamed Bd.named
  have hnm := (name_of_methodNamed Bd.named Bd.method).1
  have X0 : Stand p l e ({ frames := 0, cells := 0, slots := 0, locals := 0 } : Room) s m #[(.int p1), (.int p2)] below meth c s₁ [] 0 0 := Stand.of_body Bd
  have e0 : s₁.heap = h0 := by rw [← hh, Bd.state]; rfl
  have N0 := Fr.nil n0
  have P0 : Rch p e below (s₁.setTop (entryFrame m #[(.int p1), (.int p2)] 2)) (s₁.setTop (mkF m 0 #[iv p1, iv p2] [])) := fun t k => castTop (by first | (simp [entryFrame, mkF, argsToLocals, Value.category]; done) | rfl) k
  have P1 : Rch p e below (s₁.setTop (entryFrame m #[(.int p1), (.int p2)] 2)) (s₁.setTop (mkF m 2 #[iv p1, iv p2] [(.int p2), (.int p1)])) := fun t k => P0 t (by
    show Steps p.tables e below (s₁.setTop (mkF m 0 #[iv p1, iv p2] [])) t
    refine XS.iloadN X0.here hx rfl (hb hby d7_0) rfl ?_
    refine XS.iloadN X0.here hx rfl (hb hby d7_1) rfl ?_
    exact k)
  obtain ⟨v3, hv3, P4⟩ : ∃ (v3 : Int32), v3 = (if p1 < p2 then p2 else p1) ∧ Rch p e below (s₁.setTop (entryFrame m #[(.int p1), (.int p2)] 2)) (s₁.setTop (mkF m 10 #[iv p1, iv p2] [(.int v3)])) := by
    by_cases c2 : p1 < p2
    · refine ⟨p2, (by first | rw [if_pos c2] | simp only [if_pos c2] | rfl), fun t k => P1 t ?_⟩
      show Steps p.tables e below (s₁.setTop (mkF m 2 #[iv p1, iv p2] [(.int p2), (.int p1)])) t
      refine XS.icmpYes X0.here hx rfl (pc0 := 2) (pc' := 9) rfl (hb hby d7_2) rfl (tlt c2).1 (by decide) (by decide) ?_
      refine XS.iloadN X0.here hx rfl (hb hby d7_9) rfl ?_
      exact k
    · refine ⟨p1, (by first | rw [if_neg c2] | simp only [if_neg c2] | rfl), fun t k => P1 t ?_⟩
      show Steps p.tables e below (s₁.setTop (mkF m 2 #[iv p1, iv p2] [(.int p2), (.int p1)])) t
      refine XS.icmpNo X0.here hx rfl (hb hby d7_2) rfl (flt c2).1 ?_
      refine XS.iloadN X0.here hx rfl (hb hby d7_5) rfl ?_
      refine XS.goto X0.here hx rfl (pc0 := 6) (pc' := 10) rfl (hb hby d7_6) (by decide) (by decide) ?_
      exact k
  obtain ⟨fs, hr, hrun, hended, hW, hsame⟩ := X0.leave (v := some (.int v3)) (fun h => by rw [Bd.returns] at h; cases h)
  refine ⟨_, _, P4 _ ?_, hrun, hended, _, _, rfl, ?_, ⟨_, rfl⟩, hW, hsame.mono (by decide) (by decide)⟩
  · exact retI X0 hx Bd.returns (hb hby d7_10) hr
  · show Q_rmMx Z p1 p2 h0 n0 _ s₁.heap _
    rw [e0]
    exact ⟨(by unfold own_mx; subst hv3; first | rfl | rw [] | simp only [] | simp [*]), N0, rfl⟩
def own_mn (p1 : Int32) (p2 : Int32) : Int32 := (if p2 < p1 then p2 else p1)
def Q_rmMn (Z : State) (p1 : Int32) (p2 : Int32) (h0 : Heap) (n0 : Nat) (v : Option Value) (h : Heap) (L : List Loc) : Prop := v = some (.int (own_mn p1 p2)) ∧ Fr n0 L ∧ h = h0
set_option maxRecDepth 65536 in
set_option maxHeartbeats 40000000 in
theorem rmMn (l : Launch) (Z : State) (a0 : Array Value) (hw : ∀ d ∈ tables_1, d.before a0 Z = true) (ws : List Jvm.Cond) (p1 : Int32) (p2 : Int32) (h0 : Heap) (n0 : Nat) (Z0 : n0 ≤ h0.size) :
    MetFree l (⟨"java/lang/Math", "min", "(II)I"⟩ : MethodName) (head1 (Jvm.Cond.code (⟨"java/lang/Math", "min", "(II)I"⟩ : MethodName) jdk_29_method_69_code 2 (some .int) :: ws) ({ frames := 0, cells := 0, slots := 0, locals := 0 } : Room)) (fun a U => a = #[(.int p1), (.int p2)] ∧ Z.Warmed39 U.vm ∧ U.heap = h0) (fun _ _ _ _ _ => True) (fun _ U o U' => ∃ v L, o = .returned v ∧ Q_rmMn Z p1 p2 h0 n0 v U'.heap L ∧ FrameEnd U o U' L ({ frames := 0, cells := 0, slots := 0, locals := 0 } : Room).cells ({ frames := 0, cells := 0, slots := 0, locals := 0 } : Room).slots) := by
  refine MetFree.of_bodySF (Jvm.Free.JP.mathPlain rfl (by decide +kernel)) hisR ?_
  intro p e s m args below meth c s₁ Bd hml0 hP hK
  obtain ⟨rfl, hZ, hh⟩ := hP
  have hx := Bd.exec
  have hby := Bd.bytes
  have hml : c.maxLocals = 2 := hml0
  have hown : s.vm.findClass "java/lang/Math" = some m.cls := findClass_of_methodNamed Bd.named
  have hnm := (name_of_methodNamed Bd.named Bd.method).1
  have X0 : Stand p l e ({ frames := 0, cells := 0, slots := 0, locals := 0 } : Room) s m #[(.int p1), (.int p2)] below meth c s₁ [] 0 0 := Stand.of_body Bd
  have e0 : s₁.heap = h0 := by rw [← hh, Bd.state]; rfl
  have N0 := Fr.nil n0
  have P0 : Rch p e below (s₁.setTop (entryFrame m #[(.int p1), (.int p2)] 2)) (s₁.setTop (mkF m 0 #[iv p1, iv p2] [])) := fun t k => castTop (by first | (simp [entryFrame, mkF, argsToLocals, Value.category]; done) | rfl) k
  have P1 : Rch p e below (s₁.setTop (entryFrame m #[(.int p1), (.int p2)] 2)) (s₁.setTop (mkF m 2 #[iv p1, iv p2] [(.int p2), (.int p1)])) := fun t k => P0 t (by
    show Steps p.tables e below (s₁.setTop (mkF m 0 #[iv p1, iv p2] [])) t
    refine XS.iloadN X0.here hx rfl (hb hby d9_0) rfl ?_
    refine XS.iloadN X0.here hx rfl (hb hby d9_1) rfl ?_
    exact k)
  obtain ⟨v3, hv3, P4⟩ : ∃ (v3 : Int32), v3 = (if p2 < p1 then p2 else p1) ∧ Rch p e below (s₁.setTop (entryFrame m #[(.int p1), (.int p2)] 2)) (s₁.setTop (mkF m 10 #[iv p1, iv p2] [(.int v3)])) := by
    by_cases c2 : p2 < p1
    · refine ⟨p2, (by first | rw [if_pos c2] | simp only [if_pos c2] | rfl), fun t k => P1 t ?_⟩
      show Steps p.tables e below (s₁.setTop (mkF m 2 #[iv p1, iv p2] [(.int p2), (.int p1)])) t
      refine XS.icmpYes X0.here hx rfl (pc0 := 2) (pc' := 9) rfl (hb hby d9_2) rfl (tlt c2).2.2.1 (by decide) (by decide) ?_
      refine XS.iloadN X0.here hx rfl (hb hby d9_9) rfl ?_
      exact k
    · refine ⟨p1, (by first | rw [if_neg c2] | simp only [if_neg c2] | rfl), fun t k => P1 t ?_⟩
      show Steps p.tables e below (s₁.setTop (mkF m 2 #[iv p1, iv p2] [(.int p2), (.int p1)])) t
      refine XS.icmpNo X0.here hx rfl (hb hby d9_2) rfl (flt c2).2.2.1 ?_
      refine XS.iloadN X0.here hx rfl (hb hby d9_5) rfl ?_
      refine XS.goto X0.here hx rfl (pc0 := 6) (pc' := 10) rfl (hb hby d9_6) (by decide) (by decide) ?_
      exact k
  obtain ⟨fs, hr, hrun, hended, hW, hsame⟩ := X0.leave (v := some (.int v3)) (fun h => by rw [Bd.returns] at h; cases h)
  refine ⟨_, _, P4 _ ?_, hrun, hended, _, _, rfl, ?_, ⟨_, rfl⟩, hW, hsame.mono (by decide) (by decide)⟩
  · exact retI X0 hx Bd.returns (hb hby d9_10) hr
  · show Q_rmMn Z p1 p2 h0 n0 _ s₁.heap _
    rw [e0]
    exact ⟨(by unfold own_mn; subst hv3; first | rfl | rw [] | simp only [] | simp [*]), N0, rfl⟩
def own_ce (p1 : Int32) : Int32 := (if (255 : Int32) < p1 then (0 : Int32) else (1 : Int32))
def Q_rmCe (Z : State) (p1 : Int32) (h0 : Heap) (n0 : Nat) (v : Option Value) (h : Heap) (L : List Loc) : Prop := v = some (.int (own_ce p1)) ∧ Fr n0 L ∧ h = h0
set_option maxRecDepth 65536 in
set_option maxHeartbeats 40000000 in
theorem rmCe (l : Launch) (Z : State) (a0 : Array Value) (hw : ∀ d ∈ tables_1, d.before a0 Z = true) (ws : List Jvm.Cond) (p1 : Int32) (h0 : Heap) (n0 : Nat) (Z0 : n0 ≤ h0.size) :
    MetFree l (⟨"java/lang/StringLatin1", "canEncode", "(C)Z"⟩ : MethodName) (head1 (Jvm.Cond.code (⟨"java/lang/StringLatin1", "canEncode", "(C)Z"⟩ : MethodName) jdk_43_method_3_code 1 (some .boolean) :: ws) ({ frames := 0, cells := 0, slots := 0, locals := 0 } : Room)) (fun a U => a = #[(.int p1)] ∧ Z.Warmed39 U.vm ∧ U.heap = h0) (fun _ _ _ _ _ => True) (fun _ U o U' => ∃ v L, o = .returned v ∧ Q_rmCe Z p1 h0 n0 v U'.heap L ∧ FrameEnd U o U' L ({ frames := 0, cells := 0, slots := 0, locals := 0 } : Room).cells ({ frames := 0, cells := 0, slots := 0, locals := 0 } : Room).slots) := by
  refine MetFree.of_bodySF (plainFor_of_name pn_1) hisR ?_
  intro p e s m args below meth c s₁ Bd hml0 hP hK
  obtain ⟨rfl, hZ, hh⟩ := hP
  have hx := Bd.exec
  have hby := Bd.bytes
  have hml : c.maxLocals = 1 := hml0
  have hown : s.vm.findClass "java/lang/StringLatin1" = some m.cls := findClass_of_methodNamed Bd.named
  have hnm := (name_of_methodNamed Bd.named Bd.method).1
  have X0 : Stand p l e ({ frames := 0, cells := 0, slots := 0, locals := 0 } : Room) s m #[(.int p1)] below meth c s₁ [] 0 0 := Stand.of_body Bd
  have e0 : s₁.heap = h0 := by rw [← hh, Bd.state]; rfl
  have N0 := Fr.nil n0
  have P0 : Rch p e below (s₁.setTop (entryFrame m #[(.int p1)] 1)) (s₁.setTop (mkF m 0 #[iv p1] [])) := fun t k => castTop (by first | (simp [entryFrame, mkF, argsToLocals, Value.category]; done) | rfl) k
  have P1 : Rch p e below (s₁.setTop (entryFrame m #[(.int p1)] 1)) (s₁.setTop (mkF m 4 #[iv p1] [(.int (255 : Int32)), (.int p1)])) := fun t k => P0 t (by
    show Steps p.tables e below (s₁.setTop (mkF m 0 #[iv p1] [])) t
    refine XS.iloadN X0.here hx rfl (hb hby d11_0) rfl ?_
    refine XS.sipush X0.here hx rfl (hb hby d11_1) ?_
    exact k)
  obtain ⟨v3, hv3, P4⟩ : ∃ (v3 : Int32), v3 = (if (255 : Int32) < p1 then (0 : Int32) else (1 : Int32)) ∧ Rch p e below (s₁.setTop (entryFrame m #[(.int p1)] 1)) (s₁.setTop (mkF m 12 #[iv p1] [(.int v3)])) := by
    by_cases c2 : (255 : Int32) < p1
    · refine ⟨(0 : Int32), (by first | rw [if_pos c2] | simp only [if_pos c2] | rfl), fun t k => P1 t ?_⟩
      show Steps p.tables e below (s₁.setTop (mkF m 4 #[iv p1] [(.int (255 : Int32)), (.int p1)])) t
      refine XS.icmpYes X0.here hx rfl (pc0 := 4) (pc' := 11) rfl (hb hby d11_4) rfl (tlt c2).2.2.1 (by decide) (by decide) ?_
      refine XS.iconst X0.here hx rfl (hb hby d11_11) ?_
      exact k
    · refine ⟨(1 : Int32), (by first | rw [if_neg c2] | simp only [if_neg c2] | rfl), fun t k => P1 t ?_⟩
      show Steps p.tables e below (s₁.setTop (mkF m 4 #[iv p1] [(.int (255 : Int32)), (.int p1)])) t
      refine XS.icmpNo X0.here hx rfl (hb hby d11_4) rfl (flt c2).2.2.1 ?_
      refine XS.iconst X0.here hx rfl (hb hby d11_7) ?_
      refine XS.goto X0.here hx rfl (pc0 := 8) (pc' := 12) rfl (hb hby d11_8) (by decide) (by decide) ?_
      exact k
  have hz5 : nar .boolean v3 = v3 := by rw [hv3]; (repeat' split) <;> rfl
  obtain ⟨fs, hr, hrun, hended, hW, hsame⟩ := X0.leave (v := some (.int (nar .boolean v3))) (fun h => by rw [Bd.returns] at h; cases h)
  refine ⟨_, _, P4 _ ?_, hrun, hended, _, _, rfl, ?_, ⟨_, rfl⟩, hW, hsame.mono (by decide) (by decide)⟩
  · exact retN X0 hx (t := .boolean) Bd.returns (by simp) (hb hby d11_12) hr
  · show Q_rmCe Z p1 h0 n0 _ s₁.heap _
    rw [e0]
    exact ⟨(by rw [hz5]; unfold own_ce; subst hv3; first | rfl | rw [] | simp only [] | simp [*]), N0, rfl⟩
theorem own_in {x : Int32} (h : 0 ≤ x.toInt ∧ x.toInt < 16) : ¬ x < 0 ∧ x < (16 : Int32) := by
  rw [Int32.lt_iff_toInt_lt, Int32.lt_iff_toInt_lt]
  have e0 : (0 : Int32).toInt = 0 := rfl
  have e1 : (16 : Int32).toInt = 16 := rfl
  omega
theorem own_n16 {x : Int32} (h : 0 ≤ x.toInt ∧ x.toInt < 16) : ¬ x = (16 : Int32) := by
  rintro rfl; exact absurd h.2 (by decide)
theorem own_ltl {x : Int32} {vs : List Value} (h : 0 ≤ x.toInt ∧ x.toInt < 16) (hl : vs.length = 16) : (x).toNatClampNeg < vs.length := by
  rw [hl]; simp only [Int32.toNatClampNeg]; omega
theorem own_inc {x : Int32} (h : 0 ≤ x.toInt ∧ x.toInt < 16) : (x + (1 : Int32)).toInt = x.toInt + 1 := by
  have a := c_iadd x 1; have r := rng32 (x + 1); have e : (1 : Int32).toInt = 1 := rfl
  omega
theorem own_full {Z : State} {h : Heap} {a : Addr} {k : ClassId} {ty : FieldType} {z : Int32} {vs : List Value} {d : Value} (V : Arv Z h a k ty z vs d) : ∃ vf : List Value, vf.length = z.toNatClampNeg ∧ Arv Z h a k ty z vf d := by
  obtain ⟨c, A, q, S, M, H, G⟩ := V
  refine ⟨c.slots.toList, by rw [Array.length_toList, S], c, A, q, S, M, ?_, ?_⟩
  · intro i hi
    rw [List.getD_eq_getElem?_getD, Array.getElem?_toList, H i hi]; rfl
  · intro i hi
    have := G i hi
    rw [List.getD_eq_getElem?_getD, Array.getElem?_toList, H i hi]; exact this
theorem own_ref {Z : State} {h : Heap} {a : Addr} {k : ClassId} {C : String} {z j : Int32} {vs : List Value} {d : Value} (V : Arv Z h a k (.object C) z vs d) (q : ¬ j < 0 ∧ j < z) : (vs.getD (j).toNatClampNeg d).isRef = true := by
  obtain ⟨c, A, _, S, M, H, G⟩ := V
  have hin := inb_of S q
  have g := G j.toNatClampNeg (Nat.lt_of_not_le fun y => hin (Or.inr y))
  revert g
  generalize vs.getD (j).toNatClampNeg d = v
  intro g
  cases v <;> first | rfl | (simp [fits] at g)
theorem own_fits {p zc x : Int32} (hp : 0 ≤ p.toInt ∧ p.toInt ≤ 2) (hz : 256 ≤ zc.toInt) (hx : x = (0 : Int32) + p) : ¬ zc < x := by
  rw [hx, Int32.zero_add, Int32.lt_iff_toInt_lt]; omega
theorem own_cb {p zc : Int32} (hp : 0 ≤ p.toInt ∧ p.toInt ≤ 2) (hz : 256 ≤ zc.toInt) : ¬ p < 0 ∧ (0 : Int32).toNatClampNeg + p.toNatClampNeg ≤ (2 : Int32).toNatClampNeg ∧ (0 : Int32).toNatClampNeg + p.toNatClampNeg ≤ zc.toNatClampNeg := by
  rw [Int32.lt_iff_toInt_lt]
  have e0 : (0 : Int32).toInt = 0 := rfl
  have e1 : (2 : Int32).toInt = 2 := rfl
  simp only [Int32.toNatClampNeg]
  omega
theorem own_bg {p : Int32} (hp : 9000 ≤ p.toInt ∧ p.toInt ≤ 9002) : ¬ p = (256 : Int32) ∧ ¬ p < 0 ∧ p.toNatClampNeg ≤ 9002 ∧ (0 : Int32).toNatClampNeg + (256 : Int32).toNatClampNeg ≤ p.toNatClampNeg := by
  have e0 : (0 : Int32).toInt = 0 := rfl
  have e1 : (256 : Int32).toInt = 256 := rfl
  refine ⟨?_, ?_, ?_, ?_⟩
  · rintro rfl; exact absurd hp.1 (by decide)
  · rw [Int32.lt_iff_toInt_lt]; omega
  · simp only [Int32.toNatClampNeg]; omega
  · simp only [Int32.toNatClampNeg]; omega
theorem own_min {p : Int32} (hp : 9000 ≤ p.toInt ∧ p.toInt ≤ 9002) : own_mn (256 : Int32) p = (256 : Int32) := by
  unfold own_mn
  have e1 : (256 : Int32).toInt = 256 := rfl
  have h1 : ¬ p < (256 : Int32) := by rw [Int32.lt_iff_toInt_lt]; omega
  first | rw [if_neg h1] | rw [if_pos (by rw [Int32.lt_iff_toInt_lt]; omega)]
theorem own_gt256 {ln : Int32} (h : 0 ≤ ln.toInt ∧ ln.toInt ≤ 2) : (256 : Int32) < ln + (9000 : Int32) := by
  rw [Int32.lt_iff_toInt_lt]
  have a := c_iadd ln 9000; have r := rng32 (ln + 9000); have e : (9000 : Int32).toInt = 9000 := rfl
  have e1 : (256 : Int32).toInt = 256 := rfl
  omega
theorem own_grow {ln : Int32} (h : 0 ≤ ln.toInt ∧ ln.toInt ≤ 2) : (own_mx (ln + (9000 : Int32)) (512 : Int32)).toInt = ln.toInt + 9000 := by
  have a := c_iadd ln 9000; have r := rng32 (ln + 9000); have e : (9000 : Int32).toInt = 9000 := rfl
  have e1 : (512 : Int32).toInt = 512 := rfl
  have h1 : ¬ (ln + (9000 : Int32)) < (512 : Int32) := by rw [Int32.lt_iff_toInt_lt]; omega
  unfold own_mx
  rw [if_neg h1]; omega
theorem own_cbB {ln z : Int32} (h : 0 ≤ ln.toInt ∧ ln.toInt ≤ 2) (hz : z.toInt = ln.toInt + 9000) : ¬ ln < 0 ∧ ln.toNatClampNeg + (9000 : Int32).toNatClampNeg ≤ z.toNatClampNeg := by
  have e0 : (0 : Int32).toInt = 0 := rfl
  have e1 : (9000 : Int32).toInt = 9000 := rfl
  rw [Int32.lt_iff_toInt_lt]
  simp only [Int32.toNatClampNeg]
  omega
theorem own_dec {x : Int32} (h : 0 ≤ x.toInt ∧ x.toInt ≤ 2) (c : (0 : Int32) < x) : ¬ (x - (1 : Int32)) < 0 ∧ (x - (1 : Int32)) < (16 : Int32) := by
  have a := c_isub x 1; have r := rng32 (x - 1); have e : (1 : Int32).toInt = 1 := rfl
  have e0 : (0 : Int32).toInt = 0 := rfl
  have e1 : (16 : Int32).toInt = 16 := rfl
  rw [Int32.lt_iff_toInt_lt] at c
  rw [Int32.lt_iff_toInt_lt, Int32.lt_iff_toInt_lt]
  omega
theorem own_ltl2 {x : Int32} {vs : List Value} (h : ¬ x < 0 ∧ x < (16 : Int32)) (hl : vs.length = 16) : (x).toNatClampNeg < vs.length := by
  have e0 : (0 : Int32).toInt = 0 := rfl
  have e1 : (16 : Int32).toInt = 16 := rfl
  rw [Int32.lt_iff_toInt_lt, Int32.lt_iff_toInt_lt] at h
  rw [hl]; simp only [Int32.toNatClampNeg]; omega
theorem own_one {x : Int32} (h : 0 ≤ x.toInt ∧ x.toInt ≤ 2) (c : (0 : Int32) < x) : 1 ≤ x.toInt ∧ x.toInt ≤ 3 := by
  have e0 : (0 : Int32).toInt = 0 := rfl
  rw [Int32.lt_iff_toInt_lt] at c
  omega
theorem own_cey {p : Int32} (h : ¬ ((255 : Int32) < p)) : ¬ own_ce p = (0 : Int32) := by
  unfold own_ce
  rw [if_neg h]; decide

def Q_rmAN (Z : State) (a1 : Addr) (ac : Addr) (ap : Addr) (ae : Addr) (an : Addr) (kp : ClassId) (ke : ClassId) (kn : ClassId) (p2 : Addr) (sz : Int32) (ln : Int32) (vp : List Value) (ve : List Value) (vn : List Value) (h0 : Heap) (n0 : Nat) (v : Option Value) (h : Heap) (L : List Loc) : Prop := ∃ (szx : Int32), ∃ (vpx : List Value), ∃ (vex : List Value), ∃ (vnx : List Value), v = none ∧ Fr n0 L ∧ Keep h0 h [a1, ap, ae, an] ∧ (Exa Z h a1 "com/example/rideau/rideau/internal/HeldText") ∧ (Fld Z h a1 "com/example/rideau/rideau/internal/HeldText" "chars" "[C" (.ref ac)) ∧ (Fld Z h a1 "com/example/rideau/rideau/internal/HeldText" "pieces" "[Lcom/example/rideau/rideau/internal/HeldText$Piece;" (.ref ap)) ∧ (Fld Z h a1 "com/example/rideau/rideau/internal/HeldText" "ends" "[I" (.ref ae)) ∧ (Fld Z h a1 "com/example/rideau/rideau/internal/HeldText" "names" "[Ljava/lang/String;" (.ref an)) ∧ (Fld Z h a1 "com/example/rideau/rideau/internal/HeldText" "size" "I" (.int szx)) ∧ (Fld Z h a1 "com/example/rideau/rideau/internal/HeldText" "length" "I" (.int ln)) ∧ (Arv Z h ap kp (.object "com/example/rideau/rideau/internal/HeldText$Piece") (16 : Int32) vpx .null) ∧ (Arv Z h ae ke .int (16 : Int32) vex (.int (0 : Int32))) ∧ (Arv Z h an kn (.object "java/lang/String") (16 : Int32) vnx .null) ∧ (szx.toInt = sz.toInt + 1) ∧ (vpx.length = 16) ∧ (vex.length = 16) ∧ (vnx.length = 16)
set_option maxRecDepth 65536 in
set_option maxHeartbeats 40000000 in
theorem rmAN (l : Launch) (Z : State) (a0 : Array Value) (hw : ∀ d ∈ tables_1, d.before a0 Z = true) (ws : List Jvm.Cond) (a1 : Addr) (ac : Addr) (ap : Addr) (ae : Addr) (an : Addr) (kp : ClassId) (ke : ClassId) (kn : ClassId) (p2 : Addr) (sz : Int32) (ln : Int32) (vp : List Value) (ve : List Value) (vn : List Value) (h0 : Heap) (n0 : Nat) (Z0 : n0 ≤ h0.size) (E1 : Exa Z h0 a1 "com/example/rideau/rideau/internal/HeldText") (F_chars : Fld Z h0 a1 "com/example/rideau/rideau/internal/HeldText" "chars" "[C" (.ref ac)) (F_pieces : Fld Z h0 a1 "com/example/rideau/rideau/internal/HeldText" "pieces" "[Lcom/example/rideau/rideau/internal/HeldText$Piece;" (.ref ap)) (F_ends : Fld Z h0 a1 "com/example/rideau/rideau/internal/HeldText" "ends" "[I" (.ref ae)) (F_names : Fld Z h0 a1 "com/example/rideau/rideau/internal/HeldText" "names" "[Ljava/lang/String;" (.ref an)) (F_size : Fld Z h0 a1 "com/example/rideau/rideau/internal/HeldText" "size" "I" (.int sz)) (F_length : Fld Z h0 a1 "com/example/rideau/rideau/internal/HeldText" "length" "I" (.int ln)) (VP : Arv Z h0 ap kp (.object "com/example/rideau/rideau/internal/HeldText$Piece") (16 : Int32) vp .null) (VE : Arv Z h0 ae ke .int (16 : Int32) ve (.int (0 : Int32))) (VN : Arv Z h0 an kn (.object "java/lang/String") (16 : Int32) vn .null) (E2 : Exa Z h0 p2 "com/example/rideau/rideau/internal/HeldText$Piece") (g_a1 : n0 ≤ a1) (g_ac : n0 ≤ ac) (g_ap : n0 ≤ ap) (g_ae : n0 ≤ ae) (g_an : n0 ≤ an) (n_a1_ac : a1 ≠ ac) (n_a1_ap : a1 ≠ ap) (n_a1_ae : a1 ≠ ae) (n_a1_an : a1 ≠ an) (n_ac_ap : ac ≠ ap) (n_ac_ae : ac ≠ ae) (n_ac_an : ac ≠ an) (n_ap_ae : ap ≠ ae) (n_ap_an : ap ≠ an) (n_ae_an : ae ≠ an) (Op : Ovr Z kp "com/example/rideau/rideau/internal/HeldText$Piece") (On : Ovr Z kn "java/lang/String") (hvp : vp.length = 16) (hve : ve.length = 16) (hvn : vn.length = 16) (hsz : 0 ≤ sz.toInt ∧ sz.toInt < 16) :
    MetFree l (⟨"com/example/rideau/rideau/internal/HeldText", "add", "(Lcom/example/rideau/rideau/internal/HeldText$Piece;Ljava/lang/String;)V"⟩ : MethodName) (head1 (Jvm.Cond.code (⟨"com/example/rideau/rideau/internal/HeldText", "add", "(Lcom/example/rideau/rideau/internal/HeldText$Piece;Ljava/lang/String;)V"⟩ : MethodName) prog_17_method_4_code 3 none :: ws) ({ frames := 0, cells := 0, slots := 0, locals := 0 } : Room)) (fun a U => a = #[(.ref a1), (.ref p2), .null] ∧ Z.Warmed39 U.vm ∧ U.heap = h0) (fun _ _ _ _ _ => True) (fun _ U o U' => ∃ v L, o = .returned v ∧ Q_rmAN Z a1 ac ap ae an kp ke kn p2 sz ln vp ve vn h0 n0 v U'.heap L ∧ FrameEnd U o U' L ({ frames := 0, cells := 0, slots := 0, locals := 0 } : Room).cells ({ frames := 0, cells := 0, slots := 0, locals := 0 } : Room).slots) := by
  refine MetFree.of_bodySF (plainFor_of_name pn_0) hisR ?_
  intro p e s m args below meth c s₁ Bd hml0 hP hK
  obtain ⟨rfl, hZ, hh⟩ := hP
  have hx := Bd.exec
  have hby := Bd.bytes
  have hml : c.maxLocals = 3 := hml0
  have hown : s.vm.findClass "com/example/rideau/rideau/internal/HeldText" = some m.cls := findClass_of_methodNamed Bd.named
  have hnm := (name_of_methodNamed Bd.named Bd.method).1
  have X0 : Stand p l e ({ frames := 0, cells := 0, slots := 0, locals := 0 } : Room) s m #[(.ref a1), (.ref p2), .null] below meth c s₁ [] 0 0 := Stand.of_body Bd
  have e0 : s₁.heap = h0 := by rw [← hh, Bd.state]; rfl
  have N0 := Fr.nil n0
  have P0 : Rch p e below (s₁.setTop (entryFrame m #[(.ref a1), (.ref p2), .null] 3)) (s₁.setTop (mkF m 0 #[rv a1, rv p2, .val .null] [])) := fun t k => castTop (by first | (simp [entryFrame, mkF, argsToLocals, Value.category]; done) | rfl) k
  have P1 : Rch p e below (s₁.setTop (entryFrame m #[(.ref a1), (.ref p2), .null] 3)) (s₁.setTop (mkF m 1 #[rv a1, rv p2, .val .null] [(.ref a1)])) := fun t k => P0 t (by
    show Steps p.tables e below (s₁.setTop (mkF m 0 #[rv a1, rv p2, .val .null] [])) t
    refine XS.aloadN X0.here hx rfl (hb hby d5_0) rfl rfl ?_
    exact k)
  obtain ⟨T2, X2, e2, st2⟩ := getF X0 hx hZ hown (host := "") (Or.inl (hw _ (List.mem_of_getElem? (i := 47) rfl))) Via.refl e0 F_size (g := (mkF m 1 #[rv a1, rv p2, .val .null] [(.ref a1)])) rfl rfl (hb hby d5_1)
  have P3 : Rch p e below (s₁.setTop (entryFrame m #[(.ref a1), (.ref p2), .null] 3)) (T2.setTop (mkF m 4 #[rv a1, rv p2, .val .null] [(.int sz)])) := fun t k => P1 t (st2 t k)
  have P4 : Rch p e below (s₁.setTop (entryFrame m #[(.ref a1), (.ref p2), .null] 3)) (T2.setTop (mkF m 5 #[rv a1, rv p2, .val .null] [(.ref a1), (.int sz)])) := fun t k => P3 t (by
    show Steps p.tables e below (T2.setTop (mkF m 4 #[rv a1, rv p2, .val .null] [(.int sz)])) t
    refine XS.aloadN X2.here hx rfl (hb hby d5_4) rfl rfl ?_
    exact k)
  obtain ⟨T5, X5, e5, st5⟩ := getF X2 hx hZ hown (host := "") (Or.inl (hw _ (List.mem_of_getElem? (i := 33) rfl))) Via.refl e2 F_pieces (g := (mkF m 5 #[rv a1, rv p2, .val .null] [(.ref a1), (.int sz)])) rfl rfl (hb hby d5_5)
  have P6 : Rch p e below (s₁.setTop (entryFrame m #[(.ref a1), (.ref p2), .null] 3)) (T5.setTop (mkF m 8 #[rv a1, rv p2, .val .null] [(.ref ap), (.int sz)])) := fun t k => P4 t (st5 t k)
  have V_o7 := VP
  obtain ⟨co7, Aro7, qo7, So7, Mo7, Ho7, Go7⟩ := V_o7
  have P8 : Rch p e below (s₁.setTop (entryFrame m #[(.ref a1), (.ref p2), .null] 3)) (T5.setTop (mkF m 9 #[rv a1, rv p2, .val .null] [(.int (16 : Int32)), (.int sz)])) := fun t k => P6 t (by
    refine X5.arraylength hx (by rw [e5]; exact Aro7.1) (State.isArrayOf_alike hZ.alike Aro7.2.1) (g := (mkF m 8 #[rv a1, rv p2, .val .null] [(.ref ap), (.int sz)])) rfl rfl (hb hby d5_8) _ ?_
    rw [len_of So7 Mo7]; exact k)
  have hi := own_in hsz
  have h16 : ¬ (sz = (16 : Int32)) := own_n16 hsz
  have P9 : Rch p e below (s₁.setTop (entryFrame m #[(.ref a1), (.ref p2), .null] 3)) (T5.setTop (mkF m 70 #[rv a1, rv p2, .val .null] [(.ref a1)])) := fun t k => P8 t (by
    show Steps p.tables e below (T5.setTop (mkF m 9 #[rv a1, rv p2, .val .null] [(.int (16 : Int32)), (.int sz)])) t
    refine XS.icmpYes X5.here hx rfl (pc0 := 9) (pc' := 69) rfl (hb hby d5_9) rfl (feq h16).2 (by decide) (by decide) ?_
    refine XS.aloadN X5.here hx rfl (hb hby d5_69) rfl rfl ?_
    exact k)
  obtain ⟨T10, X10, e10, st10⟩ := getF X5 hx hZ hown (host := "") (Or.inl (hw _ (List.mem_of_getElem? (i := 33) rfl))) Via.refl e5 F_pieces (g := (mkF m 70 #[rv a1, rv p2, .val .null] [(.ref a1)])) rfl rfl (hb hby d5_70)
  have P11 : Rch p e below (s₁.setTop (entryFrame m #[(.ref a1), (.ref p2), .null] 3)) (T10.setTop (mkF m 73 #[rv a1, rv p2, .val .null] [(.ref ap)])) := fun t k => P9 t (st10 t k)
  have P12 : Rch p e below (s₁.setTop (entryFrame m #[(.ref a1), (.ref p2), .null] 3)) (T10.setTop (mkF m 74 #[rv a1, rv p2, .val .null] [(.ref a1), (.ref ap)])) := fun t k => P11 t (by
    show Steps p.tables e below (T10.setTop (mkF m 73 #[rv a1, rv p2, .val .null] [(.ref ap)])) t
    refine XS.aloadN X10.here hx rfl (hb hby d5_73) rfl rfl ?_
    exact k)
  obtain ⟨T13, X13, e13, st13⟩ := getF X10 hx hZ hown (host := "") (Or.inl (hw _ (List.mem_of_getElem? (i := 47) rfl))) Via.refl e10 F_size (g := (mkF m 74 #[rv a1, rv p2, .val .null] [(.ref a1), (.ref ap)])) rfl rfl (hb hby d5_74)
  have P14 : Rch p e below (s₁.setTop (entryFrame m #[(.ref a1), (.ref p2), .null] 3)) (T13.setTop (mkF m 77 #[rv a1, rv p2, .val .null] [(.int sz), (.ref ap)])) := fun t k => P12 t (st13 t k)
  have P15 : Rch p e below (s₁.setTop (entryFrame m #[(.ref a1), (.ref p2), .null] 3)) (T13.setTop (mkF m 78 #[rv a1, rv p2, .val .null] [(.ref p2), (.int sz), (.ref ap)])) := fun t k => P14 t (by
    show Steps p.tables e below (T13.setTop (mkF m 77 #[rv a1, rv p2, .val .null] [(.int sz), (.ref ap)])) t
    refine XS.aloadN X13.here hx rfl (hb hby d5_77) rfl rfl ?_
    exact k)
  have V_o16 := VP
  obtain ⟨co16, Aro16, qo16, So16, Mo16, Ho16, Go16⟩ := V_o16
  have hin17 : ¬ (sz < 0 ∨ co16.slots.size ≤ (sz).toNatClampNeg) := inb_of So16 hi
  obtain ⟨T17, h17, X17, e17, W17, st17⟩ := stR X13 hx hZ e13 Aro16 (j := sz) hin17 rfl (Sto.ofV Aro16 qo16 Op (Ins.self E2)) (g := (mkF m 78 #[rv a1, rv p2, .val .null] [(.ref p2), (.int sz), (.ref ap)])) rfl rfl (hb hby d5_78)
  have V17 : Arv Z h17 ap kp (.object "com/example/rideau/rideau/internal/HeldText$Piece") (16 : Int32) (vp.set (sz).toNatClampNeg (.ref p2)) .null := Arv.set Aro16 qo16 So16 Mo16 Ho16 Go16 rfl W17 (sz).toNatClampNeg rfl (own_ltl hsz hvp)
  have P18 : Rch p e below (s₁.setTop (entryFrame m #[(.ref a1), (.ref p2), .null] 3)) (T17.setTop (mkF m 79 #[rv a1, rv p2, .val .null] [])) := fun t k => P15 t (st17 t k)
  have N17 := Fr.snoc X17 N0 g_ap
  have P19 : Rch p e below (s₁.setTop (entryFrame m #[(.ref a1), (.ref p2), .null] 3)) (T17.setTop (mkF m 80 #[rv a1, rv p2, .val .null] [(.ref a1)])) := fun t k => P18 t (by
    show Steps p.tables e below (T17.setTop (mkF m 79 #[rv a1, rv p2, .val .null] [])) t
    refine XS.aloadN X17.here hx rfl (hb hby d5_79) rfl rfl ?_
    exact k)
  obtain ⟨T20, X20, e20, st20⟩ := getF X17 hx hZ hown (host := "") (Or.inl (hw _ (List.mem_of_getElem? (i := 36) rfl))) Via.refl e17 (F_ends.other W17 (Or.inl n_a1_ap)) (g := (mkF m 80 #[rv a1, rv p2, .val .null] [(.ref a1)])) rfl rfl (hb hby d5_80)
  have P21 : Rch p e below (s₁.setTop (entryFrame m #[(.ref a1), (.ref p2), .null] 3)) (T20.setTop (mkF m 83 #[rv a1, rv p2, .val .null] [(.ref ae)])) := fun t k => P19 t (st20 t k)
  have P22 : Rch p e below (s₁.setTop (entryFrame m #[(.ref a1), (.ref p2), .null] 3)) (T20.setTop (mkF m 84 #[rv a1, rv p2, .val .null] [(.ref a1), (.ref ae)])) := fun t k => P21 t (by
    show Steps p.tables e below (T20.setTop (mkF m 83 #[rv a1, rv p2, .val .null] [(.ref ae)])) t
    refine XS.aloadN X20.here hx rfl (hb hby d5_83) rfl rfl ?_
    exact k)
  obtain ⟨T23, X23, e23, st23⟩ := getF X20 hx hZ hown (host := "") (Or.inl (hw _ (List.mem_of_getElem? (i := 47) rfl))) Via.refl e20 (F_size.other W17 (Or.inl n_a1_ap)) (g := (mkF m 84 #[rv a1, rv p2, .val .null] [(.ref a1), (.ref ae)])) rfl rfl (hb hby d5_84)
  have P24 : Rch p e below (s₁.setTop (entryFrame m #[(.ref a1), (.ref p2), .null] 3)) (T23.setTop (mkF m 87 #[rv a1, rv p2, .val .null] [(.int sz), (.ref ae)])) := fun t k => P22 t (st23 t k)
  have P25 : Rch p e below (s₁.setTop (entryFrame m #[(.ref a1), (.ref p2), .null] 3)) (T23.setTop (mkF m 88 #[rv a1, rv p2, .val .null] [(.ref a1), (.int sz), (.ref ae)])) := fun t k => P24 t (by
    show Steps p.tables e below (T23.setTop (mkF m 87 #[rv a1, rv p2, .val .null] [(.int sz), (.ref ae)])) t
    refine XS.aloadN X23.here hx rfl (hb hby d5_87) rfl rfl ?_
    exact k)
  obtain ⟨T26, X26, e26, st26⟩ := getF X23 hx hZ hown (host := "") (Or.inl (hw _ (List.mem_of_getElem? (i := 54) rfl))) Via.refl e23 (F_length.other W17 (Or.inl n_a1_ap)) (g := (mkF m 88 #[rv a1, rv p2, .val .null] [(.ref a1), (.int sz), (.ref ae)])) rfl rfl (hb hby d5_88)
  have P27 : Rch p e below (s₁.setTop (entryFrame m #[(.ref a1), (.ref p2), .null] 3)) (T26.setTop (mkF m 91 #[rv a1, rv p2, .val .null] [(.int ln), (.int sz), (.ref ae)])) := fun t k => P25 t (st26 t k)
  have V_o28 := (VE.other W17 (Ne.symm n_ap_ae))
  obtain ⟨co28, Aro28, qo28, So28, Mo28, Ho28, Go28⟩ := V_o28
  have hin29 : ¬ (sz < 0 ∨ co28.slots.size ≤ (sz).toNatClampNeg) := inb_of So28 hi
  obtain ⟨T29, h29, X29, e29, W29, st29⟩ := stI X26 hx hZ e26 Aro28 (j := sz) hin29 (g := (mkF m 91 #[rv a1, rv p2, .val .null] [(.int ln), (.int sz), (.ref ae)])) rfl rfl (hb hby d5_91)
  have V29 : Arv Z h29 ae ke .int (16 : Int32) (ve.set (sz).toNatClampNeg (.int ln)) (.int (0 : Int32)) := Arv.set Aro28 qo28 So28 Mo28 Ho28 Go28 rfl W29 (sz).toNatClampNeg rfl (own_ltl hsz hve)
  have P30 : Rch p e below (s₁.setTop (entryFrame m #[(.ref a1), (.ref p2), .null] 3)) (T29.setTop (mkF m 92 #[rv a1, rv p2, .val .null] [])) := fun t k => P27 t (st29 t k)
  have N29 := Fr.snoc X29 N17 g_ae
  have P31 : Rch p e below (s₁.setTop (entryFrame m #[(.ref a1), (.ref p2), .null] 3)) (T29.setTop (mkF m 93 #[rv a1, rv p2, .val .null] [(.ref a1)])) := fun t k => P30 t (by
    show Steps p.tables e below (T29.setTop (mkF m 92 #[rv a1, rv p2, .val .null] [])) t
    refine XS.aloadN X29.here hx rfl (hb hby d5_92) rfl rfl ?_
    exact k)
  have f32 : Fld Z h29 a1 "com/example/rideau/rideau/internal/HeldText" "names" "[Ljava/lang/String;" (.ref an) := ((F_names.other W17 (Or.inl n_a1_ap)).other W29 (Or.inl n_a1_ae))
  obtain ⟨T33, X33, e33, st33⟩ := getF X29 hx hZ hown (host := "") (Or.inl (hw _ (List.mem_of_getElem? (i := 40) rfl))) Via.refl e29 f32 (g := (mkF m 93 #[rv a1, rv p2, .val .null] [(.ref a1)])) rfl rfl (hb hby d5_93)
  have P34 : Rch p e below (s₁.setTop (entryFrame m #[(.ref a1), (.ref p2), .null] 3)) (T33.setTop (mkF m 96 #[rv a1, rv p2, .val .null] [(.ref an)])) := fun t k => P31 t (st33 t k)
  have P35 : Rch p e below (s₁.setTop (entryFrame m #[(.ref a1), (.ref p2), .null] 3)) (T33.setTop (mkF m 97 #[rv a1, rv p2, .val .null] [(.ref a1), (.ref an)])) := fun t k => P34 t (by
    show Steps p.tables e below (T33.setTop (mkF m 96 #[rv a1, rv p2, .val .null] [(.ref an)])) t
    refine XS.aloadN X33.here hx rfl (hb hby d5_96) rfl rfl ?_
    exact k)
  have f36 : Fld Z h29 a1 "com/example/rideau/rideau/internal/HeldText" "size" "I" (.int sz) := ((F_size.other W17 (Or.inl n_a1_ap)).other W29 (Or.inl n_a1_ae))
  obtain ⟨T37, X37, e37, st37⟩ := getF X33 hx hZ hown (host := "") (Or.inl (hw _ (List.mem_of_getElem? (i := 47) rfl))) Via.refl e33 f36 (g := (mkF m 97 #[rv a1, rv p2, .val .null] [(.ref a1), (.ref an)])) rfl rfl (hb hby d5_97)
  have P38 : Rch p e below (s₁.setTop (entryFrame m #[(.ref a1), (.ref p2), .null] 3)) (T37.setTop (mkF m 100 #[rv a1, rv p2, .val .null] [(.int sz), (.ref an)])) := fun t k => P35 t (st37 t k)
  have P39 : Rch p e below (s₁.setTop (entryFrame m #[(.ref a1), (.ref p2), .null] 3)) (T37.setTop (mkF m 101 #[rv a1, rv p2, .val .null] [.null, (.int sz), (.ref an)])) := fun t k => P38 t (by
    show Steps p.tables e below (T37.setTop (mkF m 100 #[rv a1, rv p2, .val .null] [(.int sz), (.ref an)])) t
    refine XS.aloadN X37.here hx rfl (hb hby d5_100) rfl rfl ?_
    exact k)
  have f40 : Arv Z h29 an kn (.object "java/lang/String") (16 : Int32) vn .null := ((VN.other W17 (Ne.symm n_ap_an)).other W29 (Ne.symm n_ae_an))
  have V_o41 := f40
  obtain ⟨co41, Aro41, qo41, So41, Mo41, Ho41, Go41⟩ := V_o41
  have hin42 : ¬ (sz < 0 ∨ co41.slots.size ≤ (sz).toNatClampNeg) := inb_of So41 hi
  obtain ⟨T42, h42, X42, e42, W42, st42⟩ := stR X37 hx hZ e37 Aro41 (j := sz) hin42 rfl (Or.inl rfl) (g := (mkF m 101 #[rv a1, rv p2, .val .null] [.null, (.int sz), (.ref an)])) rfl rfl (hb hby d5_101)
  have V42 : Arv Z h42 an kn (.object "java/lang/String") (16 : Int32) (vn.set (sz).toNatClampNeg .null) .null := Arv.set Aro41 qo41 So41 Mo41 Ho41 Go41 rfl W42 (sz).toNatClampNeg rfl (own_ltl hsz hvn)
  have P43 : Rch p e below (s₁.setTop (entryFrame m #[(.ref a1), (.ref p2), .null] 3)) (T42.setTop (mkF m 102 #[rv a1, rv p2, .val .null] [])) := fun t k => P39 t (st42 t k)
  have N42 := Fr.snoc X42 N29 g_an
  have P44 : Rch p e below (s₁.setTop (entryFrame m #[(.ref a1), (.ref p2), .null] 3)) (T42.setTop (mkF m 104 #[rv a1, rv p2, .val .null] [(.ref a1), (.ref a1)])) := fun t k => P43 t (by
    show Steps p.tables e below (T42.setTop (mkF m 102 #[rv a1, rv p2, .val .null] [])) t
    refine XS.aloadN X42.here hx rfl (hb hby d5_102) rfl rfl ?_
    refine XS.dup X42.here hx rfl (hb hby d5_103) rfl rfl ?_
    exact k)
  obtain ⟨T45, X45, e45, st45⟩ := getF X42 hx hZ hown (host := "") (Or.inl (hw _ (List.mem_of_getElem? (i := 47) rfl))) Via.refl e42 (f36.other W42 (Or.inl n_a1_an)) (g := (mkF m 104 #[rv a1, rv p2, .val .null] [(.ref a1), (.ref a1)])) rfl rfl (hb hby d5_104)
  have P46 : Rch p e below (s₁.setTop (entryFrame m #[(.ref a1), (.ref p2), .null] 3)) (T45.setTop (mkF m 107 #[rv a1, rv p2, .val .null] [(.int sz), (.ref a1)])) := fun t k => P44 t (st45 t k)
  obtain ⟨x47, hx47⟩ : ∃ z : Int32, z = (sz + (1 : Int32)) := ⟨_, rfl⟩
  have P48 : Rch p e below (s₁.setTop (entryFrame m #[(.ref a1), (.ref p2), .null] 3)) (T45.setTop (mkF m 109 #[rv a1, rv p2, .val .null] [(.int x47), (.ref a1)])) := fun t k => P46 t (by
    subst hx47
    show Steps p.tables e below (T45.setTop (mkF m 107 #[rv a1, rv p2, .val .null] [(.int sz), (.ref a1)])) t
    refine XS.iconst X45.here hx rfl (hb hby d5_107) ?_
    refine XS.iadd X45.here hx rfl (hb hby d5_108) rfl ?_
    exact k)
  obtain ⟨T49, h49, X49, e49, W49, st49⟩ := putF X45 hx hZ hown (host := "") (Or.inl (hw _ (List.mem_of_getElem? (i := 47) rfl))) Via.refl e45 (f36.other W42 (Or.inl n_a1_an)) (((E1.wr W17).wr W29).wr W42) (Or.inl (hw _ (List.mem_of_getElem? (i := 48) rfl))) (hw _ (List.mem_of_getElem? (i := 22) rfl)) (ty := .int) (by decide) rfl rfl (g := (mkF m 109 #[rv a1, rv p2, .val .null] [(.int x47), (.ref a1)])) rfl rfl (hb hby d5_109)
  have Fw49 := (f36.other W42 (Or.inl n_a1_an)).same W49
  have P50 : Rch p e below (s₁.setTop (entryFrame m #[(.ref a1), (.ref p2), .null] 3)) (T49.setTop (mkF m 112 #[rv a1, rv p2, .val .null] [])) := fun t k => P48 t (st49 t k)
  have N49 := Fr.snoc X49 N42 g_a1
  obtain ⟨fs, hr, hrun, hended, hW, hsame⟩ := X49.leave (v := none) (fun _ => rfl)
  refine ⟨_, _, P50 _ ?_, hrun, hended, _, _, rfl, ?_, ⟨_, rfl⟩, hW, hsame.mono (by decide) (by decide)⟩
  · exact X49.returnOut hx Bd.returns (hb hby d5_112) hr
  · show Q_rmAN Z a1 ac ap ae an kp ke kn p2 sz ln vp ve vn h0 n0 _ T49.heap _
    rw [e49]
    have f51 : Arv Z h49 ap kp (.object "com/example/rideau/rideau/internal/HeldText$Piece") (16 : Int32) (vp.set (sz).toNatClampNeg (.ref p2)) .null := (((V17.other W29 n_ap_ae).other W42 n_ap_an).other W49 (Ne.symm n_a1_ap))
    have f52 : Keep h0 h49 [a1, ap, ae, an] := (((((Keep.refl h0 [a1, ap, ae, an]).wr W17 (Or.inl (List.mem_of_getElem? (i := 1) rfl))).wr W29 (Or.inl (List.mem_of_getElem? (i := 2) rfl))).wr W42 (Or.inl (List.mem_of_getElem? (i := 3) rfl))).wr W49 (Or.inl (List.mem_of_getElem? (i := 0) rfl)))
    have f53 : Fld Z h49 a1 "com/example/rideau/rideau/internal/HeldText" "chars" "[C" (.ref ac) := ((((F_chars.other W17 (Or.inl n_a1_ap)).other W29 (Or.inl n_a1_ae)).other W42 (Or.inl n_a1_an)).other W49 (Or.inr (slot_ne (Or.inl (hw _ (List.mem_of_getElem? (i := 31) rfl))) (Or.inl (hw _ (List.mem_of_getElem? (i := 48) rfl))) (by decide) (t := (.array .char)) (t' := .int) (by decide) (by decide))))
    have f54 : Fld Z h49 a1 "com/example/rideau/rideau/internal/HeldText" "pieces" "[Lcom/example/rideau/rideau/internal/HeldText$Piece;" (.ref ap) := ((((F_pieces.other W17 (Or.inl n_a1_ap)).other W29 (Or.inl n_a1_ae)).other W42 (Or.inl n_a1_an)).other W49 (Or.inr (slot_ne (Or.inl (hw _ (List.mem_of_getElem? (i := 34) rfl))) (Or.inl (hw _ (List.mem_of_getElem? (i := 48) rfl))) (by decide) (t := (.array (.object "com/example/rideau/rideau/internal/HeldText$Piece"))) (t' := .int) (by decide) (by decide))))
    have f55 : Fld Z h49 a1 "com/example/rideau/rideau/internal/HeldText" "ends" "[I" (.ref ae) := ((((F_ends.other W17 (Or.inl n_a1_ap)).other W29 (Or.inl n_a1_ae)).other W42 (Or.inl n_a1_an)).other W49 (Or.inr (slot_ne (Or.inl (hw _ (List.mem_of_getElem? (i := 37) rfl))) (Or.inl (hw _ (List.mem_of_getElem? (i := 48) rfl))) (by decide) (t := (.array .int)) (t' := .int) (by decide) (by decide))))
    have f56 : Fld Z h49 a1 "com/example/rideau/rideau/internal/HeldText" "names" "[Ljava/lang/String;" (.ref an) := ((f32.other W42 (Or.inl n_a1_an)).other W49 (Or.inr (slot_ne (Or.inl (hw _ (List.mem_of_getElem? (i := 41) rfl))) (Or.inl (hw _ (List.mem_of_getElem? (i := 48) rfl))) (by decide) (t := (.array (.object "java/lang/String"))) (t' := .int) (by decide) (by decide))))
    have f57 : Fld Z h49 a1 "com/example/rideau/rideau/internal/HeldText" "length" "I" (.int ln) := ((((F_length.other W17 (Or.inl n_a1_ap)).other W29 (Or.inl n_a1_ae)).other W42 (Or.inl n_a1_an)).other W49 (Or.inr (slot_ne (Or.inl (hw _ (List.mem_of_getElem? (i := 55) rfl))) (Or.inl (hw _ (List.mem_of_getElem? (i := 48) rfl))) (by decide) (t := .int) (t' := .int) (by decide) (by decide))))
    exact ⟨x47, (vp.set (sz).toNatClampNeg (.ref p2)), (ve.set (sz).toNatClampNeg (.int ln)), (vn.set (sz).toNatClampNeg .null), rfl, N49, f52, ((((E1.wr W17).wr W29).wr W42).wr W49), f53, f54, f55, f56, Fw49, f57, f51, ((V29.other W42 n_ae_an).other W49 (Ne.symm n_a1_ae)), (V42.other W49 (Ne.symm n_a1_an)), (by rw [hx47]; exact own_inc hsz), (by rw [List.length_set]; exact hvp), (by rw [List.length_set]; exact hve), (by rw [List.length_set]; exact hvn)⟩
def Q_rmAS (Z : State) (a1 : Addr) (ac : Addr) (ap : Addr) (ae : Addr) (an : Addr) (kp : ClassId) (ke : ClassId) (kn : ClassId) (p2 : Addr) (p3 : Addr) (sz : Int32) (ln : Int32) (vp : List Value) (ve : List Value) (vn : List Value) (h0 : Heap) (n0 : Nat) (v : Option Value) (h : Heap) (L : List Loc) : Prop := ∃ (szx : Int32), ∃ (vpx : List Value), ∃ (vex : List Value), ∃ (vnx : List Value), v = none ∧ Fr n0 L ∧ Keep h0 h [a1, ap, ae, an] ∧ (Exa Z h a1 "com/example/rideau/rideau/internal/HeldText") ∧ (Fld Z h a1 "com/example/rideau/rideau/internal/HeldText" "chars" "[C" (.ref ac)) ∧ (Fld Z h a1 "com/example/rideau/rideau/internal/HeldText" "pieces" "[Lcom/example/rideau/rideau/internal/HeldText$Piece;" (.ref ap)) ∧ (Fld Z h a1 "com/example/rideau/rideau/internal/HeldText" "ends" "[I" (.ref ae)) ∧ (Fld Z h a1 "com/example/rideau/rideau/internal/HeldText" "names" "[Ljava/lang/String;" (.ref an)) ∧ (Fld Z h a1 "com/example/rideau/rideau/internal/HeldText" "size" "I" (.int szx)) ∧ (Fld Z h a1 "com/example/rideau/rideau/internal/HeldText" "length" "I" (.int ln)) ∧ (Arv Z h ap kp (.object "com/example/rideau/rideau/internal/HeldText$Piece") (16 : Int32) vpx .null) ∧ (Arv Z h ae ke .int (16 : Int32) vex (.int (0 : Int32))) ∧ (Arv Z h an kn (.object "java/lang/String") (16 : Int32) vnx .null) ∧ (szx.toInt = sz.toInt + 1) ∧ (vpx.length = 16) ∧ (vex.length = 16) ∧ (vnx.length = 16)
set_option maxRecDepth 65536 in
set_option maxHeartbeats 40000000 in
theorem rmAS (l : Launch) (Z : State) (a0 : Array Value) (hw : ∀ d ∈ tables_1, d.before a0 Z = true) (ws : List Jvm.Cond) (a1 : Addr) (ac : Addr) (ap : Addr) (ae : Addr) (an : Addr) (kp : ClassId) (ke : ClassId) (kn : ClassId) (p2 : Addr) (p3 : Addr) (sz : Int32) (ln : Int32) (vp : List Value) (ve : List Value) (vn : List Value) (h0 : Heap) (n0 : Nat) (Z0 : n0 ≤ h0.size) (E1 : Exa Z h0 a1 "com/example/rideau/rideau/internal/HeldText") (F_chars : Fld Z h0 a1 "com/example/rideau/rideau/internal/HeldText" "chars" "[C" (.ref ac)) (F_pieces : Fld Z h0 a1 "com/example/rideau/rideau/internal/HeldText" "pieces" "[Lcom/example/rideau/rideau/internal/HeldText$Piece;" (.ref ap)) (F_ends : Fld Z h0 a1 "com/example/rideau/rideau/internal/HeldText" "ends" "[I" (.ref ae)) (F_names : Fld Z h0 a1 "com/example/rideau/rideau/internal/HeldText" "names" "[Ljava/lang/String;" (.ref an)) (F_size : Fld Z h0 a1 "com/example/rideau/rideau/internal/HeldText" "size" "I" (.int sz)) (F_length : Fld Z h0 a1 "com/example/rideau/rideau/internal/HeldText" "length" "I" (.int ln)) (VP : Arv Z h0 ap kp (.object "com/example/rideau/rideau/internal/HeldText$Piece") (16 : Int32) vp .null) (VE : Arv Z h0 ae ke .int (16 : Int32) ve (.int (0 : Int32))) (VN : Arv Z h0 an kn (.object "java/lang/String") (16 : Int32) vn .null) (E2 : Exa Z h0 p2 "com/example/rideau/rideau/internal/HeldText$Piece") (E3 : Exa Z h0 p3 "java/lang/String") (g_a1 : n0 ≤ a1) (g_ac : n0 ≤ ac) (g_ap : n0 ≤ ap) (g_ae : n0 ≤ ae) (g_an : n0 ≤ an) (n_a1_ac : a1 ≠ ac) (n_a1_ap : a1 ≠ ap) (n_a1_ae : a1 ≠ ae) (n_a1_an : a1 ≠ an) (n_ac_ap : ac ≠ ap) (n_ac_ae : ac ≠ ae) (n_ac_an : ac ≠ an) (n_ap_ae : ap ≠ ae) (n_ap_an : ap ≠ an) (n_ae_an : ae ≠ an) (Op : Ovr Z kp "com/example/rideau/rideau/internal/HeldText$Piece") (On : Ovr Z kn "java/lang/String") (hvp : vp.length = 16) (hve : ve.length = 16) (hvn : vn.length = 16) (hsz : 0 ≤ sz.toInt ∧ sz.toInt < 16) :
    MetFree l (⟨"com/example/rideau/rideau/internal/HeldText", "add", "(Lcom/example/rideau/rideau/internal/HeldText$Piece;Ljava/lang/String;)V"⟩ : MethodName) (head1 (Jvm.Cond.code (⟨"com/example/rideau/rideau/internal/HeldText", "add", "(Lcom/example/rideau/rideau/internal/HeldText$Piece;Ljava/lang/String;)V"⟩ : MethodName) prog_17_method_4_code 3 none :: ws) ({ frames := 0, cells := 0, slots := 0, locals := 0 } : Room)) (fun a U => a = #[(.ref a1), (.ref p2), (.ref p3)] ∧ Z.Warmed39 U.vm ∧ U.heap = h0) (fun _ _ _ _ _ => True) (fun _ U o U' => ∃ v L, o = .returned v ∧ Q_rmAS Z a1 ac ap ae an kp ke kn p2 p3 sz ln vp ve vn h0 n0 v U'.heap L ∧ FrameEnd U o U' L ({ frames := 0, cells := 0, slots := 0, locals := 0 } : Room).cells ({ frames := 0, cells := 0, slots := 0, locals := 0 } : Room).slots) := by
  refine MetFree.of_bodySF (plainFor_of_name pn_0) hisR ?_
  intro p e s m args below meth c s₁ Bd hml0 hP hK
  obtain ⟨rfl, hZ, hh⟩ := hP
  have hx := Bd.exec
  have hby := Bd.bytes
  have hml : c.maxLocals = 3 := hml0
  have hown : s.vm.findClass "com/example/rideau/rideau/internal/HeldText" = some m.cls := findClass_of_methodNamed Bd.named
  have hnm := (name_of_methodNamed Bd.named Bd.method).1
  have X0 : Stand p l e ({ frames := 0, cells := 0, slots := 0, locals := 0 } : Room) s m #[(.ref a1), (.ref p2), (.ref p3)] below meth c s₁ [] 0 0 := Stand.of_body Bd
  have e0 : s₁.heap = h0 := by rw [← hh, Bd.state]; rfl
  have N0 := Fr.nil n0
  have P0 : Rch p e below (s₁.setTop (entryFrame m #[(.ref a1), (.ref p2), (.ref p3)] 3)) (s₁.setTop (mkF m 0 #[rv a1, rv p2, rv p3] [])) := fun t k => castTop (by first | (simp [entryFrame, mkF, argsToLocals, Value.category]; done) | rfl) k
  have P1 : Rch p e below (s₁.setTop (entryFrame m #[(.ref a1), (.ref p2), (.ref p3)] 3)) (s₁.setTop (mkF m 1 #[rv a1, rv p2, rv p3] [(.ref a1)])) := fun t k => P0 t (by
    show Steps p.tables e below (s₁.setTop (mkF m 0 #[rv a1, rv p2, rv p3] [])) t
    refine XS.aloadN X0.here hx rfl (hb hby d5_0) rfl rfl ?_
    exact k)
  obtain ⟨T2, X2, e2, st2⟩ := getF X0 hx hZ hown (host := "") (Or.inl (hw _ (List.mem_of_getElem? (i := 47) rfl))) Via.refl e0 F_size (g := (mkF m 1 #[rv a1, rv p2, rv p3] [(.ref a1)])) rfl rfl (hb hby d5_1)
  have P3 : Rch p e below (s₁.setTop (entryFrame m #[(.ref a1), (.ref p2), (.ref p3)] 3)) (T2.setTop (mkF m 4 #[rv a1, rv p2, rv p3] [(.int sz)])) := fun t k => P1 t (st2 t k)
  have P4 : Rch p e below (s₁.setTop (entryFrame m #[(.ref a1), (.ref p2), (.ref p3)] 3)) (T2.setTop (mkF m 5 #[rv a1, rv p2, rv p3] [(.ref a1), (.int sz)])) := fun t k => P3 t (by
    show Steps p.tables e below (T2.setTop (mkF m 4 #[rv a1, rv p2, rv p3] [(.int sz)])) t
    refine XS.aloadN X2.here hx rfl (hb hby d5_4) rfl rfl ?_
    exact k)
  obtain ⟨T5, X5, e5, st5⟩ := getF X2 hx hZ hown (host := "") (Or.inl (hw _ (List.mem_of_getElem? (i := 33) rfl))) Via.refl e2 F_pieces (g := (mkF m 5 #[rv a1, rv p2, rv p3] [(.ref a1), (.int sz)])) rfl rfl (hb hby d5_5)
  have P6 : Rch p e below (s₁.setTop (entryFrame m #[(.ref a1), (.ref p2), (.ref p3)] 3)) (T5.setTop (mkF m 8 #[rv a1, rv p2, rv p3] [(.ref ap), (.int sz)])) := fun t k => P4 t (st5 t k)
  have V_o7 := VP
  obtain ⟨co7, Aro7, qo7, So7, Mo7, Ho7, Go7⟩ := V_o7
  have P8 : Rch p e below (s₁.setTop (entryFrame m #[(.ref a1), (.ref p2), (.ref p3)] 3)) (T5.setTop (mkF m 9 #[rv a1, rv p2, rv p3] [(.int (16 : Int32)), (.int sz)])) := fun t k => P6 t (by
    refine X5.arraylength hx (by rw [e5]; exact Aro7.1) (State.isArrayOf_alike hZ.alike Aro7.2.1) (g := (mkF m 8 #[rv a1, rv p2, rv p3] [(.ref ap), (.int sz)])) rfl rfl (hb hby d5_8) _ ?_
    rw [len_of So7 Mo7]; exact k)
  have hi := own_in hsz
  have h16 : ¬ (sz = (16 : Int32)) := own_n16 hsz
  have P9 : Rch p e below (s₁.setTop (entryFrame m #[(.ref a1), (.ref p2), (.ref p3)] 3)) (T5.setTop (mkF m 70 #[rv a1, rv p2, rv p3] [(.ref a1)])) := fun t k => P8 t (by
    show Steps p.tables e below (T5.setTop (mkF m 9 #[rv a1, rv p2, rv p3] [(.int (16 : Int32)), (.int sz)])) t
    refine XS.icmpYes X5.here hx rfl (pc0 := 9) (pc' := 69) rfl (hb hby d5_9) rfl (feq h16).2 (by decide) (by decide) ?_
    refine XS.aloadN X5.here hx rfl (hb hby d5_69) rfl rfl ?_
    exact k)
  obtain ⟨T10, X10, e10, st10⟩ := getF X5 hx hZ hown (host := "") (Or.inl (hw _ (List.mem_of_getElem? (i := 33) rfl))) Via.refl e5 F_pieces (g := (mkF m 70 #[rv a1, rv p2, rv p3] [(.ref a1)])) rfl rfl (hb hby d5_70)
  have P11 : Rch p e below (s₁.setTop (entryFrame m #[(.ref a1), (.ref p2), (.ref p3)] 3)) (T10.setTop (mkF m 73 #[rv a1, rv p2, rv p3] [(.ref ap)])) := fun t k => P9 t (st10 t k)
  have P12 : Rch p e below (s₁.setTop (entryFrame m #[(.ref a1), (.ref p2), (.ref p3)] 3)) (T10.setTop (mkF m 74 #[rv a1, rv p2, rv p3] [(.ref a1), (.ref ap)])) := fun t k => P11 t (by
    show Steps p.tables e below (T10.setTop (mkF m 73 #[rv a1, rv p2, rv p3] [(.ref ap)])) t
    refine XS.aloadN X10.here hx rfl (hb hby d5_73) rfl rfl ?_
    exact k)
  obtain ⟨T13, X13, e13, st13⟩ := getF X10 hx hZ hown (host := "") (Or.inl (hw _ (List.mem_of_getElem? (i := 47) rfl))) Via.refl e10 F_size (g := (mkF m 74 #[rv a1, rv p2, rv p3] [(.ref a1), (.ref ap)])) rfl rfl (hb hby d5_74)
  have P14 : Rch p e below (s₁.setTop (entryFrame m #[(.ref a1), (.ref p2), (.ref p3)] 3)) (T13.setTop (mkF m 77 #[rv a1, rv p2, rv p3] [(.int sz), (.ref ap)])) := fun t k => P12 t (st13 t k)
  have P15 : Rch p e below (s₁.setTop (entryFrame m #[(.ref a1), (.ref p2), (.ref p3)] 3)) (T13.setTop (mkF m 78 #[rv a1, rv p2, rv p3] [(.ref p2), (.int sz), (.ref ap)])) := fun t k => P14 t (by
    show Steps p.tables e below (T13.setTop (mkF m 77 #[rv a1, rv p2, rv p3] [(.int sz), (.ref ap)])) t
    refine XS.aloadN X13.here hx rfl (hb hby d5_77) rfl rfl ?_
    exact k)
  have V_o16 := VP
  obtain ⟨co16, Aro16, qo16, So16, Mo16, Ho16, Go16⟩ := V_o16
  have hin17 : ¬ (sz < 0 ∨ co16.slots.size ≤ (sz).toNatClampNeg) := inb_of So16 hi
  obtain ⟨T17, h17, X17, e17, W17, st17⟩ := stR X13 hx hZ e13 Aro16 (j := sz) hin17 rfl (Sto.ofV Aro16 qo16 Op (Ins.self E2)) (g := (mkF m 78 #[rv a1, rv p2, rv p3] [(.ref p2), (.int sz), (.ref ap)])) rfl rfl (hb hby d5_78)
  have V17 : Arv Z h17 ap kp (.object "com/example/rideau/rideau/internal/HeldText$Piece") (16 : Int32) (vp.set (sz).toNatClampNeg (.ref p2)) .null := Arv.set Aro16 qo16 So16 Mo16 Ho16 Go16 rfl W17 (sz).toNatClampNeg rfl (own_ltl hsz hvp)
  have P18 : Rch p e below (s₁.setTop (entryFrame m #[(.ref a1), (.ref p2), (.ref p3)] 3)) (T17.setTop (mkF m 79 #[rv a1, rv p2, rv p3] [])) := fun t k => P15 t (st17 t k)
  have N17 := Fr.snoc X17 N0 g_ap
  have P19 : Rch p e below (s₁.setTop (entryFrame m #[(.ref a1), (.ref p2), (.ref p3)] 3)) (T17.setTop (mkF m 80 #[rv a1, rv p2, rv p3] [(.ref a1)])) := fun t k => P18 t (by
    show Steps p.tables e below (T17.setTop (mkF m 79 #[rv a1, rv p2, rv p3] [])) t
    refine XS.aloadN X17.here hx rfl (hb hby d5_79) rfl rfl ?_
    exact k)
  obtain ⟨T20, X20, e20, st20⟩ := getF X17 hx hZ hown (host := "") (Or.inl (hw _ (List.mem_of_getElem? (i := 36) rfl))) Via.refl e17 (F_ends.other W17 (Or.inl n_a1_ap)) (g := (mkF m 80 #[rv a1, rv p2, rv p3] [(.ref a1)])) rfl rfl (hb hby d5_80)
  have P21 : Rch p e below (s₁.setTop (entryFrame m #[(.ref a1), (.ref p2), (.ref p3)] 3)) (T20.setTop (mkF m 83 #[rv a1, rv p2, rv p3] [(.ref ae)])) := fun t k => P19 t (st20 t k)
  have P22 : Rch p e below (s₁.setTop (entryFrame m #[(.ref a1), (.ref p2), (.ref p3)] 3)) (T20.setTop (mkF m 84 #[rv a1, rv p2, rv p3] [(.ref a1), (.ref ae)])) := fun t k => P21 t (by
    show Steps p.tables e below (T20.setTop (mkF m 83 #[rv a1, rv p2, rv p3] [(.ref ae)])) t
    refine XS.aloadN X20.here hx rfl (hb hby d5_83) rfl rfl ?_
    exact k)
  obtain ⟨T23, X23, e23, st23⟩ := getF X20 hx hZ hown (host := "") (Or.inl (hw _ (List.mem_of_getElem? (i := 47) rfl))) Via.refl e20 (F_size.other W17 (Or.inl n_a1_ap)) (g := (mkF m 84 #[rv a1, rv p2, rv p3] [(.ref a1), (.ref ae)])) rfl rfl (hb hby d5_84)
  have P24 : Rch p e below (s₁.setTop (entryFrame m #[(.ref a1), (.ref p2), (.ref p3)] 3)) (T23.setTop (mkF m 87 #[rv a1, rv p2, rv p3] [(.int sz), (.ref ae)])) := fun t k => P22 t (st23 t k)
  have P25 : Rch p e below (s₁.setTop (entryFrame m #[(.ref a1), (.ref p2), (.ref p3)] 3)) (T23.setTop (mkF m 88 #[rv a1, rv p2, rv p3] [(.ref a1), (.int sz), (.ref ae)])) := fun t k => P24 t (by
    show Steps p.tables e below (T23.setTop (mkF m 87 #[rv a1, rv p2, rv p3] [(.int sz), (.ref ae)])) t
    refine XS.aloadN X23.here hx rfl (hb hby d5_87) rfl rfl ?_
    exact k)
  obtain ⟨T26, X26, e26, st26⟩ := getF X23 hx hZ hown (host := "") (Or.inl (hw _ (List.mem_of_getElem? (i := 54) rfl))) Via.refl e23 (F_length.other W17 (Or.inl n_a1_ap)) (g := (mkF m 88 #[rv a1, rv p2, rv p3] [(.ref a1), (.int sz), (.ref ae)])) rfl rfl (hb hby d5_88)
  have P27 : Rch p e below (s₁.setTop (entryFrame m #[(.ref a1), (.ref p2), (.ref p3)] 3)) (T26.setTop (mkF m 91 #[rv a1, rv p2, rv p3] [(.int ln), (.int sz), (.ref ae)])) := fun t k => P25 t (st26 t k)
  have V_o28 := (VE.other W17 (Ne.symm n_ap_ae))
  obtain ⟨co28, Aro28, qo28, So28, Mo28, Ho28, Go28⟩ := V_o28
  have hin29 : ¬ (sz < 0 ∨ co28.slots.size ≤ (sz).toNatClampNeg) := inb_of So28 hi
  obtain ⟨T29, h29, X29, e29, W29, st29⟩ := stI X26 hx hZ e26 Aro28 (j := sz) hin29 (g := (mkF m 91 #[rv a1, rv p2, rv p3] [(.int ln), (.int sz), (.ref ae)])) rfl rfl (hb hby d5_91)
  have V29 : Arv Z h29 ae ke .int (16 : Int32) (ve.set (sz).toNatClampNeg (.int ln)) (.int (0 : Int32)) := Arv.set Aro28 qo28 So28 Mo28 Ho28 Go28 rfl W29 (sz).toNatClampNeg rfl (own_ltl hsz hve)
  have P30 : Rch p e below (s₁.setTop (entryFrame m #[(.ref a1), (.ref p2), (.ref p3)] 3)) (T29.setTop (mkF m 92 #[rv a1, rv p2, rv p3] [])) := fun t k => P27 t (st29 t k)
  have N29 := Fr.snoc X29 N17 g_ae
  have P31 : Rch p e below (s₁.setTop (entryFrame m #[(.ref a1), (.ref p2), (.ref p3)] 3)) (T29.setTop (mkF m 93 #[rv a1, rv p2, rv p3] [(.ref a1)])) := fun t k => P30 t (by
    show Steps p.tables e below (T29.setTop (mkF m 92 #[rv a1, rv p2, rv p3] [])) t
    refine XS.aloadN X29.here hx rfl (hb hby d5_92) rfl rfl ?_
    exact k)
  have f32 : Fld Z h29 a1 "com/example/rideau/rideau/internal/HeldText" "names" "[Ljava/lang/String;" (.ref an) := ((F_names.other W17 (Or.inl n_a1_ap)).other W29 (Or.inl n_a1_ae))
  obtain ⟨T33, X33, e33, st33⟩ := getF X29 hx hZ hown (host := "") (Or.inl (hw _ (List.mem_of_getElem? (i := 40) rfl))) Via.refl e29 f32 (g := (mkF m 93 #[rv a1, rv p2, rv p3] [(.ref a1)])) rfl rfl (hb hby d5_93)
  have P34 : Rch p e below (s₁.setTop (entryFrame m #[(.ref a1), (.ref p2), (.ref p3)] 3)) (T33.setTop (mkF m 96 #[rv a1, rv p2, rv p3] [(.ref an)])) := fun t k => P31 t (st33 t k)
  have P35 : Rch p e below (s₁.setTop (entryFrame m #[(.ref a1), (.ref p2), (.ref p3)] 3)) (T33.setTop (mkF m 97 #[rv a1, rv p2, rv p3] [(.ref a1), (.ref an)])) := fun t k => P34 t (by
    show Steps p.tables e below (T33.setTop (mkF m 96 #[rv a1, rv p2, rv p3] [(.ref an)])) t
    refine XS.aloadN X33.here hx rfl (hb hby d5_96) rfl rfl ?_
    exact k)
  have f36 : Fld Z h29 a1 "com/example/rideau/rideau/internal/HeldText" "size" "I" (.int sz) := ((F_size.other W17 (Or.inl n_a1_ap)).other W29 (Or.inl n_a1_ae))
  obtain ⟨T37, X37, e37, st37⟩ := getF X33 hx hZ hown (host := "") (Or.inl (hw _ (List.mem_of_getElem? (i := 47) rfl))) Via.refl e33 f36 (g := (mkF m 97 #[rv a1, rv p2, rv p3] [(.ref a1), (.ref an)])) rfl rfl (hb hby d5_97)
  have P38 : Rch p e below (s₁.setTop (entryFrame m #[(.ref a1), (.ref p2), (.ref p3)] 3)) (T37.setTop (mkF m 100 #[rv a1, rv p2, rv p3] [(.int sz), (.ref an)])) := fun t k => P35 t (st37 t k)
  have P39 : Rch p e below (s₁.setTop (entryFrame m #[(.ref a1), (.ref p2), (.ref p3)] 3)) (T37.setTop (mkF m 101 #[rv a1, rv p2, rv p3] [(.ref p3), (.int sz), (.ref an)])) := fun t k => P38 t (by
    show Steps p.tables e below (T37.setTop (mkF m 100 #[rv a1, rv p2, rv p3] [(.int sz), (.ref an)])) t
    refine XS.aloadN X37.here hx rfl (hb hby d5_100) rfl rfl ?_
    exact k)
  have f40 : Arv Z h29 an kn (.object "java/lang/String") (16 : Int32) vn .null := ((VN.other W17 (Ne.symm n_ap_an)).other W29 (Ne.symm n_ae_an))
  have V_o41 := f40
  obtain ⟨co41, Aro41, qo41, So41, Mo41, Ho41, Go41⟩ := V_o41
  have hin42 : ¬ (sz < 0 ∨ co41.slots.size ≤ (sz).toNatClampNeg) := inb_of So41 hi
  obtain ⟨T42, h42, X42, e42, W42, st42⟩ := stR X37 hx hZ e37 Aro41 (j := sz) hin42 rfl (Sto.ofV Aro41 qo41 On (Ins.self ((E3.wr W17).wr W29))) (g := (mkF m 101 #[rv a1, rv p2, rv p3] [(.ref p3), (.int sz), (.ref an)])) rfl rfl (hb hby d5_101)
  have V42 : Arv Z h42 an kn (.object "java/lang/String") (16 : Int32) (vn.set (sz).toNatClampNeg (.ref p3)) .null := Arv.set Aro41 qo41 So41 Mo41 Ho41 Go41 rfl W42 (sz).toNatClampNeg rfl (own_ltl hsz hvn)
  have P43 : Rch p e below (s₁.setTop (entryFrame m #[(.ref a1), (.ref p2), (.ref p3)] 3)) (T42.setTop (mkF m 102 #[rv a1, rv p2, rv p3] [])) := fun t k => P39 t (st42 t k)
  have N42 := Fr.snoc X42 N29 g_an
  have P44 : Rch p e below (s₁.setTop (entryFrame m #[(.ref a1), (.ref p2), (.ref p3)] 3)) (T42.setTop (mkF m 104 #[rv a1, rv p2, rv p3] [(.ref a1), (.ref a1)])) := fun t k => P43 t (by
    show Steps p.tables e below (T42.setTop (mkF m 102 #[rv a1, rv p2, rv p3] [])) t
    refine XS.aloadN X42.here hx rfl (hb hby d5_102) rfl rfl ?_
    refine XS.dup X42.here hx rfl (hb hby d5_103) rfl rfl ?_
    exact k)
  obtain ⟨T45, X45, e45, st45⟩ := getF X42 hx hZ hown (host := "") (Or.inl (hw _ (List.mem_of_getElem? (i := 47) rfl))) Via.refl e42 (f36.other W42 (Or.inl n_a1_an)) (g := (mkF m 104 #[rv a1, rv p2, rv p3] [(.ref a1), (.ref a1)])) rfl rfl (hb hby d5_104)
  have P46 : Rch p e below (s₁.setTop (entryFrame m #[(.ref a1), (.ref p2), (.ref p3)] 3)) (T45.setTop (mkF m 107 #[rv a1, rv p2, rv p3] [(.int sz), (.ref a1)])) := fun t k => P44 t (st45 t k)
  obtain ⟨x47, hx47⟩ : ∃ z : Int32, z = (sz + (1 : Int32)) := ⟨_, rfl⟩
  have P48 : Rch p e below (s₁.setTop (entryFrame m #[(.ref a1), (.ref p2), (.ref p3)] 3)) (T45.setTop (mkF m 109 #[rv a1, rv p2, rv p3] [(.int x47), (.ref a1)])) := fun t k => P46 t (by
    subst hx47
    show Steps p.tables e below (T45.setTop (mkF m 107 #[rv a1, rv p2, rv p3] [(.int sz), (.ref a1)])) t
    refine XS.iconst X45.here hx rfl (hb hby d5_107) ?_
    refine XS.iadd X45.here hx rfl (hb hby d5_108) rfl ?_
    exact k)
  obtain ⟨T49, h49, X49, e49, W49, st49⟩ := putF X45 hx hZ hown (host := "") (Or.inl (hw _ (List.mem_of_getElem? (i := 47) rfl))) Via.refl e45 (f36.other W42 (Or.inl n_a1_an)) (((E1.wr W17).wr W29).wr W42) (Or.inl (hw _ (List.mem_of_getElem? (i := 48) rfl))) (hw _ (List.mem_of_getElem? (i := 22) rfl)) (ty := .int) (by decide) rfl rfl (g := (mkF m 109 #[rv a1, rv p2, rv p3] [(.int x47), (.ref a1)])) rfl rfl (hb hby d5_109)
  have Fw49 := (f36.other W42 (Or.inl n_a1_an)).same W49
  have P50 : Rch p e below (s₁.setTop (entryFrame m #[(.ref a1), (.ref p2), (.ref p3)] 3)) (T49.setTop (mkF m 112 #[rv a1, rv p2, rv p3] [])) := fun t k => P48 t (st49 t k)
  have N49 := Fr.snoc X49 N42 g_a1
  obtain ⟨fs, hr, hrun, hended, hW, hsame⟩ := X49.leave (v := none) (fun _ => rfl)
  refine ⟨_, _, P50 _ ?_, hrun, hended, _, _, rfl, ?_, ⟨_, rfl⟩, hW, hsame.mono (by decide) (by decide)⟩
  · exact X49.returnOut hx Bd.returns (hb hby d5_112) hr
  · show Q_rmAS Z a1 ac ap ae an kp ke kn p2 p3 sz ln vp ve vn h0 n0 _ T49.heap _
    rw [e49]
    have f51 : Arv Z h49 ap kp (.object "com/example/rideau/rideau/internal/HeldText$Piece") (16 : Int32) (vp.set (sz).toNatClampNeg (.ref p2)) .null := (((V17.other W29 n_ap_ae).other W42 n_ap_an).other W49 (Ne.symm n_a1_ap))
    have f52 : Keep h0 h49 [a1, ap, ae, an] := (((((Keep.refl h0 [a1, ap, ae, an]).wr W17 (Or.inl (List.mem_of_getElem? (i := 1) rfl))).wr W29 (Or.inl (List.mem_of_getElem? (i := 2) rfl))).wr W42 (Or.inl (List.mem_of_getElem? (i := 3) rfl))).wr W49 (Or.inl (List.mem_of_getElem? (i := 0) rfl)))
    have f53 : Fld Z h49 a1 "com/example/rideau/rideau/internal/HeldText" "chars" "[C" (.ref ac) := ((((F_chars.other W17 (Or.inl n_a1_ap)).other W29 (Or.inl n_a1_ae)).other W42 (Or.inl n_a1_an)).other W49 (Or.inr (slot_ne (Or.inl (hw _ (List.mem_of_getElem? (i := 31) rfl))) (Or.inl (hw _ (List.mem_of_getElem? (i := 48) rfl))) (by decide) (t := (.array .char)) (t' := .int) (by decide) (by decide))))
    have f54 : Fld Z h49 a1 "com/example/rideau/rideau/internal/HeldText" "pieces" "[Lcom/example/rideau/rideau/internal/HeldText$Piece;" (.ref ap) := ((((F_pieces.other W17 (Or.inl n_a1_ap)).other W29 (Or.inl n_a1_ae)).other W42 (Or.inl n_a1_an)).other W49 (Or.inr (slot_ne (Or.inl (hw _ (List.mem_of_getElem? (i := 34) rfl))) (Or.inl (hw _ (List.mem_of_getElem? (i := 48) rfl))) (by decide) (t := (.array (.object "com/example/rideau/rideau/internal/HeldText$Piece"))) (t' := .int) (by decide) (by decide))))
    have f55 : Fld Z h49 a1 "com/example/rideau/rideau/internal/HeldText" "ends" "[I" (.ref ae) := ((((F_ends.other W17 (Or.inl n_a1_ap)).other W29 (Or.inl n_a1_ae)).other W42 (Or.inl n_a1_an)).other W49 (Or.inr (slot_ne (Or.inl (hw _ (List.mem_of_getElem? (i := 37) rfl))) (Or.inl (hw _ (List.mem_of_getElem? (i := 48) rfl))) (by decide) (t := (.array .int)) (t' := .int) (by decide) (by decide))))
    have f56 : Fld Z h49 a1 "com/example/rideau/rideau/internal/HeldText" "names" "[Ljava/lang/String;" (.ref an) := ((f32.other W42 (Or.inl n_a1_an)).other W49 (Or.inr (slot_ne (Or.inl (hw _ (List.mem_of_getElem? (i := 41) rfl))) (Or.inl (hw _ (List.mem_of_getElem? (i := 48) rfl))) (by decide) (t := (.array (.object "java/lang/String"))) (t' := .int) (by decide) (by decide))))
    have f57 : Fld Z h49 a1 "com/example/rideau/rideau/internal/HeldText" "length" "I" (.int ln) := ((((F_length.other W17 (Or.inl n_a1_ap)).other W29 (Or.inl n_a1_ae)).other W42 (Or.inl n_a1_an)).other W49 (Or.inr (slot_ne (Or.inl (hw _ (List.mem_of_getElem? (i := 55) rfl))) (Or.inl (hw _ (List.mem_of_getElem? (i := 48) rfl))) (by decide) (t := .int) (t' := .int) (by decide) (by decide))))
    exact ⟨x47, (vp.set (sz).toNatClampNeg (.ref p2)), (ve.set (sz).toNatClampNeg (.int ln)), (vn.set (sz).toNatClampNeg (.ref p3)), rfl, N49, f52, ((((E1.wr W17).wr W29).wr W42).wr W49), f53, f54, f55, f56, Fw49, f57, f51, ((V29.other W42 n_ae_an).other W49 (Ne.symm n_a1_ae)), (V42.other W49 (Ne.symm n_a1_an)), (by rw [hx47]; exact own_inc hsz), (by rw [List.length_set]; exact hvp), (by rw [List.length_set]; exact hve), (by rw [List.length_set]; exact hvn)⟩
def Q_rmTS (Z : State) (a1 : Addr) (ac : Addr) (ap : Addr) (ae : Addr) (an : Addr) (kc : ClassId) (kp : ClassId) (ke : ClassId) (kn : ClassId) (p2 : Addr) (sm : Addr) (ks : ClassId) (vs : List Value) (p5 : Int32) (zc : Int32) (vc : List Value) (vp : List Value) (ve : List Value) (vn : List Value) (h0 : Heap) (n0 : Nat) (v : Option Value) (h : Heap) (L : List Loc) : Prop := ∃ (szx : Int32), ∃ (lnx : Int32), ∃ (vcx : List Value), ∃ (vpx : List Value), ∃ (vex : List Value), ∃ (vnx : List Value), v = none ∧ Fr n0 L ∧ Keep h0 h [a1, ac, ap, ae, an] ∧ (Exa Z h a1 "com/example/rideau/rideau/internal/HeldText") ∧ (Fld Z h a1 "com/example/rideau/rideau/internal/HeldText" "chars" "[C" (.ref ac)) ∧ (Fld Z h a1 "com/example/rideau/rideau/internal/HeldText" "pieces" "[Lcom/example/rideau/rideau/internal/HeldText$Piece;" (.ref ap)) ∧ (Fld Z h a1 "com/example/rideau/rideau/internal/HeldText" "ends" "[I" (.ref ae)) ∧ (Fld Z h a1 "com/example/rideau/rideau/internal/HeldText" "names" "[Ljava/lang/String;" (.ref an)) ∧ (Fld Z h a1 "com/example/rideau/rideau/internal/HeldText" "size" "I" (.int szx)) ∧ (Fld Z h a1 "com/example/rideau/rideau/internal/HeldText" "length" "I" (.int lnx)) ∧ (Arv Z h ac kc .char zc vcx (.int (0 : Int32))) ∧ (Arv Z h ap kp (.object "com/example/rideau/rideau/internal/HeldText$Piece") (16 : Int32) vpx .null) ∧ (Arv Z h ae ke .int (16 : Int32) vex (.int (0 : Int32))) ∧ (Arv Z h an kn (.object "java/lang/String") (16 : Int32) vnx .null) ∧ (szx.toInt = 1) ∧ (0 ≤ lnx.toInt ∧ lnx.toInt ≤ 2) ∧ (vpx.length = 16) ∧ (vex.length = 16) ∧ (vnx.length = 16)
set_option maxRecDepth 65536 in
set_option maxHeartbeats 40000000 in
theorem rmTS (l : Launch) (Z : State) (a0 : Array Value) (hw : ∀ d ∈ tables_1, d.before a0 Z = true) (ws : List Jvm.Cond) (a1 : Addr) (ac : Addr) (ap : Addr) (ae : Addr) (an : Addr) (kc : ClassId) (kp : ClassId) (ke : ClassId) (kn : ClassId) (p2 : Addr) (sm : Addr) (ks : ClassId) (vs : List Value) (p5 : Int32) (zc : Int32) (vc : List Value) (vp : List Value) (ve : List Value) (vn : List Value) (h0 : Heap) (n0 : Nat) (Z0 : n0 ≤ h0.size) (E1 : Exa Z h0 a1 "com/example/rideau/rideau/internal/HeldText") (F_chars : Fld Z h0 a1 "com/example/rideau/rideau/internal/HeldText" "chars" "[C" (.ref ac)) (F_pieces : Fld Z h0 a1 "com/example/rideau/rideau/internal/HeldText" "pieces" "[Lcom/example/rideau/rideau/internal/HeldText$Piece;" (.ref ap)) (F_ends : Fld Z h0 a1 "com/example/rideau/rideau/internal/HeldText" "ends" "[I" (.ref ae)) (F_names : Fld Z h0 a1 "com/example/rideau/rideau/internal/HeldText" "names" "[Ljava/lang/String;" (.ref an)) (F_size : Fld Z h0 a1 "com/example/rideau/rideau/internal/HeldText" "size" "I" (.int (0 : Int32))) (F_length : Fld Z h0 a1 "com/example/rideau/rideau/internal/HeldText" "length" "I" (.int (0 : Int32))) (VC : Arv Z h0 ac kc .char zc vc (.int (0 : Int32))) (VP : Arv Z h0 ap kp (.object "com/example/rideau/rideau/internal/HeldText$Piece") (16 : Int32) vp .null) (VE : Arv Z h0 ae ke .int (16 : Int32) ve (.int (0 : Int32))) (VN : Arv Z h0 an kn (.object "java/lang/String") (16 : Int32) vn .null) (E2 : Exa Z h0 p2 "com/example/rideau/rideau/internal/HeldText$Piece") (VS : Arv Z h0 sm ks .char (2 : Int32) vs (.int (0 : Int32))) (g_a1 : n0 ≤ a1) (g_ac : n0 ≤ ac) (g_ap : n0 ≤ ap) (g_ae : n0 ≤ ae) (g_an : n0 ≤ an) (n_a1_ac : a1 ≠ ac) (n_a1_ap : a1 ≠ ap) (n_a1_ae : a1 ≠ ae) (n_a1_an : a1 ≠ an) (n_ac_ap : ac ≠ ap) (n_ac_ae : ac ≠ ae) (n_ac_an : ac ≠ an) (n_ap_ae : ap ≠ ae) (n_ap_an : ap ≠ an) (n_ae_an : ae ≠ an) (Op : Ovr Z kp "com/example/rideau/rideau/internal/HeldText$Piece") (On : Ovr Z kn "java/lang/String") (hvp : vp.length = 16) (hve : ve.length = 16) (hvn : vn.length = 16) (hp5 : 0 ≤ p5.toInt ∧ p5.toInt ≤ 2) (hzc : 256 ≤ zc.toInt) (n_sm_a1 : sm ≠ a1) :
    MetFree l (⟨"com/example/rideau/rideau/internal/HeldText", "text", "(Lcom/example/rideau/rideau/internal/HeldText$Piece;[CII)V"⟩ : MethodName) (head1 (Jvm.Cond.code (⟨"com/example/rideau/rideau/internal/HeldText", "text", "(Lcom/example/rideau/rideau/internal/HeldText$Piece;[CII)V"⟩ : MethodName) prog_17_method_3_code 5 none :: ws) ({ frames := 1, cells := 0, slots := 0, locals := 18 } : Room)) (fun a U => a = #[(.ref a1), (.ref p2), (.ref sm), (.int (0 : Int32)), (.int p5)] ∧ Z.Warmed39 U.vm ∧ U.heap = h0) (fun _ _ _ _ _ => True) (fun _ U o U' => ∃ v L, o = .returned v ∧ Q_rmTS Z a1 ac ap ae an kc kp ke kn p2 sm ks vs p5 zc vc vp ve vn h0 n0 v U'.heap L ∧ FrameEnd U o U' L ({ frames := 1, cells := 0, slots := 0, locals := 18 } : Room).cells ({ frames := 1, cells := 0, slots := 0, locals := 18 } : Room).slots) := by
  refine MetFree.of_bodySF (plainFor_of_name pn_0) hisR ?_
  intro p e s m args below meth c s₁ Bd hml0 hP hK
  obtain ⟨rfl, hZ, hh⟩ := hP
  have hx := Bd.exec
  have hby := Bd.bytes
  have hml : c.maxLocals = 5 := hml0
  have hown : s.vm.findClass "com/example/rideau/rideau/internal/HeldText" = some m.cls := findClass_of_methodNamed Bd.named
  have hnm := (name_of_methodNamed Bd.named Bd.method).1
  have X0 : Stand p l e ({ frames := 1, cells := 0, slots := 0, locals := 18 } : Room) s m #[(.ref a1), (.ref p2), (.ref sm), (.int (0 : Int32)), (.int p5)] below meth c s₁ [] 0 0 := Stand.of_body Bd
  have e0 : s₁.heap = h0 := by rw [← hh, Bd.state]; rfl
  have N0 := Fr.nil n0
  have P0 : Rch p e below (s₁.setTop (entryFrame m #[(.ref a1), (.ref p2), (.ref sm), (.int (0 : Int32)), (.int p5)] 5)) (s₁.setTop (mkF m 0 #[rv a1, rv p2, rv sm, iv (0 : Int32), iv p5] [])) := fun t k => castTop (by first | (simp [entryFrame, mkF, argsToLocals, Value.category]; done) | rfl) k
  have P1 : Rch p e below (s₁.setTop (entryFrame m #[(.ref a1), (.ref p2), (.ref sm), (.int (0 : Int32)), (.int p5)] 5)) (s₁.setTop (mkF m 1 #[rv a1, rv p2, rv sm, iv (0 : Int32), iv p5] [(.ref a1)])) := fun t k => P0 t (by
    show Steps p.tables e below (s₁.setTop (mkF m 0 #[rv a1, rv p2, rv sm, iv (0 : Int32), iv p5] [])) t
    refine XS.aloadN X0.here hx rfl (hb hby d6_0) rfl rfl ?_
    exact k)
  obtain ⟨T2, X2, e2, st2⟩ := getF X0 hx hZ hown (host := "") (Or.inl (hw _ (List.mem_of_getElem? (i := 54) rfl))) Via.refl e0 F_length (g := (mkF m 1 #[rv a1, rv p2, rv sm, iv (0 : Int32), iv p5] [(.ref a1)])) rfl rfl (hb hby d6_1)
  have P3 : Rch p e below (s₁.setTop (entryFrame m #[(.ref a1), (.ref p2), (.ref sm), (.int (0 : Int32)), (.int p5)] 5)) (T2.setTop (mkF m 4 #[rv a1, rv p2, rv sm, iv (0 : Int32), iv p5] [(.int (0 : Int32))])) := fun t k => P1 t (st2 t k)
  obtain ⟨x4, hx4⟩ : ∃ z : Int32, z = ((0 : Int32) + p5) := ⟨_, rfl⟩
  have P5 : Rch p e below (s₁.setTop (entryFrame m #[(.ref a1), (.ref p2), (.ref sm), (.int (0 : Int32)), (.int p5)] 5)) (T2.setTop (mkF m 8 #[rv a1, rv p2, rv sm, iv (0 : Int32), iv p5] [(.ref a1), (.int x4)])) := fun t k => P3 t (by
    subst hx4
    show Steps p.tables e below (T2.setTop (mkF m 4 #[rv a1, rv p2, rv sm, iv (0 : Int32), iv p5] [(.int (0 : Int32))])) t
    refine XS.iload X2.here hx rfl (hb hby d6_4) rfl ?_
    refine XS.iadd X2.here hx rfl (hb hby d6_6) rfl ?_
    refine XS.aloadN X2.here hx rfl (hb hby d6_7) rfl rfl ?_
    exact k)
  obtain ⟨T6, X6, e6, st6⟩ := getF X2 hx hZ hown (host := "") (Or.inl (hw _ (List.mem_of_getElem? (i := 30) rfl))) Via.refl e2 F_chars (g := (mkF m 8 #[rv a1, rv p2, rv sm, iv (0 : Int32), iv p5] [(.ref a1), (.int x4)])) rfl rfl (hb hby d6_8)
  have P7 : Rch p e below (s₁.setTop (entryFrame m #[(.ref a1), (.ref p2), (.ref sm), (.int (0 : Int32)), (.int p5)] 5)) (T6.setTop (mkF m 11 #[rv a1, rv p2, rv sm, iv (0 : Int32), iv p5] [(.ref ac), (.int x4)])) := fun t k => P5 t (st6 t k)
  have V_o8 := VC
  obtain ⟨co8, Aro8, qo8, So8, Mo8, Ho8, Go8⟩ := V_o8
  have P9 : Rch p e below (s₁.setTop (entryFrame m #[(.ref a1), (.ref p2), (.ref sm), (.int (0 : Int32)), (.int p5)] 5)) (T6.setTop (mkF m 12 #[rv a1, rv p2, rv sm, iv (0 : Int32), iv p5] [(.int zc), (.int x4)])) := fun t k => P7 t (by
    refine X6.arraylength hx (by rw [e6]; exact Aro8.1) (State.isArrayOf_alike hZ.alike Aro8.2.1) (g := (mkF m 11 #[rv a1, rv p2, rv sm, iv (0 : Int32), iv p5] [(.ref ac), (.int x4)])) rfl rfl (hb hby d6_11) _ ?_
    rw [len_of So8 Mo8]; exact k)
  have hno : ¬ (zc < x4) := own_fits hp5 hzc (by first | exact hx4 | rfl)
  have P10 : Rch p e below (s₁.setTop (entryFrame m #[(.ref a1), (.ref p2), (.ref sm), (.int (0 : Int32)), (.int p5)] 5)) (T6.setTop (mkF m 46 #[rv a1, rv p2, rv sm, iv (0 : Int32), iv p5] [(.ref a1), (.int (0 : Int32)), (.ref sm)])) := fun t k => P9 t (by
    show Steps p.tables e below (T6.setTop (mkF m 12 #[rv a1, rv p2, rv sm, iv (0 : Int32), iv p5] [(.int zc), (.int x4)])) t
    refine XS.icmpYes X6.here hx rfl (pc0 := 12) (pc' := 43) rfl (hb hby d6_12) rfl (flt hno).2.2.2 (by decide) (by decide) ?_
    refine XS.aloadN X6.here hx rfl (hb hby d6_43) rfl rfl ?_
    refine XS.iloadN X6.here hx rfl (hb hby d6_44) rfl ?_
    show Steps p.tables e below (T6.setTop (mkF m 45 #[rv a1, rv p2, rv sm, iv (0 : Int32), iv p5] [(.int (0 : Int32)), (.ref sm)])) t
    refine XS.aloadN X6.here hx rfl (hb hby d6_45) rfl rfl ?_
    exact k)
  obtain ⟨T11, X11, e11, st11⟩ := getF X6 hx hZ hown (host := "") (Or.inl (hw _ (List.mem_of_getElem? (i := 30) rfl))) Via.refl e6 F_chars (g := (mkF m 46 #[rv a1, rv p2, rv sm, iv (0 : Int32), iv p5] [(.ref a1), (.int (0 : Int32)), (.ref sm)])) rfl rfl (hb hby d6_46)
  have P12 : Rch p e below (s₁.setTop (entryFrame m #[(.ref a1), (.ref p2), (.ref sm), (.int (0 : Int32)), (.int p5)] 5)) (T11.setTop (mkF m 49 #[rv a1, rv p2, rv sm, iv (0 : Int32), iv p5] [(.ref ac), (.int (0 : Int32)), (.ref sm)])) := fun t k => P10 t (st11 t k)
  have P13 : Rch p e below (s₁.setTop (entryFrame m #[(.ref a1), (.ref p2), (.ref sm), (.int (0 : Int32)), (.int p5)] 5)) (T11.setTop (mkF m 50 #[rv a1, rv p2, rv sm, iv (0 : Int32), iv p5] [(.ref a1), (.ref ac), (.int (0 : Int32)), (.ref sm)])) := fun t k => P12 t (by
    show Steps p.tables e below (T11.setTop (mkF m 49 #[rv a1, rv p2, rv sm, iv (0 : Int32), iv p5] [(.ref ac), (.int (0 : Int32)), (.ref sm)])) t
    refine XS.aloadN X11.here hx rfl (hb hby d6_49) rfl rfl ?_
    exact k)
  obtain ⟨T14, X14, e14, st14⟩ := getF X11 hx hZ hown (host := "") (Or.inl (hw _ (List.mem_of_getElem? (i := 54) rfl))) Via.refl e11 F_length (g := (mkF m 50 #[rv a1, rv p2, rv sm, iv (0 : Int32), iv p5] [(.ref a1), (.ref ac), (.int (0 : Int32)), (.ref sm)])) rfl rfl (hb hby d6_50)
  have P15 : Rch p e below (s₁.setTop (entryFrame m #[(.ref a1), (.ref p2), (.ref sm), (.int (0 : Int32)), (.int p5)] 5)) (T14.setTop (mkF m 53 #[rv a1, rv p2, rv sm, iv (0 : Int32), iv p5] [(.int (0 : Int32)), (.ref ac), (.int (0 : Int32)), (.ref sm)])) := fun t k => P13 t (st14 t k)
  have P16 : Rch p e below (s₁.setTop (entryFrame m #[(.ref a1), (.ref p2), (.ref sm), (.int (0 : Int32)), (.int p5)] 5)) (T14.setTop (mkF m 55 #[rv a1, rv p2, rv sm, iv (0 : Int32), iv p5] [(.int p5), (.int (0 : Int32)), (.ref ac), (.int (0 : Int32)), (.ref sm)])) := fun t k => P15 t (by
    show Steps p.tables e below (T14.setTop (mkF m 53 #[rv a1, rv p2, rv sm, iv (0 : Int32), iv p5] [(.int (0 : Int32)), (.ref ac), (.int (0 : Int32)), (.ref sm)])) t
    refine XS.iload X14.here hx rfl (hb hby d6_53) rfl ?_
    exact k)
  obtain ⟨vf, hvf, VF⟩ := own_full VC
  have hcb := own_cb hp5 hzc
  obtain ⟨T17, h17, L17, X17, e17, N17, K17, A17, st17⟩ := cpA X14 hx hZ hown (hw _ (List.mem_of_getElem? (i := 81) rfl)) (hw _ (List.mem_of_getElem? (i := 80) rfl)) (hw _ (List.mem_of_getElem? (i := 78) rfl)) (hw _ (List.mem_of_getElem? (i := 79) rfl)) e14 VS VF (us := ((List.range (p5).toNatClampNeg).map fun i => (vs).getD (((0 : Int32)).toNatClampNeg + i) (.int (0 : Int32)))) (Or.inl ⟨rfl, rfl⟩) (by decide) (by decide) hcb.1 hcb.2.1 hcb.2.2 rfl (by rw [hvf]; exact hcb.2.2) N0 g_ac (g := (mkF m 55 #[rv a1, rv p2, rv sm, iv (0 : Int32), iv p5] [(.int p5), (.int (0 : Int32)), (.ref ac), (.int (0 : Int32)), (.ref sm)])) rfl (by rw [hml]; rfl) rfl (hb hby d6_55) (by decide) (W := 0) (by show 2 * 0 + _ ≤ _; exact Nat.le_of_eq rfl) (by decide)
  obtain ⟨vh17, V17⟩ : ∃ vs : List Value, Arv Z h17 ac kc .char zc vs (.int (0 : Int32)) := ⟨_, A17⟩
  have P18 : Rch p e below (s₁.setTop (entryFrame m #[(.ref a1), (.ref p2), (.ref sm), (.int (0 : Int32)), (.int p5)] 5)) (T17.setTop (mkF m 58 #[rv a1, rv p2, rv sm, iv (0 : Int32), iv p5] [])) := fun t k => P16 t (st17 t k)
  have P19 : Rch p e below (s₁.setTop (entryFrame m #[(.ref a1), (.ref p2), (.ref sm), (.int (0 : Int32)), (.int p5)] 5)) (T17.setTop (mkF m 60 #[rv a1, rv p2, rv sm, iv (0 : Int32), iv p5] [(.ref a1), (.ref a1)])) := fun t k => P18 t (by
    show Steps p.tables e below (T17.setTop (mkF m 58 #[rv a1, rv p2, rv sm, iv (0 : Int32), iv p5] [])) t
    refine XS.aloadN X17.here hx rfl (hb hby d6_58) rfl rfl ?_
    refine XS.dup X17.here hx rfl (hb hby d6_59) rfl rfl ?_
    exact k)
  obtain ⟨T20, X20, e20, st20⟩ := getF X17 hx hZ hown (host := "") (Or.inl (hw _ (List.mem_of_getElem? (i := 54) rfl))) Via.refl e17 (F_length.keep K17 (ninS n_a1_ac nin0)) (g := (mkF m 60 #[rv a1, rv p2, rv sm, iv (0 : Int32), iv p5] [(.ref a1), (.ref a1)])) rfl rfl (hb hby d6_60)
  have P21 : Rch p e below (s₁.setTop (entryFrame m #[(.ref a1), (.ref p2), (.ref sm), (.int (0 : Int32)), (.int p5)] 5)) (T20.setTop (mkF m 63 #[rv a1, rv p2, rv sm, iv (0 : Int32), iv p5] [(.int (0 : Int32)), (.ref a1)])) := fun t k => P19 t (st20 t k)
  obtain ⟨x22, hx22⟩ : ∃ z : Int32, z = ((0 : Int32) + p5) := ⟨_, rfl⟩
  have P23 : Rch p e below (s₁.setTop (entryFrame m #[(.ref a1), (.ref p2), (.ref sm), (.int (0 : Int32)), (.int p5)] 5)) (T20.setTop (mkF m 66 #[rv a1, rv p2, rv sm, iv (0 : Int32), iv p5] [(.int x22), (.ref a1)])) := fun t k => P21 t (by
    subst hx22
    show Steps p.tables e below (T20.setTop (mkF m 63 #[rv a1, rv p2, rv sm, iv (0 : Int32), iv p5] [(.int (0 : Int32)), (.ref a1)])) t
    refine XS.iload X20.here hx rfl (hb hby d6_63) rfl ?_
    refine XS.iadd X20.here hx rfl (hb hby d6_65) rfl ?_
    exact k)
  obtain ⟨T24, h24, X24, e24, W24, st24⟩ := putF X20 hx hZ hown (host := "") (Or.inl (hw _ (List.mem_of_getElem? (i := 54) rfl))) Via.refl e20 (F_length.keep K17 (ninS n_a1_ac nin0)) (E1.keep K17) (Or.inl (hw _ (List.mem_of_getElem? (i := 55) rfl))) (hw _ (List.mem_of_getElem? (i := 22) rfl)) (ty := .int) (by decide) rfl rfl (g := (mkF m 66 #[rv a1, rv p2, rv sm, iv (0 : Int32), iv p5] [(.int x22), (.ref a1)])) rfl rfl (hb hby d6_66)
  have Fw24 := (F_length.keep K17 (ninS n_a1_ac nin0)).same W24
  have P25 : Rch p e below (s₁.setTop (entryFrame m #[(.ref a1), (.ref p2), (.ref sm), (.int (0 : Int32)), (.int p5)] 5)) (T24.setTop (mkF m 69 #[rv a1, rv p2, rv sm, iv (0 : Int32), iv p5] [])) := fun t k => P23 t (st24 t k)
  have N24 := Fr.snoc X24 N17 g_a1
  have P26 : Rch p e below (s₁.setTop (entryFrame m #[(.ref a1), (.ref p2), (.ref sm), (.int (0 : Int32)), (.int p5)] 5)) (T24.setTop (mkF m 70 #[rv a1, rv p2, rv sm, iv (0 : Int32), iv p5] [(.ref a1)])) := fun t k => P25 t (by
    show Steps p.tables e below (T24.setTop (mkF m 69 #[rv a1, rv p2, rv sm, iv (0 : Int32), iv p5] [])) t
    refine XS.aloadN X24.here hx rfl (hb hby d6_69) rfl rfl ?_
    exact k)
  have f27 : Fld Z h24 a1 "com/example/rideau/rideau/internal/HeldText" "size" "I" (.int (0 : Int32)) := ((F_size.keep K17 (ninS n_a1_ac nin0)).other W24 (Or.inr (slot_ne (Or.inl (hw _ (List.mem_of_getElem? (i := 48) rfl))) (Or.inl (hw _ (List.mem_of_getElem? (i := 55) rfl))) (by decide) (t := .int) (t' := .int) (by decide) (by decide))))
  obtain ⟨T28, X28, e28, st28⟩ := getF X24 hx hZ hown (host := "") (Or.inl (hw _ (List.mem_of_getElem? (i := 47) rfl))) Via.refl e24 f27 (g := (mkF m 70 #[rv a1, rv p2, rv sm, iv (0 : Int32), iv p5] [(.ref a1)])) rfl rfl (hb hby d6_70)
  have P29 : Rch p e below (s₁.setTop (entryFrame m #[(.ref a1), (.ref p2), (.ref sm), (.int (0 : Int32)), (.int p5)] 5)) (T28.setTop (mkF m 73 #[rv a1, rv p2, rv sm, iv (0 : Int32), iv p5] [(.int (0 : Int32))])) := fun t k => P26 t (st28 t k)
  have P30 : Rch p e below (s₁.setTop (entryFrame m #[(.ref a1), (.ref p2), (.ref sm), (.int (0 : Int32)), (.int p5)] 5)) (T28.setTop (mkF m 112 #[rv a1, rv p2, rv sm, iv (0 : Int32), iv p5] [.null, (.ref p2), (.ref a1)])) := fun t k => P29 t (by
    show Steps p.tables e below (T28.setTop (mkF m 73 #[rv a1, rv p2, rv sm, iv (0 : Int32), iv p5] [(.int (0 : Int32))])) t
    refine XS.ifYes X28.here hx rfl (pc0 := 73) (pc' := 109) rfl (hb hby d6_73) rfl ((if0 _ _).trans (flt (by decide)).2.2.2) (by decide) (by decide) ?_
    refine XS.aloadN X28.here hx rfl (hb hby d6_109) rfl rfl ?_
    refine XS.aloadN X28.here hx rfl (hb hby d6_110) rfl rfl ?_
    show Steps p.tables e below (T28.setTop (mkF m 111 #[rv a1, rv p2, rv sm, iv (0 : Int32), iv p5] [(.ref p2), (.ref a1)])) t
    refine XS.aconstNull X28.here hx rfl (hb hby d6_111) ?_
    exact k)
  have f32 : Fld Z h24 a1 "com/example/rideau/rideau/internal/HeldText" "chars" "[C" (.ref ac) := ((F_chars.keep K17 (ninS n_a1_ac nin0)).other W24 (Or.inr (slot_ne (Or.inl (hw _ (List.mem_of_getElem? (i := 31) rfl))) (Or.inl (hw _ (List.mem_of_getElem? (i := 55) rfl))) (by decide) (t := (.array .char)) (t' := .int) (by decide) (by decide))))
  have f33 : Fld Z h24 a1 "com/example/rideau/rideau/internal/HeldText" "pieces" "[Lcom/example/rideau/rideau/internal/HeldText$Piece;" (.ref ap) := ((F_pieces.keep K17 (ninS n_a1_ac nin0)).other W24 (Or.inr (slot_ne (Or.inl (hw _ (List.mem_of_getElem? (i := 34) rfl))) (Or.inl (hw _ (List.mem_of_getElem? (i := 55) rfl))) (by decide) (t := (.array (.object "com/example/rideau/rideau/internal/HeldText$Piece"))) (t' := .int) (by decide) (by decide))))
  have f34 : Fld Z h24 a1 "com/example/rideau/rideau/internal/HeldText" "ends" "[I" (.ref ae) := ((F_ends.keep K17 (ninS n_a1_ac nin0)).other W24 (Or.inr (slot_ne (Or.inl (hw _ (List.mem_of_getElem? (i := 37) rfl))) (Or.inl (hw _ (List.mem_of_getElem? (i := 55) rfl))) (by decide) (t := (.array .int)) (t' := .int) (by decide) (by decide))))
  have f35 : Fld Z h24 a1 "com/example/rideau/rideau/internal/HeldText" "names" "[Ljava/lang/String;" (.ref an) := ((F_names.keep K17 (ninS n_a1_ac nin0)).other W24 (Or.inr (slot_ne (Or.inl (hw _ (List.mem_of_getElem? (i := 41) rfl))) (Or.inl (hw _ (List.mem_of_getElem? (i := 55) rfl))) (by decide) (t := (.array (.object "java/lang/String"))) (t' := .int) (by decide) (by decide))))
  have f36 : Arv Z h24 ap kp (.object "com/example/rideau/rideau/internal/HeldText$Piece") (16 : Int32) vp .null := ((VP.keep K17 (ninS (Ne.symm n_ac_ap) nin0)).other W24 (Ne.symm n_a1_ap))
  have f37 : Arv Z h24 ae ke .int (16 : Int32) ve (.int (0 : Int32)) := ((VE.keep K17 (ninS (Ne.symm n_ac_ae) nin0)).other W24 (Ne.symm n_a1_ae))
  have f38 : Arv Z h24 an kn (.object "java/lang/String") (16 : Int32) vn .null := ((VN.keep K17 (ninS (Ne.symm n_ac_an) nin0)).other W24 (Ne.symm n_a1_an))
  have f39 : n0 ≤ h24.size := (Nat.le_trans (Nat.le_trans Z0 K17.1) (Keep.of_wr W24).1)
  obtain ⟨cq31, kq31, q31a, q31b, q31c⟩ := isOf hZ e28 ((E1.keep K17).wr W24)
  obtain ⟨_, _, ⟨T31, L31, k31, n31⟩, -, X31, ⟨Lc31, hQ31, l31, y31, z31⟩, st31⟩ := X28.virtualBack hx (y := (⟨"com/example/rideau/rideau/internal/HeldText", "add", "(Lcom/example/rideau/rideau/internal/HeldText$Piece;Ljava/lang/String;)V"⟩ : MethodName)) (z := (⟨"com/example/rideau/rideau/internal/HeldText", "add", "(Lcom/example/rideau/rideau/internal/HeldText$Piece;Ljava/lang/String;)V"⟩ : MethodName)) hown (mvT hZ (hw _ (List.mem_of_getElem? (i := 82) rfl))) (mvT hZ (hw _ (List.mem_of_getElem? (i := 57) rfl))) (notFace_of_selects (args := #[]) (mvT hZ (hw _ (List.mem_of_getElem? (i := 59) rfl)))) (mvT hZ (hw _ (List.mem_of_getElem? (i := 59) rfl))) (mvT hZ (hw _ (List.mem_of_getElem? (i := 58) rfl))) (by decide) (backOf (W := 0) (rmAN l Z a0 hw [] a1 ac ap ae an kp ke kn p2 (0 : Int32) x22 vp ve vn h24 n0 f39 ((E1.keep K17).wr W24) f32 f33 f34 f35 f27 Fw24 f36 f37 f38 ((E2.keep K17).wr W24) g_a1 g_ac g_ap g_ae g_an n_a1_ac n_a1_ap n_a1_ae n_a1_an n_ac_ap n_ac_ae n_ac_an n_ap_ae n_ap_an n_ae_an Op On hvp hve hvn (by decide)) hZ (hw _ (List.mem_of_getElem? (i := 60) rfl)) (hw _ (List.mem_of_getElem? (i := 23) rfl)) (by decide) (by decide)) q31a q31c (g := (mkF m 112 #[rv a1, rv p2, rv sm, iv (0 : Int32), iv p5] [.null, (.ref p2), (.ref a1)])) rfl (by rw [hml]; rfl) (Steps.refl _) (argsL := [(.ref p2), .null]) (rest := []) (lenOf pd_0 rfl) rfl (by show 2 * 0 + _ ≤ _; exact Nat.le_of_eq rfl) (hb hby d6_112) (fun _ _ => ⟨rfl, e28, (by decide : 0 + 0 ≤ _), (by decide : 0 + 0 ≤ _)⟩)
  dsimp only [Pt.U, Pt.locs, Pt.cells, Pt.slots] at X31 l31 y31 z31 st31 hQ31
  subst y31 z31
  obtain ⟨szx_31, vpx_31, vex_31, vnx_31, rfl, N31q, K31, E1_31, F_chars_31, F_pieces_31, F_ends_31, F_names_31, F_size_31, F_length_31, VP_31, VE_31, VN_31, hszx_31, hvpx_31, hvex_31, hvnx_31⟩ := hQ31
  have N31 : Fr n0 L31 := by rw [l31]; exact Fr.app N24 N31q
  have P40 : Rch p e below (s₁.setTop (entryFrame m #[(.ref a1), (.ref p2), (.ref sm), (.int (0 : Int32)), (.int p5)] 5)) (T31.setTop (mkF m 115 #[rv a1, rv p2, rv sm, iv (0 : Int32), iv p5] [])) := fun t k => P30 t (st31.trans k)
  obtain ⟨fs, hr, hrun, hended, hW, hsame⟩ := X31.leave (v := none) (fun _ => rfl)
  refine ⟨_, _, P40 _ ?_, hrun, hended, _, _, rfl, ?_, ⟨_, rfl⟩, hW, hsame.mono (by decide) (by decide)⟩
  · exact X31.returnOut hx Bd.returns (hb hby d6_115) hr
  · show Q_rmTS Z a1 ac ap ae an kc kp ke kn p2 sm ks vs p5 zc vc vp ve vn h0 n0 _ T31.heap _
    have f41 : Arv Z T31.heap ac kc .char zc vh17 (.int (0 : Int32)) := ((V17.other W24 (Ne.symm n_a1_ac)).keep K31 (ninS (Ne.symm n_a1_ac) (ninS n_ac_ap (ninS n_ac_ae (ninS n_ac_an nin0)))))
    have f42 : Keep h0 T31.heap [a1, ac, ap, ae, an] := ((((Keep.refl h0 [a1, ac, ap, ae, an]).trans K17 (allS (P := fun x => x ∈ [a1, ac, ap, ae, an] ∨ h0.size ≤ x) (Or.inl (List.mem_of_getElem? (i := 1) rfl)) all0)).wr W24 (Or.inl (List.mem_of_getElem? (i := 0) rfl))).trans K31 (allS (P := fun x => x ∈ [a1, ac, ap, ae, an] ∨ h0.size ≤ x) (Or.inl (List.mem_of_getElem? (i := 0) rfl)) (allS (P := fun x => x ∈ [a1, ac, ap, ae, an] ∨ h0.size ≤ x) (Or.inl (List.mem_of_getElem? (i := 2) rfl)) (allS (P := fun x => x ∈ [a1, ac, ap, ae, an] ∨ h0.size ≤ x) (Or.inl (List.mem_of_getElem? (i := 3) rfl)) (allS (P := fun x => x ∈ [a1, ac, ap, ae, an] ∨ h0.size ≤ x) (Or.inl (List.mem_of_getElem? (i := 4) rfl)) all0)))))
    exact ⟨szx_31, x22, vh17, vpx_31, vex_31, vnx_31, rfl, N31, f42, E1_31, F_chars_31, F_pieces_31, F_ends_31, F_names_31, F_size_31, F_length_31, f41, VP_31, VE_31, VN_31, (by have q_ := hszx_31; rw [q_]; decide), (by rw [show x22 = p5 from by rw [hx22]; exact Int32.zero_add p5]; exact hp5), hvpx_31, hvex_31, hvnx_31⟩
def Q_rmCo (Z : State) (a1 : Addr) (k1 : ClassId) (v1 : List Value) (p2 : Int32) (h0 : Heap) (n0 : Nat) (v : Option Value) (h : Heap) (L : List Loc) : Prop := ∃ (rc : Addr), ∃ (krc : ClassId), ∃ (vrc : List Value), v = some (.ref rc) ∧ Fr n0 L ∧ Keep h0 h [] ∧ (h0.size ≤ rc) ∧ (Arv Z h rc krc .char p2 vrc (.int (0 : Int32)))
set_option maxRecDepth 65536 in
set_option maxHeartbeats 40000000 in
theorem rmCo (l : Launch) (Z : State) (a0 : Array Value) (hw : ∀ d ∈ tables_1, d.before a0 Z = true) (ws : List Jvm.Cond) (a1 : Addr) (k1 : ClassId) (v1 : List Value) (p2 : Int32) (h0 : Heap) (n0 : Nat) (Z0 : n0 ≤ h0.size) (V1 : Arv Z h0 a1 k1 .char (256 : Int32) v1 (.int (0 : Int32))) (hp : 9000 ≤ p2.toInt ∧ p2.toInt ≤ 9002) :
    MetFree l (⟨"java/util/Arrays", "copyOf", "([CI)[C"⟩ : MethodName) (head1 (Jvm.Cond.code (⟨"java/util/Arrays", "copyOf", "([CI)[C"⟩ : MethodName) jdk_65_method_125_code 3 (some (.array .char)) :: ws) ({ frames := 1, cells := 1, slots := 9002, locals := 18 } : Room)) (fun a U => a = #[(.ref a1), (.int p2)] ∧ Z.Warmed39 U.vm ∧ U.heap = h0) (fun _ _ _ _ _ => True) (fun _ U o U' => ∃ v L, o = .returned v ∧ Q_rmCo Z a1 k1 v1 p2 h0 n0 v U'.heap L ∧ FrameEnd U o U' L ({ frames := 1, cells := 1, slots := 9002, locals := 18 } : Room).cells ({ frames := 1, cells := 1, slots := 9002, locals := 18 } : Room).slots) := by
  refine MetFree.of_bodySF (plainFor_of_name pn_2) hisR ?_
  intro p e s m args below meth c s₁ Bd hml0 hP hK
  obtain ⟨rfl, hZ, hh⟩ := hP
  have hx := Bd.exec
  have hby := Bd.bytes
  have hml : c.maxLocals = 3 := hml0
  have hown : s.vm.findClass "java/util/Arrays" = some m.cls := findClass_of_methodNamed Bd.named
  have hnm := (name_of_methodNamed Bd.named Bd.method).1
  have X0 : Stand p l e ({ frames := 1, cells := 1, slots := 9002, locals := 18 } : Room) s m #[(.ref a1), (.int p2)] below meth c s₁ [] 0 0 := Stand.of_body Bd
  have e0 : s₁.heap = h0 := by rw [← hh, Bd.state]; rfl
  have N0 := Fr.nil n0
  have P0 : Rch p e below (s₁.setTop (entryFrame m #[(.ref a1), (.int p2)] 3)) (s₁.setTop (mkF m 0 #[rv a1, iv p2, un] [])) := fun t k => castTop (by first | (simp [entryFrame, mkF, argsToLocals, Value.category]; done) | rfl) k
  have P1 : Rch p e below (s₁.setTop (entryFrame m #[(.ref a1), (.int p2)] 3)) (s₁.setTop (mkF m 2 #[rv a1, iv p2, un] [(.ref a1), (.int p2)])) := fun t k => P0 t (by
    show Steps p.tables e below (s₁.setTop (mkF m 0 #[rv a1, iv p2, un] [])) t
    refine XS.iloadN X0.here hx rfl (hb hby d8_0) rfl ?_
    refine XS.aloadN X0.here hx rfl (hb hby d8_1) rfl rfl ?_
    exact k)
  have V_o2 := V1
  obtain ⟨co2, Aro2, qo2, So2, Mo2, Ho2, Go2⟩ := V_o2
  have P3 : Rch p e below (s₁.setTop (entryFrame m #[(.ref a1), (.int p2)] 3)) (s₁.setTop (mkF m 3 #[rv a1, iv p2, un] [(.int (256 : Int32)), (.int p2)])) := fun t k => P1 t (by
    refine X0.arraylength hx (by rw [e0]; exact Aro2.1) (State.isArrayOf_alike hZ.alike Aro2.2.1) (g := (mkF m 2 #[rv a1, iv p2, un] [(.ref a1), (.int p2)])) rfl rfl (hb hby d8_2) _ ?_
    rw [len_of So2 Mo2]; exact k)
  have hbg := own_bg hp
  have P4 : Rch p e below (s₁.setTop (entryFrame m #[(.ref a1), (.int p2)] 3)) (s₁.setTop (mkF m 15 #[rv a1, iv p2, un] [(.int p2)])) := fun t k => P3 t (by
    show Steps p.tables e below (s₁.setTop (mkF m 3 #[rv a1, iv p2, un] [(.int (256 : Int32)), (.int p2)])) t
    refine XS.icmpYes X0.here hx rfl (pc0 := 3) (pc' := 14) rfl (hb hby d8_3) rfl (feq hbg.1).2 (by decide) (by decide) ?_
    refine XS.iloadN X0.here hx rfl (hb hby d8_14) rfl ?_
    exact k)
  obtain ⟨T5, h5, k5, X5, e5, E5, A5, st5⟩ := newP X0 hx hZ (hw _ (List.mem_of_getElem? (i := 19) rfl)) e0 (g := (mkF m 15 #[rv a1, iv p2, un] [(.int p2)])) rfl (hb hby d8_15) rfl hbg.2.1 (cap := 9002) hbg.2.2.1 (by decide) (by decide) (by decide)
  obtain ⟨b5, g5⟩ : ∃ z, z = h0.size := ⟨_, rfl⟩
  rw [← g5] at A5 st5
  have g_b5 : n0 ≤ b5 := Nat.le_trans Z0 (Nat.le_of_eq g5.symm)
  have sz_b5 : h0.size ≤ b5 := Nat.le_trans (Keep.refl h0 []).1 (Nat.le_of_eq g5.symm)
  have ne_a1_b5 : a1 ≠ b5 := Nat.ne_of_lt (Nat.lt_of_lt_of_le V1.lt (Nat.le_of_eq g5.symm))
  have V5 : Arv Z h5 b5 k5 .char p2 [] (.int (0 : Int32)) := Arv.new A5 hbg.2.1
  have P6 : Rch p e below (s₁.setTop (entryFrame m #[(.ref a1), (.int p2)] 3)) (T5.setTop (mkF m 17 #[rv a1, iv p2, un] [(.ref b5)])) := fun t k => P4 t (st5 t k)
  have P7 : Rch p e below (s₁.setTop (entryFrame m #[(.ref a1), (.int p2)] 3)) (T5.setTop (mkF m 23 #[rv a1, iv p2, rv b5] [(.ref a1), (.int (0 : Int32)), (.ref b5), (.int (0 : Int32)), (.ref a1)])) := fun t k => P6 t (by
    show Steps p.tables e below (T5.setTop (mkF m 17 #[rv a1, iv p2, un] [(.ref b5)])) t
    refine XS.astoreN X5.here hx rfl (hb hby d8_17) rfl rfl (l' := #[rv a1, iv p2, rv b5]) rfl ?_
    refine XS.aloadN X5.here hx rfl (hb hby d8_18) rfl rfl ?_
    refine XS.iconst X5.here hx rfl (hb hby d8_19) ?_
    show Steps p.tables e below (T5.setTop (mkF m 20 #[rv a1, iv p2, rv b5] [(.int (0 : Int32)), (.ref a1)])) t
    refine XS.aloadN X5.here hx rfl (hb hby d8_20) rfl rfl ?_
    refine XS.iconst X5.here hx rfl (hb hby d8_21) ?_
    refine XS.aloadN X5.here hx rfl (hb hby d8_22) rfl rfl ?_
    exact k)
  have V_o8 := (V1.ext E5)
  obtain ⟨co8, Aro8, qo8, So8, Mo8, Ho8, Go8⟩ := V_o8
  have P9 : Rch p e below (s₁.setTop (entryFrame m #[(.ref a1), (.int p2)] 3)) (T5.setTop (mkF m 24 #[rv a1, iv p2, rv b5] [(.int (256 : Int32)), (.int (0 : Int32)), (.ref b5), (.int (0 : Int32)), (.ref a1)])) := fun t k => P7 t (by
    refine X5.arraylength hx (by rw [e5]; exact Aro8.1) (State.isArrayOf_alike hZ.alike Aro8.2.1) (g := (mkF m 23 #[rv a1, iv p2, rv b5] [(.ref a1), (.int (0 : Int32)), (.ref b5), (.int (0 : Int32)), (.ref a1)])) rfl rfl (hb hby d8_23) _ ?_
    rw [len_of So8 Mo8]; exact k)
  have P10 : Rch p e below (s₁.setTop (entryFrame m #[(.ref a1), (.int p2)] 3)) (T5.setTop (mkF m 25 #[rv a1, iv p2, rv b5] [(.int p2), (.int (256 : Int32)), (.int (0 : Int32)), (.ref b5), (.int (0 : Int32)), (.ref a1)])) := fun t k => P9 t (by
    show Steps p.tables e below (T5.setTop (mkF m 24 #[rv a1, iv p2, rv b5] [(.int (256 : Int32)), (.int (0 : Int32)), (.ref b5), (.int (0 : Int32)), (.ref a1)])) t
    refine XS.iloadN X5.here hx rfl (hb hby d8_24) rfl ?_
    exact k)
  have f12 : n0 ≤ h5.size := (Nat.le_trans Z0 E5.1)
  obtain ⟨_, _, ⟨T11, L11, k11, n11⟩, -, X11, ⟨Lc11, hQ11, l11, y11, z11⟩, st11⟩ := Jvm.LawKit.callS X5 hx (y := (⟨"java/lang/Math", "min", "(II)I"⟩ : MethodName)) hown (mvT hZ (hw _ (List.mem_of_getElem? (i := 74) rfl))) (mvT hZ (hw _ (List.mem_of_getElem? (i := 75) rfl))) (mvT hZ (hw _ (List.mem_of_getElem? (i := 68) rfl))) (mvT hZ (hw _ (List.mem_of_getElem? (i := 76) rfl))) (by decide) (backOf (W := 4) (rmMn l Z a0 hw [] (256 : Int32) p2 h5 n0 f12 ) hZ (hw _ (List.mem_of_getElem? (i := 76) rfl)) (hw _ (List.mem_of_getElem? (i := 68) rfl)) (by decide) (by decide)) (g := (mkF m 25 #[rv a1, iv p2, rv b5] [(.int p2), (.int (256 : Int32)), (.int (0 : Int32)), (.ref b5), (.int (0 : Int32)), (.ref a1)])) rfl (by rw [hml]; rfl) (argsL := [(.int (256 : Int32)), (.int p2)]) (rest := [(.int (0 : Int32)), (.ref b5), (.int (0 : Int32)), (.ref a1)]) (lenOf pd_1 rfl) rfl (by show 2 * 0 + _ ≤ _; exact Nat.le_of_eq rfl) (hb hby d8_25) (fun _ _ => ⟨rfl, e5, (by decide : 1 + 0 ≤ _), (by decide : 9002 + 0 ≤ _)⟩)
  dsimp only [Pt.U, Pt.locs, Pt.cells, Pt.slots] at X11 l11 y11 z11 st11 hQ11
  subst y11 z11
  obtain ⟨rfl, N11q, e11⟩ := hQ11
  have N11 : Fr n0 L11 := by rw [l11]; exact Fr.app N0 N11q
  have P13 : Rch p e below (s₁.setTop (entryFrame m #[(.ref a1), (.int p2)] 3)) (T11.setTop (mkF m 28 #[rv a1, iv p2, rv b5] [(.int (own_mn (256 : Int32) p2)), (.int (0 : Int32)), (.ref b5), (.int (0 : Int32)), (.ref a1)])) := fun t k => P10 t (st11 t k)
  obtain ⟨x14, hx14⟩ : ∃ z : Int32, z = (own_mn (256 : Int32) p2) := ⟨_, rfl⟩
  rw [← hx14] at P13
  have hmn : x14 = (256 : Int32) := by rw [hx14]; exact own_min hp
  have P15 : Rch p e below (s₁.setTop (entryFrame m #[(.ref a1), (.int p2)] 3)) (T11.setTop (mkF m 28 #[rv a1, iv p2, rv b5] [(.int (256 : Int32)), (.int (0 : Int32)), (.ref b5), (.int (0 : Int32)), (.ref a1)])) := by have q_ := P13; rw [hmn] at q_; exact q_
  obtain ⟨vf, hvf, VF⟩ := own_full V5
  obtain ⟨T16, h16, L16, X16, e16, N16, K16, A16, st16⟩ := cpA X11 hx hZ hown (hw _ (List.mem_of_getElem? (i := 77) rfl)) (hw _ (List.mem_of_getElem? (i := 80) rfl)) (hw _ (List.mem_of_getElem? (i := 78) rfl)) (hw _ (List.mem_of_getElem? (i := 79) rfl)) e11 (V1.ext E5) VF (us := ((List.range ((256 : Int32)).toNatClampNeg).map fun i => (v1).getD (((0 : Int32)).toNatClampNeg + i) (.int (0 : Int32)))) (Or.inl ⟨rfl, rfl⟩) (by decide) (by decide) (by decide) (by decide) hbg.2.2.2 rfl (by rw [hvf]; exact hbg.2.2.2) N11 g_b5 (g := (mkF m 28 #[rv a1, iv p2, rv b5] [(.int (256 : Int32)), (.int (0 : Int32)), (.ref b5), (.int (0 : Int32)), (.ref a1)])) rfl (by rw [hml]; rfl) rfl (hb hby d8_28) (by decide) (W := 0) (by show 2 * 0 + _ ≤ _; exact Nat.le_of_eq rfl) (by decide)
  obtain ⟨vh16, V16⟩ : ∃ vs : List Value, Arv Z h16 b5 k5 .char p2 vs (.int (0 : Int32)) := ⟨_, A16⟩
  have P17 : Rch p e below (s₁.setTop (entryFrame m #[(.ref a1), (.int p2)] 3)) (T16.setTop (mkF m 31 #[rv a1, iv p2, rv b5] [])) := fun t k => P15 t (st16 t k)
  have P18 : Rch p e below (s₁.setTop (entryFrame m #[(.ref a1), (.int p2)] 3)) (T16.setTop (mkF m 32 #[rv a1, iv p2, rv b5] [(.ref b5)])) := fun t k => P17 t (by
    show Steps p.tables e below (T16.setTop (mkF m 31 #[rv a1, iv p2, rv b5] [])) t
    refine XS.aloadN X16.here hx rfl (hb hby d8_31) rfl rfl ?_
    exact k)
  obtain ⟨fs, hr, hrun, hended, hW, hsame⟩ := X16.leave (v := some (.ref b5)) (fun h => by rw [Bd.returns] at h; cases h)
  refine ⟨_, _, P18 _ ?_, hrun, hended, _, _, rfl, ?_, ⟨_, rfl⟩, hW, hsame.mono (by decide) (by decide)⟩
  · exact retOut X16 hx Bd.returns rfl (Or.inr (Or.inr (Or.inr (Or.inr ⟨rfl, rfl, rfl⟩)))) (hb hby d8_32) hr
  · show Q_rmCo Z a1 k1 v1 p2 h0 n0 _ T16.heap _
    rw [e16]
    have f19 : Keep h0 h16 [] := (((Keep.refl h0 []).ext E5).trans K16 (allS (P := fun x => x ∈ [] ∨ h0.size ≤ x) (Or.inr sz_b5) all0))
    exact ⟨b5, k5, vh16, rfl, N16, f19, sz_b5, V16⟩
def Q_rmTB (Z : State) (a1 : Addr) (ac : Addr) (ap : Addr) (ae : Addr) (an : Addr) (kc : ClassId) (kp : ClassId) (ke : ClassId) (kn : ClassId) (p2 : Addr) (bg : Addr) (kb : ClassId) (vb : List Value) (sz : Int32) (ln : Int32) (vc : List Value) (vp : List Value) (ve : List Value) (vn : List Value) (h0 : Heap) (n0 : Nat) (v : Option Value) (h : Heap) (L : List Loc) : Prop := ∃ (szx : Int32), ∃ (lnx : Int32), ∃ (acx : Addr), ∃ (kcx : ClassId), ∃ (zcx : Int32), ∃ (vcx : List Value), ∃ (vpx : List Value), ∃ (vex : List Value), ∃ (vnx : List Value), v = none ∧ Fr n0 L ∧ Keep h0 h [a1, ap, ae, an] ∧ (h0.size ≤ acx) ∧ (Exa Z h a1 "com/example/rideau/rideau/internal/HeldText") ∧ (Fld Z h a1 "com/example/rideau/rideau/internal/HeldText" "chars" "[C" (.ref acx)) ∧ (Fld Z h a1 "com/example/rideau/rideau/internal/HeldText" "pieces" "[Lcom/example/rideau/rideau/internal/HeldText$Piece;" (.ref ap)) ∧ (Fld Z h a1 "com/example/rideau/rideau/internal/HeldText" "ends" "[I" (.ref ae)) ∧ (Fld Z h a1 "com/example/rideau/rideau/internal/HeldText" "names" "[Ljava/lang/String;" (.ref an)) ∧ (Fld Z h a1 "com/example/rideau/rideau/internal/HeldText" "size" "I" (.int szx)) ∧ (Fld Z h a1 "com/example/rideau/rideau/internal/HeldText" "length" "I" (.int lnx)) ∧ (Arv Z h acx kcx .char zcx vcx (.int (0 : Int32))) ∧ (Arv Z h ap kp (.object "com/example/rideau/rideau/internal/HeldText$Piece") (16 : Int32) vpx .null) ∧ (Arv Z h ae ke .int (16 : Int32) vex (.int (0 : Int32))) ∧ (Arv Z h an kn (.object "java/lang/String") (16 : Int32) vnx .null) ∧ (1 ≤ szx.toInt ∧ szx.toInt ≤ 3) ∧ (256 ≤ zcx.toInt) ∧ (vpx.length = 16) ∧ (vex.length = 16) ∧ (vnx.length = 16)
set_option maxRecDepth 65536 in
set_option maxHeartbeats 40000000 in
theorem rmTB (l : Launch) (Z : State) (a0 : Array Value) (hw : ∀ d ∈ tables_1, d.before a0 Z = true) (ws : List Jvm.Cond) (a1 : Addr) (ac : Addr) (ap : Addr) (ae : Addr) (an : Addr) (kc : ClassId) (kp : ClassId) (ke : ClassId) (kn : ClassId) (p2 : Addr) (bg : Addr) (kb : ClassId) (vb : List Value) (sz : Int32) (ln : Int32) (vc : List Value) (vp : List Value) (ve : List Value) (vn : List Value) (h0 : Heap) (n0 : Nat) (Z0 : n0 ≤ h0.size) (E1 : Exa Z h0 a1 "com/example/rideau/rideau/internal/HeldText") (F_chars : Fld Z h0 a1 "com/example/rideau/rideau/internal/HeldText" "chars" "[C" (.ref ac)) (F_pieces : Fld Z h0 a1 "com/example/rideau/rideau/internal/HeldText" "pieces" "[Lcom/example/rideau/rideau/internal/HeldText$Piece;" (.ref ap)) (F_ends : Fld Z h0 a1 "com/example/rideau/rideau/internal/HeldText" "ends" "[I" (.ref ae)) (F_names : Fld Z h0 a1 "com/example/rideau/rideau/internal/HeldText" "names" "[Ljava/lang/String;" (.ref an)) (F_size : Fld Z h0 a1 "com/example/rideau/rideau/internal/HeldText" "size" "I" (.int sz)) (F_length : Fld Z h0 a1 "com/example/rideau/rideau/internal/HeldText" "length" "I" (.int ln)) (VC : Arv Z h0 ac kc .char (256 : Int32) vc (.int (0 : Int32))) (VP : Arv Z h0 ap kp (.object "com/example/rideau/rideau/internal/HeldText$Piece") (16 : Int32) vp .null) (VE : Arv Z h0 ae ke .int (16 : Int32) ve (.int (0 : Int32))) (VN : Arv Z h0 an kn (.object "java/lang/String") (16 : Int32) vn .null) (E2 : Exa Z h0 p2 "com/example/rideau/rideau/internal/HeldText$Piece") (VB : Arv Z h0 bg kb .char (9000 : Int32) vb (.int (0 : Int32))) (g_a1 : n0 ≤ a1) (g_ac : n0 ≤ ac) (g_ap : n0 ≤ ap) (g_ae : n0 ≤ ae) (g_an : n0 ≤ an) (n_a1_ac : a1 ≠ ac) (n_a1_ap : a1 ≠ ap) (n_a1_ae : a1 ≠ ae) (n_a1_an : a1 ≠ an) (n_ac_ap : ac ≠ ap) (n_ac_ae : ac ≠ ae) (n_ac_an : ac ≠ an) (n_ap_ae : ap ≠ ae) (n_ap_an : ap ≠ an) (n_ae_an : ae ≠ an) (Op : Ovr Z kp "com/example/rideau/rideau/internal/HeldText$Piece") (On : Ovr Z kn "java/lang/String") (hvp : vp.length = 16) (hve : ve.length = 16) (hvn : vn.length = 16) (hsz : 0 ≤ sz.toInt ∧ sz.toInt ≤ 2) (hln : 0 ≤ ln.toInt ∧ ln.toInt ≤ 2) (n_bg_a1 : bg ≠ a1) :
    MetFree l (⟨"com/example/rideau/rideau/internal/HeldText", "text", "(Lcom/example/rideau/rideau/internal/HeldText$Piece;[CII)V"⟩ : MethodName) (head1 (Jvm.Cond.code (⟨"com/example/rideau/rideau/internal/HeldText", "text", "(Lcom/example/rideau/rideau/internal/HeldText$Piece;[CII)V"⟩ : MethodName) prog_17_method_3_code 5 none :: ws) ({ frames := 2, cells := 1, slots := 9002, locals := 33 } : Room)) (fun a U => a = #[(.ref a1), (.ref p2), (.ref bg), (.int (0 : Int32)), (.int (9000 : Int32))] ∧ Z.Warmed39 U.vm ∧ U.heap = h0) (fun _ _ _ _ _ => True) (fun _ U o U' => ∃ v L, o = .returned v ∧ Q_rmTB Z a1 ac ap ae an kc kp ke kn p2 bg kb vb sz ln vc vp ve vn h0 n0 v U'.heap L ∧ FrameEnd U o U' L ({ frames := 2, cells := 1, slots := 9002, locals := 33 } : Room).cells ({ frames := 2, cells := 1, slots := 9002, locals := 33 } : Room).slots) := by
  refine MetFree.of_bodySF (plainFor_of_name pn_0) hisR ?_
  intro p e s m args below meth c s₁ Bd hml0 hP hK
  obtain ⟨rfl, hZ, hh⟩ := hP
  have hx := Bd.exec
  have hby := Bd.bytes
  have hml : c.maxLocals = 5 := hml0
  have hown : s.vm.findClass "com/example/rideau/rideau/internal/HeldText" = some m.cls := findClass_of_methodNamed Bd.named
  have hnm := (name_of_methodNamed Bd.named Bd.method).1
  have X0 : Stand p l e ({ frames := 2, cells := 1, slots := 9002, locals := 33 } : Room) s m #[(.ref a1), (.ref p2), (.ref bg), (.int (0 : Int32)), (.int (9000 : Int32))] below meth c s₁ [] 0 0 := Stand.of_body Bd
  have e0 : s₁.heap = h0 := by rw [← hh, Bd.state]; rfl
  have N0 := Fr.nil n0
  have P0 : Rch p e below (s₁.setTop (entryFrame m #[(.ref a1), (.ref p2), (.ref bg), (.int (0 : Int32)), (.int (9000 : Int32))] 5)) (s₁.setTop (mkF m 0 #[rv a1, rv p2, rv bg, iv (0 : Int32), iv (9000 : Int32)] [])) := fun t k => castTop (by first | (simp [entryFrame, mkF, argsToLocals, Value.category]; done) | rfl) k
  have P1 : Rch p e below (s₁.setTop (entryFrame m #[(.ref a1), (.ref p2), (.ref bg), (.int (0 : Int32)), (.int (9000 : Int32))] 5)) (s₁.setTop (mkF m 1 #[rv a1, rv p2, rv bg, iv (0 : Int32), iv (9000 : Int32)] [(.ref a1)])) := fun t k => P0 t (by
    show Steps p.tables e below (s₁.setTop (mkF m 0 #[rv a1, rv p2, rv bg, iv (0 : Int32), iv (9000 : Int32)] [])) t
    refine XS.aloadN X0.here hx rfl (hb hby d6_0) rfl rfl ?_
    exact k)
  obtain ⟨T2, X2, e2, st2⟩ := getF X0 hx hZ hown (host := "") (Or.inl (hw _ (List.mem_of_getElem? (i := 54) rfl))) Via.refl e0 F_length (g := (mkF m 1 #[rv a1, rv p2, rv bg, iv (0 : Int32), iv (9000 : Int32)] [(.ref a1)])) rfl rfl (hb hby d6_1)
  have P3 : Rch p e below (s₁.setTop (entryFrame m #[(.ref a1), (.ref p2), (.ref bg), (.int (0 : Int32)), (.int (9000 : Int32))] 5)) (T2.setTop (mkF m 4 #[rv a1, rv p2, rv bg, iv (0 : Int32), iv (9000 : Int32)] [(.int ln)])) := fun t k => P1 t (st2 t k)
  obtain ⟨x4, hx4⟩ : ∃ z : Int32, z = (ln + (9000 : Int32)) := ⟨_, rfl⟩
  have P5 : Rch p e below (s₁.setTop (entryFrame m #[(.ref a1), (.ref p2), (.ref bg), (.int (0 : Int32)), (.int (9000 : Int32))] 5)) (T2.setTop (mkF m 8 #[rv a1, rv p2, rv bg, iv (0 : Int32), iv (9000 : Int32)] [(.ref a1), (.int x4)])) := fun t k => P3 t (by
    subst hx4
    show Steps p.tables e below (T2.setTop (mkF m 4 #[rv a1, rv p2, rv bg, iv (0 : Int32), iv (9000 : Int32)] [(.int ln)])) t
    refine XS.iload X2.here hx rfl (hb hby d6_4) rfl ?_
    refine XS.iadd X2.here hx rfl (hb hby d6_6) rfl ?_
    refine XS.aloadN X2.here hx rfl (hb hby d6_7) rfl rfl ?_
    exact k)
  obtain ⟨T6, X6, e6, st6⟩ := getF X2 hx hZ hown (host := "") (Or.inl (hw _ (List.mem_of_getElem? (i := 30) rfl))) Via.refl e2 F_chars (g := (mkF m 8 #[rv a1, rv p2, rv bg, iv (0 : Int32), iv (9000 : Int32)] [(.ref a1), (.int x4)])) rfl rfl (hb hby d6_8)
  have P7 : Rch p e below (s₁.setTop (entryFrame m #[(.ref a1), (.ref p2), (.ref bg), (.int (0 : Int32)), (.int (9000 : Int32))] 5)) (T6.setTop (mkF m 11 #[rv a1, rv p2, rv bg, iv (0 : Int32), iv (9000 : Int32)] [(.ref ac), (.int x4)])) := fun t k => P5 t (st6 t k)
  have V_o8 := VC
  obtain ⟨co8, Aro8, qo8, So8, Mo8, Ho8, Go8⟩ := V_o8
  have P9 : Rch p e below (s₁.setTop (entryFrame m #[(.ref a1), (.ref p2), (.ref bg), (.int (0 : Int32)), (.int (9000 : Int32))] 5)) (T6.setTop (mkF m 12 #[rv a1, rv p2, rv bg, iv (0 : Int32), iv (9000 : Int32)] [(.int (256 : Int32)), (.int x4)])) := fun t k => P7 t (by
    refine X6.arraylength hx (by rw [e6]; exact Aro8.1) (State.isArrayOf_alike hZ.alike Aro8.2.1) (g := (mkF m 11 #[rv a1, rv p2, rv bg, iv (0 : Int32), iv (9000 : Int32)] [(.ref ac), (.int x4)])) rfl rfl (hb hby d6_11) _ ?_
    rw [len_of So8 Mo8]; exact k)
  have hyes : (256 : Int32) < x4 := by rw [hx4]; exact own_gt256 hln
  have P10 : Rch p e below (s₁.setTop (entryFrame m #[(.ref a1), (.ref p2), (.ref bg), (.int (0 : Int32)), (.int (9000 : Int32))] 5)) (T6.setTop (mkF m 17 #[rv a1, rv p2, rv bg, iv (0 : Int32), iv (9000 : Int32)] [(.ref a1), (.ref a1)])) := fun t k => P9 t (by
    show Steps p.tables e below (T6.setTop (mkF m 12 #[rv a1, rv p2, rv bg, iv (0 : Int32), iv (9000 : Int32)] [(.int (256 : Int32)), (.int x4)])) t
    refine XS.icmpNo X6.here hx rfl (hb hby d6_12) rfl (tlt hyes).2.2.2 ?_
    refine XS.aloadN X6.here hx rfl (hb hby d6_15) rfl rfl ?_
    refine XS.aloadN X6.here hx rfl (hb hby d6_16) rfl rfl ?_
    exact k)
  obtain ⟨T11, X11, e11, st11⟩ := getF X6 hx hZ hown (host := "") (Or.inl (hw _ (List.mem_of_getElem? (i := 30) rfl))) Via.refl e6 F_chars (g := (mkF m 17 #[rv a1, rv p2, rv bg, iv (0 : Int32), iv (9000 : Int32)] [(.ref a1), (.ref a1)])) rfl rfl (hb hby d6_17)
  have P12 : Rch p e below (s₁.setTop (entryFrame m #[(.ref a1), (.ref p2), (.ref bg), (.int (0 : Int32)), (.int (9000 : Int32))] 5)) (T11.setTop (mkF m 20 #[rv a1, rv p2, rv bg, iv (0 : Int32), iv (9000 : Int32)] [(.ref ac), (.ref a1)])) := fun t k => P10 t (st11 t k)
  have P13 : Rch p e below (s₁.setTop (entryFrame m #[(.ref a1), (.ref p2), (.ref bg), (.int (0 : Int32)), (.int (9000 : Int32))] 5)) (T11.setTop (mkF m 21 #[rv a1, rv p2, rv bg, iv (0 : Int32), iv (9000 : Int32)] [(.ref a1), (.ref ac), (.ref a1)])) := fun t k => P12 t (by
    show Steps p.tables e below (T11.setTop (mkF m 20 #[rv a1, rv p2, rv bg, iv (0 : Int32), iv (9000 : Int32)] [(.ref ac), (.ref a1)])) t
    refine XS.aloadN X11.here hx rfl (hb hby d6_20) rfl rfl ?_
    exact k)
  obtain ⟨T14, X14, e14, st14⟩ := getF X11 hx hZ hown (host := "") (Or.inl (hw _ (List.mem_of_getElem? (i := 54) rfl))) Via.refl e11 F_length (g := (mkF m 21 #[rv a1, rv p2, rv bg, iv (0 : Int32), iv (9000 : Int32)] [(.ref a1), (.ref ac), (.ref a1)])) rfl rfl (hb hby d6_21)
  have P15 : Rch p e below (s₁.setTop (entryFrame m #[(.ref a1), (.ref p2), (.ref bg), (.int (0 : Int32)), (.int (9000 : Int32))] 5)) (T14.setTop (mkF m 24 #[rv a1, rv p2, rv bg, iv (0 : Int32), iv (9000 : Int32)] [(.int ln), (.ref ac), (.ref a1)])) := fun t k => P13 t (st14 t k)
  obtain ⟨x16, hx16⟩ : ∃ z : Int32, z = (ln + (9000 : Int32)) := ⟨_, rfl⟩
  have P17 : Rch p e below (s₁.setTop (entryFrame m #[(.ref a1), (.ref p2), (.ref bg), (.int (0 : Int32)), (.int (9000 : Int32))] 5)) (T14.setTop (mkF m 28 #[rv a1, rv p2, rv bg, iv (0 : Int32), iv (9000 : Int32)] [(.ref a1), (.int x16), (.ref ac), (.ref a1)])) := fun t k => P15 t (by
    subst hx16
    show Steps p.tables e below (T14.setTop (mkF m 24 #[rv a1, rv p2, rv bg, iv (0 : Int32), iv (9000 : Int32)] [(.int ln), (.ref ac), (.ref a1)])) t
    refine XS.iload X14.here hx rfl (hb hby d6_24) rfl ?_
    refine XS.iadd X14.here hx rfl (hb hby d6_26) rfl ?_
    refine XS.aloadN X14.here hx rfl (hb hby d6_27) rfl rfl ?_
    exact k)
  obtain ⟨T18, X18, e18, st18⟩ := getF X14 hx hZ hown (host := "") (Or.inl (hw _ (List.mem_of_getElem? (i := 30) rfl))) Via.refl e14 F_chars (g := (mkF m 28 #[rv a1, rv p2, rv bg, iv (0 : Int32), iv (9000 : Int32)] [(.ref a1), (.int x16), (.ref ac), (.ref a1)])) rfl rfl (hb hby d6_28)
  have P19 : Rch p e below (s₁.setTop (entryFrame m #[(.ref a1), (.ref p2), (.ref bg), (.int (0 : Int32)), (.int (9000 : Int32))] 5)) (T18.setTop (mkF m 31 #[rv a1, rv p2, rv bg, iv (0 : Int32), iv (9000 : Int32)] [(.ref ac), (.int x16), (.ref ac), (.ref a1)])) := fun t k => P17 t (st18 t k)
  have V_o20 := VC
  obtain ⟨co20, Aro20, qo20, So20, Mo20, Ho20, Go20⟩ := V_o20
  have P21 : Rch p e below (s₁.setTop (entryFrame m #[(.ref a1), (.ref p2), (.ref bg), (.int (0 : Int32)), (.int (9000 : Int32))] 5)) (T18.setTop (mkF m 32 #[rv a1, rv p2, rv bg, iv (0 : Int32), iv (9000 : Int32)] [(.int (256 : Int32)), (.int x16), (.ref ac), (.ref a1)])) := fun t k => P19 t (by
    refine X18.arraylength hx (by rw [e18]; exact Aro20.1) (State.isArrayOf_alike hZ.alike Aro20.2.1) (g := (mkF m 31 #[rv a1, rv p2, rv bg, iv (0 : Int32), iv (9000 : Int32)] [(.ref ac), (.int x16), (.ref ac), (.ref a1)])) rfl rfl (hb hby d6_31) _ ?_
    rw [len_of So20 Mo20]; exact k)
  have P22 : Rch p e below (s₁.setTop (entryFrame m #[(.ref a1), (.ref p2), (.ref bg), (.int (0 : Int32)), (.int (9000 : Int32))] 5)) (T18.setTop (mkF m 34 #[rv a1, rv p2, rv bg, iv (0 : Int32), iv (9000 : Int32)] [(.int (512 : Int32)), (.int x16), (.ref ac), (.ref a1)])) := fun t k => P21 t (by
    show Steps p.tables e below (T18.setTop (mkF m 32 #[rv a1, rv p2, rv bg, iv (0 : Int32), iv (9000 : Int32)] [(.int (256 : Int32)), (.int x16), (.ref ac), (.ref a1)])) t
    refine XS.iconst X18.here hx rfl (hb hby d6_32) ?_
    refine XS.imul X18.here hx rfl (hb hby d6_33) rfl ?_
    exact k)
  obtain ⟨_, _, ⟨T23, L23, k23, n23⟩, -, X23, ⟨Lc23, hQ23, l23, y23, z23⟩, st23⟩ := Jvm.LawKit.callS X18 hx (y := (⟨"java/lang/Math", "max", "(II)I"⟩ : MethodName)) hown (mvT hZ (hw _ (List.mem_of_getElem? (i := 66) rfl))) (mvT hZ (hw _ (List.mem_of_getElem? (i := 67) rfl))) (mvT hZ (hw _ (List.mem_of_getElem? (i := 68) rfl))) (mvT hZ (hw _ (List.mem_of_getElem? (i := 69) rfl))) (by decide) (backOf (W := 2) (rmMx l Z a0 hw [] x16 (512 : Int32) h0 n0 Z0 ) hZ (hw _ (List.mem_of_getElem? (i := 69) rfl)) (hw _ (List.mem_of_getElem? (i := 68) rfl)) (by decide) (by decide)) (g := (mkF m 34 #[rv a1, rv p2, rv bg, iv (0 : Int32), iv (9000 : Int32)] [(.int (512 : Int32)), (.int x16), (.ref ac), (.ref a1)])) rfl (by rw [hml]; rfl) (argsL := [(.int x16), (.int (512 : Int32))]) (rest := [(.ref ac), (.ref a1)]) (lenOf pd_1 rfl) rfl (by show 2 * 0 + _ ≤ _; exact Nat.le_of_eq rfl) (hb hby d6_34) (fun _ _ => ⟨rfl, e18, (by decide : 0 + 0 ≤ _), (by decide : 0 + 0 ≤ _)⟩)
  dsimp only [Pt.U, Pt.locs, Pt.cells, Pt.slots] at X23 l23 y23 z23 st23 hQ23
  subst y23 z23
  obtain ⟨rfl, N23q, e23⟩ := hQ23
  have N23 : Fr n0 L23 := by rw [l23]; exact Fr.app N0 N23q
  have P24 : Rch p e below (s₁.setTop (entryFrame m #[(.ref a1), (.ref p2), (.ref bg), (.int (0 : Int32)), (.int (9000 : Int32))] 5)) (T23.setTop (mkF m 37 #[rv a1, rv p2, rv bg, iv (0 : Int32), iv (9000 : Int32)] [(.int (own_mx x16 (512 : Int32))), (.ref ac), (.ref a1)])) := fun t k => P22 t (st23 t k)
  obtain ⟨x25, hx25⟩ : ∃ z : Int32, z = (own_mx x16 (512 : Int32)) := ⟨_, rfl⟩
  rw [← hx25] at P24
  have hzn : x25.toInt = ln.toInt + 9000 := by rw [hx25, hx16]; exact own_grow hln
  obtain ⟨_, _, ⟨T26, L26, k26, n26⟩, -, X26, ⟨Lc26, hQ26, l26, y26, z26⟩, st26⟩ := Jvm.LawKit.callS X23 hx (y := (⟨"java/util/Arrays", "copyOf", "([CI)[C"⟩ : MethodName)) hown (mvT hZ (hw _ (List.mem_of_getElem? (i := 70) rfl))) (mvT hZ (hw _ (List.mem_of_getElem? (i := 71) rfl))) (mvT hZ (hw _ (List.mem_of_getElem? (i := 72) rfl))) (mvT hZ (hw _ (List.mem_of_getElem? (i := 73) rfl))) (by decide) (backOf (W := 1) (rmCo l Z a0 hw [] ac kc vc x25 h0 n0 Z0 VC ⟨by omega, by omega⟩) hZ (hw _ (List.mem_of_getElem? (i := 73) rfl)) (hw _ (List.mem_of_getElem? (i := 72) rfl)) (by decide) (by decide)) (g := (mkF m 37 #[rv a1, rv p2, rv bg, iv (0 : Int32), iv (9000 : Int32)] [(.int x25), (.ref ac), (.ref a1)])) rfl (by rw [hml]; rfl) (argsL := [(.ref ac), (.int x25)]) (rest := [(.ref a1)]) (lenOf pd_2 rfl) rfl (by show 2 * 0 + _ ≤ _; exact Nat.le_of_eq rfl) (hb hby d6_37) (fun _ _ => ⟨rfl, e23, (by decide : 0 + 1 ≤ _), (by decide : 0 + 9002 ≤ _)⟩)
  dsimp only [Pt.U, Pt.locs, Pt.cells, Pt.slots] at X26 l26 y26 z26 st26 hQ26
  subst y26 z26
  obtain ⟨rc_26, krc_26, vrc_26, rfl, N26q, K26, Fr__26, Vr_26⟩ := hQ26
  have N26 : Fr n0 L26 := by rw [l26]; exact Fr.app N23 N26q
  have g_rc_26 : n0 ≤ rc_26 := Nat.le_trans Z0 Fr__26
  have sz_rc_26 : h0.size ≤ rc_26 := Nat.le_trans (Keep.refl h0 [a1, ap, ae, an]).1 Fr__26
  have ne_a1_rc_26 : a1 ≠ rc_26 := Nat.ne_of_lt (Nat.lt_of_lt_of_le E1.lt Fr__26)
  have ne_ac_rc_26 : ac ≠ rc_26 := Nat.ne_of_lt (Nat.lt_of_lt_of_le VC.lt Fr__26)
  have ne_ap_rc_26 : ap ≠ rc_26 := Nat.ne_of_lt (Nat.lt_of_lt_of_le VP.lt Fr__26)
  have ne_ae_rc_26 : ae ≠ rc_26 := Nat.ne_of_lt (Nat.lt_of_lt_of_le VE.lt Fr__26)
  have ne_an_rc_26 : an ≠ rc_26 := Nat.ne_of_lt (Nat.lt_of_lt_of_le VN.lt Fr__26)
  have ne_p2_rc_26 : p2 ≠ rc_26 := Nat.ne_of_lt (Nat.lt_of_lt_of_le E2.lt Fr__26)
  have ne_bg_rc_26 : bg ≠ rc_26 := Nat.ne_of_lt (Nat.lt_of_lt_of_le VB.lt Fr__26)
  have P27 : Rch p e below (s₁.setTop (entryFrame m #[(.ref a1), (.ref p2), (.ref bg), (.int (0 : Int32)), (.int (9000 : Int32))] 5)) (T26.setTop (mkF m 40 #[rv a1, rv p2, rv bg, iv (0 : Int32), iv (9000 : Int32)] [(.ref rc_26), (.ref a1)])) := fun t k => P24 t (st26 t k)
  obtain ⟨T28, h28, X28, e28, W28, st28⟩ := putF X26 hx hZ hown (host := "") (Or.inl (hw _ (List.mem_of_getElem? (i := 30) rfl))) Via.refl rfl (F_chars.keep K26 nin0) (E1.keep K26) (Or.inl (hw _ (List.mem_of_getElem? (i := 31) rfl))) (hw _ (List.mem_of_getElem? (i := 22) rfl)) (ty := (.array .char)) (by decide) rfl rfl (g := (mkF m 40 #[rv a1, rv p2, rv bg, iv (0 : Int32), iv (9000 : Int32)] [(.ref rc_26), (.ref a1)])) rfl rfl (hb hby d6_40)
  have Fw28 := (F_chars.keep K26 nin0).same W28
  have P29 : Rch p e below (s₁.setTop (entryFrame m #[(.ref a1), (.ref p2), (.ref bg), (.int (0 : Int32)), (.int (9000 : Int32))] 5)) (T28.setTop (mkF m 43 #[rv a1, rv p2, rv bg, iv (0 : Int32), iv (9000 : Int32)] [])) := fun t k => P27 t (st28 t k)
  have N28 := Fr.snoc X28 N26 g_a1
  have P30 : Rch p e below (s₁.setTop (entryFrame m #[(.ref a1), (.ref p2), (.ref bg), (.int (0 : Int32)), (.int (9000 : Int32))] 5)) (T28.setTop (mkF m 46 #[rv a1, rv p2, rv bg, iv (0 : Int32), iv (9000 : Int32)] [(.ref a1), (.int (0 : Int32)), (.ref bg)])) := fun t k => P29 t (by
    show Steps p.tables e below (T28.setTop (mkF m 43 #[rv a1, rv p2, rv bg, iv (0 : Int32), iv (9000 : Int32)] [])) t
    refine XS.aloadN X28.here hx rfl (hb hby d6_43) rfl rfl ?_
    refine XS.iloadN X28.here hx rfl (hb hby d6_44) rfl ?_
    refine XS.aloadN X28.here hx rfl (hb hby d6_45) rfl rfl ?_
    exact k)
  obtain ⟨T31, X31, e31, st31⟩ := getF X28 hx hZ hown (host := "") (Or.inl (hw _ (List.mem_of_getElem? (i := 30) rfl))) Via.refl e28 Fw28 (g := (mkF m 46 #[rv a1, rv p2, rv bg, iv (0 : Int32), iv (9000 : Int32)] [(.ref a1), (.int (0 : Int32)), (.ref bg)])) rfl rfl (hb hby d6_46)
  have P32 : Rch p e below (s₁.setTop (entryFrame m #[(.ref a1), (.ref p2), (.ref bg), (.int (0 : Int32)), (.int (9000 : Int32))] 5)) (T31.setTop (mkF m 49 #[rv a1, rv p2, rv bg, iv (0 : Int32), iv (9000 : Int32)] [(.ref rc_26), (.int (0 : Int32)), (.ref bg)])) := fun t k => P30 t (st31 t k)
  have P33 : Rch p e below (s₁.setTop (entryFrame m #[(.ref a1), (.ref p2), (.ref bg), (.int (0 : Int32)), (.int (9000 : Int32))] 5)) (T31.setTop (mkF m 50 #[rv a1, rv p2, rv bg, iv (0 : Int32), iv (9000 : Int32)] [(.ref a1), (.ref rc_26), (.int (0 : Int32)), (.ref bg)])) := fun t k => P32 t (by
    show Steps p.tables e below (T31.setTop (mkF m 49 #[rv a1, rv p2, rv bg, iv (0 : Int32), iv (9000 : Int32)] [(.ref rc_26), (.int (0 : Int32)), (.ref bg)])) t
    refine XS.aloadN X31.here hx rfl (hb hby d6_49) rfl rfl ?_
    exact k)
  have f34 : Fld Z h28 a1 "com/example/rideau/rideau/internal/HeldText" "length" "I" (.int ln) := ((F_length.keep K26 nin0).other W28 (Or.inr (slot_ne (Or.inl (hw _ (List.mem_of_getElem? (i := 55) rfl))) (Or.inl (hw _ (List.mem_of_getElem? (i := 31) rfl))) (by decide) (t := .int) (t' := (.array .char)) (by decide) (by decide))))
  obtain ⟨T35, X35, e35, st35⟩ := getF X31 hx hZ hown (host := "") (Or.inl (hw _ (List.mem_of_getElem? (i := 54) rfl))) Via.refl e31 f34 (g := (mkF m 50 #[rv a1, rv p2, rv bg, iv (0 : Int32), iv (9000 : Int32)] [(.ref a1), (.ref rc_26), (.int (0 : Int32)), (.ref bg)])) rfl rfl (hb hby d6_50)
  have P36 : Rch p e below (s₁.setTop (entryFrame m #[(.ref a1), (.ref p2), (.ref bg), (.int (0 : Int32)), (.int (9000 : Int32))] 5)) (T35.setTop (mkF m 53 #[rv a1, rv p2, rv bg, iv (0 : Int32), iv (9000 : Int32)] [(.int ln), (.ref rc_26), (.int (0 : Int32)), (.ref bg)])) := fun t k => P33 t (st35 t k)
  have P37 : Rch p e below (s₁.setTop (entryFrame m #[(.ref a1), (.ref p2), (.ref bg), (.int (0 : Int32)), (.int (9000 : Int32))] 5)) (T35.setTop (mkF m 55 #[rv a1, rv p2, rv bg, iv (0 : Int32), iv (9000 : Int32)] [(.int (9000 : Int32)), (.int ln), (.ref rc_26), (.int (0 : Int32)), (.ref bg)])) := fun t k => P36 t (by
    show Steps p.tables e below (T35.setTop (mkF m 53 #[rv a1, rv p2, rv bg, iv (0 : Int32), iv (9000 : Int32)] [(.int ln), (.ref rc_26), (.int (0 : Int32)), (.ref bg)])) t
    refine XS.iload X35.here hx rfl (hb hby d6_53) rfl ?_
    exact k)
  obtain ⟨vf, hvf, VF⟩ := own_full (Vr_26.other W28 (Ne.symm ne_a1_rc_26))
  have hcb := own_cbB hln hzn
  obtain ⟨T38, h38, L38, X38, e38, N38, K38, A38, st38⟩ := cpA X35 hx hZ hown (hw _ (List.mem_of_getElem? (i := 81) rfl)) (hw _ (List.mem_of_getElem? (i := 80) rfl)) (hw _ (List.mem_of_getElem? (i := 78) rfl)) (hw _ (List.mem_of_getElem? (i := 79) rfl)) e35 ((VB.keep K26 nin0).other W28 n_bg_a1) VF (us := ((List.range ((9000 : Int32)).toNatClampNeg).map fun i => (vb).getD (((0 : Int32)).toNatClampNeg + i) (.int (0 : Int32)))) (Or.inl ⟨rfl, rfl⟩) (by decide) hcb.1 (by decide) (by decide) hcb.2 rfl (by rw [hvf]; exact hcb.2) N28 g_rc_26 (g := (mkF m 55 #[rv a1, rv p2, rv bg, iv (0 : Int32), iv (9000 : Int32)] [(.int (9000 : Int32)), (.int ln), (.ref rc_26), (.int (0 : Int32)), (.ref bg)])) rfl (by rw [hml]; rfl) rfl (hb hby d6_55) (by decide) (W := 0) (by show 2 * 0 + _ ≤ _; exact Nat.le_of_eq rfl) (by decide)
  obtain ⟨vh38, V38⟩ : ∃ vs : List Value, Arv Z h38 rc_26 krc_26 .char x25 vs (.int (0 : Int32)) := ⟨_, A38⟩
  have P39 : Rch p e below (s₁.setTop (entryFrame m #[(.ref a1), (.ref p2), (.ref bg), (.int (0 : Int32)), (.int (9000 : Int32))] 5)) (T38.setTop (mkF m 58 #[rv a1, rv p2, rv bg, iv (0 : Int32), iv (9000 : Int32)] [])) := fun t k => P37 t (st38 t k)
  have P40 : Rch p e below (s₁.setTop (entryFrame m #[(.ref a1), (.ref p2), (.ref bg), (.int (0 : Int32)), (.int (9000 : Int32))] 5)) (T38.setTop (mkF m 60 #[rv a1, rv p2, rv bg, iv (0 : Int32), iv (9000 : Int32)] [(.ref a1), (.ref a1)])) := fun t k => P39 t (by
    show Steps p.tables e below (T38.setTop (mkF m 58 #[rv a1, rv p2, rv bg, iv (0 : Int32), iv (9000 : Int32)] [])) t
    refine XS.aloadN X38.here hx rfl (hb hby d6_58) rfl rfl ?_
    refine XS.dup X38.here hx rfl (hb hby d6_59) rfl rfl ?_
    exact k)
  obtain ⟨T41, X41, e41, st41⟩ := getF X38 hx hZ hown (host := "") (Or.inl (hw _ (List.mem_of_getElem? (i := 54) rfl))) Via.refl e38 (f34.keep K38 (ninS ne_a1_rc_26 nin0)) (g := (mkF m 60 #[rv a1, rv p2, rv bg, iv (0 : Int32), iv (9000 : Int32)] [(.ref a1), (.ref a1)])) rfl rfl (hb hby d6_60)
  have P42 : Rch p e below (s₁.setTop (entryFrame m #[(.ref a1), (.ref p2), (.ref bg), (.int (0 : Int32)), (.int (9000 : Int32))] 5)) (T41.setTop (mkF m 63 #[rv a1, rv p2, rv bg, iv (0 : Int32), iv (9000 : Int32)] [(.int ln), (.ref a1)])) := fun t k => P40 t (st41 t k)
  obtain ⟨x43, hx43⟩ : ∃ z : Int32, z = (ln + (9000 : Int32)) := ⟨_, rfl⟩
  have P44 : Rch p e below (s₁.setTop (entryFrame m #[(.ref a1), (.ref p2), (.ref bg), (.int (0 : Int32)), (.int (9000 : Int32))] 5)) (T41.setTop (mkF m 66 #[rv a1, rv p2, rv bg, iv (0 : Int32), iv (9000 : Int32)] [(.int x43), (.ref a1)])) := fun t k => P42 t (by
    subst hx43
    show Steps p.tables e below (T41.setTop (mkF m 63 #[rv a1, rv p2, rv bg, iv (0 : Int32), iv (9000 : Int32)] [(.int ln), (.ref a1)])) t
    refine XS.iload X41.here hx rfl (hb hby d6_63) rfl ?_
    refine XS.iadd X41.here hx rfl (hb hby d6_65) rfl ?_
    exact k)
  obtain ⟨T45, h45, X45, e45, W45, st45⟩ := putF X41 hx hZ hown (host := "") (Or.inl (hw _ (List.mem_of_getElem? (i := 54) rfl))) Via.refl e41 (f34.keep K38 (ninS ne_a1_rc_26 nin0)) (((E1.keep K26).wr W28).keep K38) (Or.inl (hw _ (List.mem_of_getElem? (i := 55) rfl))) (hw _ (List.mem_of_getElem? (i := 22) rfl)) (ty := .int) (by decide) rfl rfl (g := (mkF m 66 #[rv a1, rv p2, rv bg, iv (0 : Int32), iv (9000 : Int32)] [(.int x43), (.ref a1)])) rfl rfl (hb hby d6_66)
  have Fw45 := (f34.keep K38 (ninS ne_a1_rc_26 nin0)).same W45
  have P46 : Rch p e below (s₁.setTop (entryFrame m #[(.ref a1), (.ref p2), (.ref bg), (.int (0 : Int32)), (.int (9000 : Int32))] 5)) (T45.setTop (mkF m 69 #[rv a1, rv p2, rv bg, iv (0 : Int32), iv (9000 : Int32)] [])) := fun t k => P44 t (st45 t k)
  have N45 := Fr.snoc X45 N38 g_a1
  have P47 : Rch p e below (s₁.setTop (entryFrame m #[(.ref a1), (.ref p2), (.ref bg), (.int (0 : Int32)), (.int (9000 : Int32))] 5)) (T45.setTop (mkF m 70 #[rv a1, rv p2, rv bg, iv (0 : Int32), iv (9000 : Int32)] [(.ref a1)])) := fun t k => P46 t (by
    show Steps p.tables e below (T45.setTop (mkF m 69 #[rv a1, rv p2, rv bg, iv (0 : Int32), iv (9000 : Int32)] [])) t
    refine XS.aloadN X45.here hx rfl (hb hby d6_69) rfl rfl ?_
    exact k)
  have f48 : Fld Z h45 a1 "com/example/rideau/rideau/internal/HeldText" "size" "I" (.int sz) := ((((F_size.keep K26 nin0).other W28 (Or.inr (slot_ne (Or.inl (hw _ (List.mem_of_getElem? (i := 48) rfl))) (Or.inl (hw _ (List.mem_of_getElem? (i := 31) rfl))) (by decide) (t := .int) (t' := (.array .char)) (by decide) (by decide)))).keep K38 (ninS ne_a1_rc_26 nin0)).other W45 (Or.inr (slot_ne (Or.inl (hw _ (List.mem_of_getElem? (i := 48) rfl))) (Or.inl (hw _ (List.mem_of_getElem? (i := 55) rfl))) (by decide) (t := .int) (t' := .int) (by decide) (by decide))))
  obtain ⟨T49, X49, e49, st49⟩ := getF X45 hx hZ hown (host := "") (Or.inl (hw _ (List.mem_of_getElem? (i := 47) rfl))) Via.refl e45 f48 (g := (mkF m 70 #[rv a1, rv p2, rv bg, iv (0 : Int32), iv (9000 : Int32)] [(.ref a1)])) rfl rfl (hb hby d6_70)
  have P50 : Rch p e below (s₁.setTop (entryFrame m #[(.ref a1), (.ref p2), (.ref bg), (.int (0 : Int32)), (.int (9000 : Int32))] 5)) (T49.setTop (mkF m 73 #[rv a1, rv p2, rv bg, iv (0 : Int32), iv (9000 : Int32)] [(.int sz)])) := fun t k => P47 t (st49 t k)
  by_cases c51 : (0 : Int32) < sz
  · have P52 : Rch p e below (s₁.setTop (entryFrame m #[(.ref a1), (.ref p2), (.ref bg), (.int (0 : Int32)), (.int (9000 : Int32))] 5)) (T49.setTop (mkF m 77 #[rv a1, rv p2, rv bg, iv (0 : Int32), iv (9000 : Int32)] [(.ref a1)])) := fun t k => P50 t (by
      show Steps p.tables e below (T49.setTop (mkF m 73 #[rv a1, rv p2, rv bg, iv (0 : Int32), iv (9000 : Int32)] [(.int sz)])) t
      refine XS.ifNo X49.here hx rfl (hb hby d6_73) rfl ((if0 _ _).trans (tlt c51).2.2.2) ?_
      refine XS.aloadN X49.here hx rfl (hb hby d6_76) rfl rfl ?_
      exact k)
    have f53 : Fld Z h45 a1 "com/example/rideau/rideau/internal/HeldText" "pieces" "[Lcom/example/rideau/rideau/internal/HeldText$Piece;" (.ref ap) := ((((F_pieces.keep K26 nin0).other W28 (Or.inr (slot_ne (Or.inl (hw _ (List.mem_of_getElem? (i := 34) rfl))) (Or.inl (hw _ (List.mem_of_getElem? (i := 31) rfl))) (by decide) (t := (.array (.object "com/example/rideau/rideau/internal/HeldText$Piece"))) (t' := (.array .char)) (by decide) (by decide)))).keep K38 (ninS ne_a1_rc_26 nin0)).other W45 (Or.inr (slot_ne (Or.inl (hw _ (List.mem_of_getElem? (i := 34) rfl))) (Or.inl (hw _ (List.mem_of_getElem? (i := 55) rfl))) (by decide) (t := (.array (.object "com/example/rideau/rideau/internal/HeldText$Piece"))) (t' := .int) (by decide) (by decide))))
    obtain ⟨T54, X54, e54, st54⟩ := getF X49 hx hZ hown (host := "") (Or.inl (hw _ (List.mem_of_getElem? (i := 33) rfl))) Via.refl e49 f53 (g := (mkF m 77 #[rv a1, rv p2, rv bg, iv (0 : Int32), iv (9000 : Int32)] [(.ref a1)])) rfl rfl (hb hby d6_77)
    have P55 : Rch p e below (s₁.setTop (entryFrame m #[(.ref a1), (.ref p2), (.ref bg), (.int (0 : Int32)), (.int (9000 : Int32))] 5)) (T54.setTop (mkF m 80 #[rv a1, rv p2, rv bg, iv (0 : Int32), iv (9000 : Int32)] [(.ref ap)])) := fun t k => P52 t (st54 t k)
    have P56 : Rch p e below (s₁.setTop (entryFrame m #[(.ref a1), (.ref p2), (.ref bg), (.int (0 : Int32)), (.int (9000 : Int32))] 5)) (T54.setTop (mkF m 81 #[rv a1, rv p2, rv bg, iv (0 : Int32), iv (9000 : Int32)] [(.ref a1), (.ref ap)])) := fun t k => P55 t (by
      show Steps p.tables e below (T54.setTop (mkF m 80 #[rv a1, rv p2, rv bg, iv (0 : Int32), iv (9000 : Int32)] [(.ref ap)])) t
      refine XS.aloadN X54.here hx rfl (hb hby d6_80) rfl rfl ?_
      exact k)
    obtain ⟨T57, X57, e57, st57⟩ := getF X54 hx hZ hown (host := "") (Or.inl (hw _ (List.mem_of_getElem? (i := 47) rfl))) Via.refl e54 f48 (g := (mkF m 81 #[rv a1, rv p2, rv bg, iv (0 : Int32), iv (9000 : Int32)] [(.ref a1), (.ref ap)])) rfl rfl (hb hby d6_81)
    have P58 : Rch p e below (s₁.setTop (entryFrame m #[(.ref a1), (.ref p2), (.ref bg), (.int (0 : Int32)), (.int (9000 : Int32))] 5)) (T57.setTop (mkF m 84 #[rv a1, rv p2, rv bg, iv (0 : Int32), iv (9000 : Int32)] [(.int sz), (.ref ap)])) := fun t k => P56 t (st57 t k)
    obtain ⟨x59, hx59⟩ : ∃ z : Int32, z = (sz - (1 : Int32)) := ⟨_, rfl⟩
    have P60 : Rch p e below (s₁.setTop (entryFrame m #[(.ref a1), (.ref p2), (.ref bg), (.int (0 : Int32)), (.int (9000 : Int32))] 5)) (T57.setTop (mkF m 86 #[rv a1, rv p2, rv bg, iv (0 : Int32), iv (9000 : Int32)] [(.int x59), (.ref ap)])) := fun t k => P58 t (by
      subst hx59
      show Steps p.tables e below (T57.setTop (mkF m 84 #[rv a1, rv p2, rv bg, iv (0 : Int32), iv (9000 : Int32)] [(.int sz), (.ref ap)])) t
      refine XS.iconst X57.here hx rfl (hb hby d6_84) ?_
      refine XS.isub X57.here hx rfl (hb hby d6_85) rfl ?_
      exact k)
    have f61 : Arv Z h45 ap kp (.object "com/example/rideau/rideau/internal/HeldText$Piece") (16 : Int32) vp .null := ((((VP.keep K26 nin0).other W28 (Ne.symm n_a1_ap)).keep K38 (ninS ne_ap_rc_26 nin0)).other W45 (Ne.symm n_a1_ap))
    have hix : ¬ x59 < 0 ∧ x59 < (16 : Int32) := by rw [hx59]; exact own_dec hsz c51
    obtain ⟨u86, eu86, hu86⟩ : ∃ u : Value, vp.getD (x59).toNatClampNeg .null = u ∧ u.isRef = true := ⟨_, rfl, own_ref f61 hix⟩
    have V_o62 := f61
    obtain ⟨co62, Aro62, qo62, So62, Mo62, Ho62, Go62⟩ := V_o62
    have hin63 : ¬ (x59 < 0 ∨ co62.slots.size ≤ (x59).toNatClampNeg) := inb_of So62 hix
    have hat63 : co62.slots[(x59).toNatClampNeg]? = some u86 := Has.at Ho62 hin63 eu86
    have P64 : Rch p e below (s₁.setTop (entryFrame m #[(.ref a1), (.ref p2), (.ref bg), (.int (0 : Int32)), (.int (9000 : Int32))] 5)) (T57.setTop (mkF m 87 #[rv a1, rv p2, rv bg, iv (0 : Int32), iv (9000 : Int32)] [u86])) := fun t k => P60 t (X57.aaload hx (j := x59) (v := u86) (by rw [e57]; exact Aro62.1) (State.isArrayOf_alike hZ.alike Aro62.2.1) rfl Aro62.2.2 hin63 hat63 (g := (mkF m 86 #[rv a1, rv p2, rv bg, iv (0 : Int32), iv (9000 : Int32)] [(.int x59), (.ref ap)])) rfl rfl (hb hby d6_86) t k)
    have P65 : Rch p e below (s₁.setTop (entryFrame m #[(.ref a1), (.ref p2), (.ref bg), (.int (0 : Int32)), (.int (9000 : Int32))] 5)) (T57.setTop (mkF m 88 #[rv a1, rv p2, rv bg, iv (0 : Int32), iv (9000 : Int32)] [(.ref p2), u86])) := fun t k => P64 t (by
      show Steps p.tables e below (T57.setTop (mkF m 87 #[rv a1, rv p2, rv bg, iv (0 : Int32), iv (9000 : Int32)] [u86])) t
      refine XS.aloadN X57.here hx rfl (hb hby d6_87) rfl rfl ?_
      exact k)
    by_cases c66 : u86 = Value.ref p2
    · have P67 : Rch p e below (s₁.setTop (entryFrame m #[(.ref a1), (.ref p2), (.ref bg), (.int (0 : Int32)), (.int (9000 : Int32))] 5)) (T57.setTop (mkF m 92 #[rv a1, rv p2, rv bg, iv (0 : Int32), iv (9000 : Int32)] [(.ref a1)])) := fun t k => P65 t (by
        show Steps p.tables e below (T57.setTop (mkF m 88 #[rv a1, rv p2, rv bg, iv (0 : Int32), iv (9000 : Int32)] [(.ref p2), u86])) t
        refine Jvm.RoadKit.acmp (g := (mkF m 88 #[rv a1, rv p2, rv bg, iv (0 : Int32), iv (9000 : Int32)] [(.ref p2), u86])) X57 hx rfl hu86 rfl (pc0 := 88) (pc' := 91) (same := true) rfl (hb hby d6_88) rfl (decide_eq_true c66) (by decide) (by decide) ?_
        refine XS.aloadN X57.here hx rfl (hb hby d6_91) rfl rfl ?_
        exact k)
      have f68 : Fld Z h45 a1 "com/example/rideau/rideau/internal/HeldText" "ends" "[I" (.ref ae) := ((((F_ends.keep K26 nin0).other W28 (Or.inr (slot_ne (Or.inl (hw _ (List.mem_of_getElem? (i := 37) rfl))) (Or.inl (hw _ (List.mem_of_getElem? (i := 31) rfl))) (by decide) (t := (.array .int)) (t' := (.array .char)) (by decide) (by decide)))).keep K38 (ninS ne_a1_rc_26 nin0)).other W45 (Or.inr (slot_ne (Or.inl (hw _ (List.mem_of_getElem? (i := 37) rfl))) (Or.inl (hw _ (List.mem_of_getElem? (i := 55) rfl))) (by decide) (t := (.array .int)) (t' := .int) (by decide) (by decide))))
      obtain ⟨T69, X69, e69, st69⟩ := getF X57 hx hZ hown (host := "") (Or.inl (hw _ (List.mem_of_getElem? (i := 36) rfl))) Via.refl e57 f68 (g := (mkF m 92 #[rv a1, rv p2, rv bg, iv (0 : Int32), iv (9000 : Int32)] [(.ref a1)])) rfl rfl (hb hby d6_92)
      have P70 : Rch p e below (s₁.setTop (entryFrame m #[(.ref a1), (.ref p2), (.ref bg), (.int (0 : Int32)), (.int (9000 : Int32))] 5)) (T69.setTop (mkF m 95 #[rv a1, rv p2, rv bg, iv (0 : Int32), iv (9000 : Int32)] [(.ref ae)])) := fun t k => P67 t (st69 t k)
      have P71 : Rch p e below (s₁.setTop (entryFrame m #[(.ref a1), (.ref p2), (.ref bg), (.int (0 : Int32)), (.int (9000 : Int32))] 5)) (T69.setTop (mkF m 96 #[rv a1, rv p2, rv bg, iv (0 : Int32), iv (9000 : Int32)] [(.ref a1), (.ref ae)])) := fun t k => P70 t (by
        show Steps p.tables e below (T69.setTop (mkF m 95 #[rv a1, rv p2, rv bg, iv (0 : Int32), iv (9000 : Int32)] [(.ref ae)])) t
        refine XS.aloadN X69.here hx rfl (hb hby d6_95) rfl rfl ?_
        exact k)
      obtain ⟨T72, X72, e72, st72⟩ := getF X69 hx hZ hown (host := "") (Or.inl (hw _ (List.mem_of_getElem? (i := 47) rfl))) Via.refl e69 f48 (g := (mkF m 96 #[rv a1, rv p2, rv bg, iv (0 : Int32), iv (9000 : Int32)] [(.ref a1), (.ref ae)])) rfl rfl (hb hby d6_96)
      have P73 : Rch p e below (s₁.setTop (entryFrame m #[(.ref a1), (.ref p2), (.ref bg), (.int (0 : Int32)), (.int (9000 : Int32))] 5)) (T72.setTop (mkF m 99 #[rv a1, rv p2, rv bg, iv (0 : Int32), iv (9000 : Int32)] [(.int sz), (.ref ae)])) := fun t k => P71 t (st72 t k)
      obtain ⟨x74, hx74⟩ : ∃ z : Int32, z = (sz - (1 : Int32)) := ⟨_, rfl⟩
      have P75 : Rch p e below (s₁.setTop (entryFrame m #[(.ref a1), (.ref p2), (.ref bg), (.int (0 : Int32)), (.int (9000 : Int32))] 5)) (T72.setTop (mkF m 102 #[rv a1, rv p2, rv bg, iv (0 : Int32), iv (9000 : Int32)] [(.ref a1), (.int x74), (.ref ae)])) := fun t k => P73 t (by
        subst hx74
        show Steps p.tables e below (T72.setTop (mkF m 99 #[rv a1, rv p2, rv bg, iv (0 : Int32), iv (9000 : Int32)] [(.int sz), (.ref ae)])) t
        refine XS.iconst X72.here hx rfl (hb hby d6_99) ?_
        refine XS.isub X72.here hx rfl (hb hby d6_100) rfl ?_
        refine XS.aloadN X72.here hx rfl (hb hby d6_101) rfl rfl ?_
        exact k)
      obtain ⟨T76, X76, e76, st76⟩ := getF X72 hx hZ hown (host := "") (Or.inl (hw _ (List.mem_of_getElem? (i := 54) rfl))) Via.refl e72 Fw45 (g := (mkF m 102 #[rv a1, rv p2, rv bg, iv (0 : Int32), iv (9000 : Int32)] [(.ref a1), (.int x74), (.ref ae)])) rfl rfl (hb hby d6_102)
      have P77 : Rch p e below (s₁.setTop (entryFrame m #[(.ref a1), (.ref p2), (.ref bg), (.int (0 : Int32)), (.int (9000 : Int32))] 5)) (T76.setTop (mkF m 105 #[rv a1, rv p2, rv bg, iv (0 : Int32), iv (9000 : Int32)] [(.int x43), (.int x74), (.ref ae)])) := fun t k => P75 t (st76 t k)
      have hiy : ¬ x74 < 0 ∧ x74 < (16 : Int32) := by rw [hx74]; exact own_dec hsz c51
      have f78 : Arv Z h45 ae ke .int (16 : Int32) ve (.int (0 : Int32)) := ((((VE.keep K26 nin0).other W28 (Ne.symm n_a1_ae)).keep K38 (ninS ne_ae_rc_26 nin0)).other W45 (Ne.symm n_a1_ae))
      have V_o79 := f78
      obtain ⟨co79, Aro79, qo79, So79, Mo79, Ho79, Go79⟩ := V_o79
      have hin80 : ¬ (x74 < 0 ∨ co79.slots.size ≤ (x74).toNatClampNeg) := inb_of So79 hiy
      obtain ⟨T80, h80, X80, e80, W80, st80⟩ := stI X76 hx hZ e76 Aro79 (j := x74) hin80 (g := (mkF m 105 #[rv a1, rv p2, rv bg, iv (0 : Int32), iv (9000 : Int32)] [(.int x43), (.int x74), (.ref ae)])) rfl rfl (hb hby d6_105)
      have V80 : Arv Z h80 ae ke .int (16 : Int32) (ve.set (x74).toNatClampNeg (.int x43)) (.int (0 : Int32)) := Arv.set Aro79 qo79 So79 Mo79 Ho79 Go79 rfl W80 (x74).toNatClampNeg rfl (own_ltl2 hiy hve)
      have P81 : Rch p e below (s₁.setTop (entryFrame m #[(.ref a1), (.ref p2), (.ref bg), (.int (0 : Int32)), (.int (9000 : Int32))] 5)) (T80.setTop (mkF m 106 #[rv a1, rv p2, rv bg, iv (0 : Int32), iv (9000 : Int32)] [])) := fun t k => P77 t (st80 t k)
      have N80 := Fr.snoc X80 N45 g_ae
      have P82 : Rch p e below (s₁.setTop (entryFrame m #[(.ref a1), (.ref p2), (.ref bg), (.int (0 : Int32)), (.int (9000 : Int32))] 5)) (T80.setTop (mkF m 115 #[rv a1, rv p2, rv bg, iv (0 : Int32), iv (9000 : Int32)] [])) := fun t k => P81 t (by
        show Steps p.tables e below (T80.setTop (mkF m 106 #[rv a1, rv p2, rv bg, iv (0 : Int32), iv (9000 : Int32)] [])) t
        refine XS.goto X80.here hx rfl (pc0 := 106) (pc' := 115) rfl (hb hby d6_106) (by decide) (by decide) ?_
        exact k)
      obtain ⟨fs, hr, hrun, hended, hW, hsame⟩ := X80.leave (v := none) (fun _ => rfl)
      refine ⟨_, _, P82 _ ?_, hrun, hended, _, _, rfl, ?_, ⟨_, rfl⟩, hW, hsame.mono (by decide) (by decide)⟩
      · exact X80.returnOut hx Bd.returns (hb hby d6_115) hr
      · show Q_rmTB Z a1 ac ap ae an kc kp ke kn p2 bg kb vb sz ln vc vp ve vn h0 n0 _ T80.heap _
        rw [e80]
        have f83 : Fld Z h80 a1 "com/example/rideau/rideau/internal/HeldText" "chars" "[C" (.ref rc_26) := (((Fw28.keep K38 (ninS ne_a1_rc_26 nin0)).other W45 (Or.inr (slot_ne (Or.inl (hw _ (List.mem_of_getElem? (i := 31) rfl))) (Or.inl (hw _ (List.mem_of_getElem? (i := 55) rfl))) (by decide) (t := (.array .char)) (t' := .int) (by decide) (by decide)))).other W80 (Or.inl n_a1_ae))
        have f84 : Arv Z h80 rc_26 krc_26 .char x25 vh38 (.int (0 : Int32)) := ((V38.other W45 (Ne.symm ne_a1_rc_26)).other W80 (Ne.symm ne_ae_rc_26))
        have f85 : Arv Z h80 an kn (.object "java/lang/String") (16 : Int32) vn .null := (((((VN.keep K26 nin0).other W28 (Ne.symm n_a1_an)).keep K38 (ninS ne_an_rc_26 nin0)).other W45 (Ne.symm n_a1_an)).other W80 (Ne.symm n_ae_an))
        have f86 : Keep h0 h80 [a1, ap, ae, an] := ((((((Keep.refl h0 [a1, ap, ae, an]).trans K26 all0).wr W28 (Or.inl (List.mem_of_getElem? (i := 0) rfl))).trans K38 (allS (P := fun x => x ∈ [a1, ap, ae, an] ∨ h0.size ≤ x) (Or.inr sz_rc_26) all0)).wr W45 (Or.inl (List.mem_of_getElem? (i := 0) rfl))).wr W80 (Or.inl (List.mem_of_getElem? (i := 2) rfl)))
        have f87 : Fld Z h80 a1 "com/example/rideau/rideau/internal/HeldText" "names" "[Ljava/lang/String;" (.ref an) := (((((F_names.keep K26 nin0).other W28 (Or.inr (slot_ne (Or.inl (hw _ (List.mem_of_getElem? (i := 41) rfl))) (Or.inl (hw _ (List.mem_of_getElem? (i := 31) rfl))) (by decide) (t := (.array (.object "java/lang/String"))) (t' := (.array .char)) (by decide) (by decide)))).keep K38 (ninS ne_a1_rc_26 nin0)).other W45 (Or.inr (slot_ne (Or.inl (hw _ (List.mem_of_getElem? (i := 41) rfl))) (Or.inl (hw _ (List.mem_of_getElem? (i := 55) rfl))) (by decide) (t := (.array (.object "java/lang/String"))) (t' := .int) (by decide) (by decide)))).other W80 (Or.inl n_a1_ae))
        exact ⟨sz, x43, rc_26, krc_26, x25, vh38, vp, (ve.set (x74).toNatClampNeg (.int x43)), vn, rfl, N80, f86, sz_rc_26, (((((E1.keep K26).wr W28).keep K38).wr W45).wr W80), f83, (f53.other W80 (Or.inl n_a1_ae)), (f68.other W80 (Or.inl n_a1_ae)), f87, (f48.other W80 (Or.inl n_a1_ae)), (Fw45.other W80 (Or.inl n_a1_ae)), f84, (f61.other W80 n_ap_ae), V80, f85, (own_one hsz c51), (by omega), (by first | exact hvp | (rw [List.length_set]; exact hvp)), (by first | exact hve | (rw [List.length_set]; exact hve)), (by first | exact hvn | (rw [List.length_set]; exact hvn))⟩
    · have P88 : Rch p e below (s₁.setTop (entryFrame m #[(.ref a1), (.ref p2), (.ref bg), (.int (0 : Int32)), (.int (9000 : Int32))] 5)) (T57.setTop (mkF m 112 #[rv a1, rv p2, rv bg, iv (0 : Int32), iv (9000 : Int32)] [.null, (.ref p2), (.ref a1)])) := fun t k => P65 t (by
        show Steps p.tables e below (T57.setTop (mkF m 88 #[rv a1, rv p2, rv bg, iv (0 : Int32), iv (9000 : Int32)] [(.ref p2), u86])) t
        refine Jvm.RoadKit.acmp (g := (mkF m 88 #[rv a1, rv p2, rv bg, iv (0 : Int32), iv (9000 : Int32)] [(.ref p2), u86])) X57 hx rfl hu86 rfl (pc0 := 88) (pc' := 109) (same := false) rfl (hb hby d6_88) rfl (decide_eq_false c66) (by decide) (by decide) ?_
        refine XS.aloadN X57.here hx rfl (hb hby d6_109) rfl rfl ?_
        refine XS.aloadN X57.here hx rfl (hb hby d6_110) rfl rfl ?_
        show Steps p.tables e below (T57.setTop (mkF m 111 #[rv a1, rv p2, rv bg, iv (0 : Int32), iv (9000 : Int32)] [(.ref p2), (.ref a1)])) t
        refine XS.aconstNull X57.here hx rfl (hb hby d6_111) ?_
        exact k)
      have f90 : Fld Z h45 a1 "com/example/rideau/rideau/internal/HeldText" "chars" "[C" (.ref rc_26) := ((Fw28.keep K38 (ninS ne_a1_rc_26 nin0)).other W45 (Or.inr (slot_ne (Or.inl (hw _ (List.mem_of_getElem? (i := 31) rfl))) (Or.inl (hw _ (List.mem_of_getElem? (i := 55) rfl))) (by decide) (t := (.array .char)) (t' := .int) (by decide) (by decide))))
      have f91 : Fld Z h45 a1 "com/example/rideau/rideau/internal/HeldText" "ends" "[I" (.ref ae) := ((((F_ends.keep K26 nin0).other W28 (Or.inr (slot_ne (Or.inl (hw _ (List.mem_of_getElem? (i := 37) rfl))) (Or.inl (hw _ (List.mem_of_getElem? (i := 31) rfl))) (by decide) (t := (.array .int)) (t' := (.array .char)) (by decide) (by decide)))).keep K38 (ninS ne_a1_rc_26 nin0)).other W45 (Or.inr (slot_ne (Or.inl (hw _ (List.mem_of_getElem? (i := 37) rfl))) (Or.inl (hw _ (List.mem_of_getElem? (i := 55) rfl))) (by decide) (t := (.array .int)) (t' := .int) (by decide) (by decide))))
      have f92 : Fld Z h45 a1 "com/example/rideau/rideau/internal/HeldText" "names" "[Ljava/lang/String;" (.ref an) := ((((F_names.keep K26 nin0).other W28 (Or.inr (slot_ne (Or.inl (hw _ (List.mem_of_getElem? (i := 41) rfl))) (Or.inl (hw _ (List.mem_of_getElem? (i := 31) rfl))) (by decide) (t := (.array (.object "java/lang/String"))) (t' := (.array .char)) (by decide) (by decide)))).keep K38 (ninS ne_a1_rc_26 nin0)).other W45 (Or.inr (slot_ne (Or.inl (hw _ (List.mem_of_getElem? (i := 41) rfl))) (Or.inl (hw _ (List.mem_of_getElem? (i := 55) rfl))) (by decide) (t := (.array (.object "java/lang/String"))) (t' := .int) (by decide) (by decide))))
      have f93 : Arv Z h45 ae ke .int (16 : Int32) ve (.int (0 : Int32)) := ((((VE.keep K26 nin0).other W28 (Ne.symm n_a1_ae)).keep K38 (ninS ne_ae_rc_26 nin0)).other W45 (Ne.symm n_a1_ae))
      have f94 : Arv Z h45 an kn (.object "java/lang/String") (16 : Int32) vn .null := ((((VN.keep K26 nin0).other W28 (Ne.symm n_a1_an)).keep K38 (ninS ne_an_rc_26 nin0)).other W45 (Ne.symm n_a1_an))
      have f95 : n0 ≤ h45.size := (Nat.le_trans (Nat.le_trans (Nat.le_trans (Nat.le_trans Z0 K26.1) (Keep.of_wr W28).1) K38.1) (Keep.of_wr W45).1)
      obtain ⟨cq89, kq89, q89a, q89b, q89c⟩ := isOf hZ e57 ((((E1.keep K26).wr W28).keep K38).wr W45)
      obtain ⟨_, _, ⟨T89, L89, k89, n89⟩, -, X89, ⟨Lc89, hQ89, l89, y89, z89⟩, st89⟩ := X57.virtualBack hx (y := (⟨"com/example/rideau/rideau/internal/HeldText", "add", "(Lcom/example/rideau/rideau/internal/HeldText$Piece;Ljava/lang/String;)V"⟩ : MethodName)) (z := (⟨"com/example/rideau/rideau/internal/HeldText", "add", "(Lcom/example/rideau/rideau/internal/HeldText$Piece;Ljava/lang/String;)V"⟩ : MethodName)) hown (mvT hZ (hw _ (List.mem_of_getElem? (i := 82) rfl))) (mvT hZ (hw _ (List.mem_of_getElem? (i := 57) rfl))) (notFace_of_selects (args := #[]) (mvT hZ (hw _ (List.mem_of_getElem? (i := 59) rfl)))) (mvT hZ (hw _ (List.mem_of_getElem? (i := 59) rfl))) (mvT hZ (hw _ (List.mem_of_getElem? (i := 58) rfl))) (by decide) (backOf (W := 0) (rmAN l Z a0 hw [] a1 rc_26 ap ae an kp ke kn p2 sz x43 vp ve vn h45 n0 f95 ((((E1.keep K26).wr W28).keep K38).wr W45) f90 f53 f91 f92 f48 Fw45 f61 f93 f94 ((((E2.keep K26).wr W28).keep K38).wr W45) g_a1 g_rc_26 g_ap g_ae g_an ne_a1_rc_26 n_a1_ap n_a1_ae n_a1_an (Ne.symm ne_ap_rc_26) (Ne.symm ne_ae_rc_26) (Ne.symm ne_an_rc_26) n_ap_ae n_ap_an n_ae_an Op On hvp hve hvn ⟨by omega, by omega⟩) hZ (hw _ (List.mem_of_getElem? (i := 60) rfl)) (hw _ (List.mem_of_getElem? (i := 23) rfl)) (by decide) (by decide)) q89a q89c (g := (mkF m 112 #[rv a1, rv p2, rv bg, iv (0 : Int32), iv (9000 : Int32)] [.null, (.ref p2), (.ref a1)])) rfl (by rw [hml]; rfl) (Steps.refl _) (argsL := [(.ref p2), .null]) (rest := []) (lenOf pd_0 rfl) rfl (by show 2 * 0 + _ ≤ _; exact Nat.le_of_eq rfl) (hb hby d6_112) (fun _ _ => ⟨rfl, e57, (by decide : 1 + 0 ≤ _), (by decide : 9002 + 0 ≤ _)⟩)
      dsimp only [Pt.U, Pt.locs, Pt.cells, Pt.slots] at X89 l89 y89 z89 st89 hQ89
      subst y89 z89
      obtain ⟨szx_89, vpx_89, vex_89, vnx_89, rfl, N89q, K89, E1_89, F_chars_89, F_pieces_89, F_ends_89, F_names_89, F_size_89, F_length_89, VP_89, VE_89, VN_89, hszx_89, hvpx_89, hvex_89, hvnx_89⟩ := hQ89
      have N89 : Fr n0 L89 := by rw [l89]; exact Fr.app N45 N89q
      have P96 : Rch p e below (s₁.setTop (entryFrame m #[(.ref a1), (.ref p2), (.ref bg), (.int (0 : Int32)), (.int (9000 : Int32))] 5)) (T89.setTop (mkF m 115 #[rv a1, rv p2, rv bg, iv (0 : Int32), iv (9000 : Int32)] [])) := fun t k => P88 t (st89.trans k)
      obtain ⟨fs, hr, hrun, hended, hW, hsame⟩ := X89.leave (v := none) (fun _ => rfl)
      refine ⟨_, _, P96 _ ?_, hrun, hended, _, _, rfl, ?_, ⟨_, rfl⟩, hW, hsame.mono (by decide) (by decide)⟩
      · exact X89.returnOut hx Bd.returns (hb hby d6_115) hr
      · show Q_rmTB Z a1 ac ap ae an kc kp ke kn p2 bg kb vb sz ln vc vp ve vn h0 n0 _ T89.heap _
        have f97 : Arv Z T89.heap rc_26 krc_26 .char x25 vh38 (.int (0 : Int32)) := ((V38.other W45 (Ne.symm ne_a1_rc_26)).keep K89 (ninS (Ne.symm ne_a1_rc_26) (ninS (Ne.symm ne_ap_rc_26) (ninS (Ne.symm ne_ae_rc_26) (ninS (Ne.symm ne_an_rc_26) nin0)))))
        have f98 : Keep h0 T89.heap [a1, ap, ae, an] := ((((((Keep.refl h0 [a1, ap, ae, an]).trans K26 all0).wr W28 (Or.inl (List.mem_of_getElem? (i := 0) rfl))).trans K38 (allS (P := fun x => x ∈ [a1, ap, ae, an] ∨ h0.size ≤ x) (Or.inr sz_rc_26) all0)).wr W45 (Or.inl (List.mem_of_getElem? (i := 0) rfl))).trans K89 (allS (P := fun x => x ∈ [a1, ap, ae, an] ∨ h0.size ≤ x) (Or.inl (List.mem_of_getElem? (i := 0) rfl)) (allS (P := fun x => x ∈ [a1, ap, ae, an] ∨ h0.size ≤ x) (Or.inl (List.mem_of_getElem? (i := 1) rfl)) (allS (P := fun x => x ∈ [a1, ap, ae, an] ∨ h0.size ≤ x) (Or.inl (List.mem_of_getElem? (i := 2) rfl)) (allS (P := fun x => x ∈ [a1, ap, ae, an] ∨ h0.size ≤ x) (Or.inl (List.mem_of_getElem? (i := 3) rfl)) all0)))))
        exact ⟨szx_89, x43, rc_26, krc_26, x25, vh38, vpx_89, vex_89, vnx_89, rfl, N89, f98, sz_rc_26, E1_89, F_chars_89, F_pieces_89, F_ends_89, F_names_89, F_size_89, F_length_89, f97, VP_89, VE_89, VN_89, (by have q_ := hszx_89; omega), (by omega), hvpx_89, hvex_89, hvnx_89⟩
  · have P99 : Rch p e below (s₁.setTop (entryFrame m #[(.ref a1), (.ref p2), (.ref bg), (.int (0 : Int32)), (.int (9000 : Int32))] 5)) (T49.setTop (mkF m 112 #[rv a1, rv p2, rv bg, iv (0 : Int32), iv (9000 : Int32)] [.null, (.ref p2), (.ref a1)])) := fun t k => P50 t (by
      show Steps p.tables e below (T49.setTop (mkF m 73 #[rv a1, rv p2, rv bg, iv (0 : Int32), iv (9000 : Int32)] [(.int sz)])) t
      refine XS.ifYes X49.here hx rfl (pc0 := 73) (pc' := 109) rfl (hb hby d6_73) rfl ((if0 _ _).trans (flt c51).2.2.2) (by decide) (by decide) ?_
      refine XS.aloadN X49.here hx rfl (hb hby d6_109) rfl rfl ?_
      refine XS.aloadN X49.here hx rfl (hb hby d6_110) rfl rfl ?_
      show Steps p.tables e below (T49.setTop (mkF m 111 #[rv a1, rv p2, rv bg, iv (0 : Int32), iv (9000 : Int32)] [(.ref p2), (.ref a1)])) t
      refine XS.aconstNull X49.here hx rfl (hb hby d6_111) ?_
      exact k)
    have f101 : Fld Z h45 a1 "com/example/rideau/rideau/internal/HeldText" "chars" "[C" (.ref rc_26) := ((Fw28.keep K38 (ninS ne_a1_rc_26 nin0)).other W45 (Or.inr (slot_ne (Or.inl (hw _ (List.mem_of_getElem? (i := 31) rfl))) (Or.inl (hw _ (List.mem_of_getElem? (i := 55) rfl))) (by decide) (t := (.array .char)) (t' := .int) (by decide) (by decide))))
    have f102 : Fld Z h45 a1 "com/example/rideau/rideau/internal/HeldText" "pieces" "[Lcom/example/rideau/rideau/internal/HeldText$Piece;" (.ref ap) := ((((F_pieces.keep K26 nin0).other W28 (Or.inr (slot_ne (Or.inl (hw _ (List.mem_of_getElem? (i := 34) rfl))) (Or.inl (hw _ (List.mem_of_getElem? (i := 31) rfl))) (by decide) (t := (.array (.object "com/example/rideau/rideau/internal/HeldText$Piece"))) (t' := (.array .char)) (by decide) (by decide)))).keep K38 (ninS ne_a1_rc_26 nin0)).other W45 (Or.inr (slot_ne (Or.inl (hw _ (List.mem_of_getElem? (i := 34) rfl))) (Or.inl (hw _ (List.mem_of_getElem? (i := 55) rfl))) (by decide) (t := (.array (.object "com/example/rideau/rideau/internal/HeldText$Piece"))) (t' := .int) (by decide) (by decide))))
    have f103 : Fld Z h45 a1 "com/example/rideau/rideau/internal/HeldText" "ends" "[I" (.ref ae) := ((((F_ends.keep K26 nin0).other W28 (Or.inr (slot_ne (Or.inl (hw _ (List.mem_of_getElem? (i := 37) rfl))) (Or.inl (hw _ (List.mem_of_getElem? (i := 31) rfl))) (by decide) (t := (.array .int)) (t' := (.array .char)) (by decide) (by decide)))).keep K38 (ninS ne_a1_rc_26 nin0)).other W45 (Or.inr (slot_ne (Or.inl (hw _ (List.mem_of_getElem? (i := 37) rfl))) (Or.inl (hw _ (List.mem_of_getElem? (i := 55) rfl))) (by decide) (t := (.array .int)) (t' := .int) (by decide) (by decide))))
    have f104 : Fld Z h45 a1 "com/example/rideau/rideau/internal/HeldText" "names" "[Ljava/lang/String;" (.ref an) := ((((F_names.keep K26 nin0).other W28 (Or.inr (slot_ne (Or.inl (hw _ (List.mem_of_getElem? (i := 41) rfl))) (Or.inl (hw _ (List.mem_of_getElem? (i := 31) rfl))) (by decide) (t := (.array (.object "java/lang/String"))) (t' := (.array .char)) (by decide) (by decide)))).keep K38 (ninS ne_a1_rc_26 nin0)).other W45 (Or.inr (slot_ne (Or.inl (hw _ (List.mem_of_getElem? (i := 41) rfl))) (Or.inl (hw _ (List.mem_of_getElem? (i := 55) rfl))) (by decide) (t := (.array (.object "java/lang/String"))) (t' := .int) (by decide) (by decide))))
    have f105 : Arv Z h45 ap kp (.object "com/example/rideau/rideau/internal/HeldText$Piece") (16 : Int32) vp .null := ((((VP.keep K26 nin0).other W28 (Ne.symm n_a1_ap)).keep K38 (ninS ne_ap_rc_26 nin0)).other W45 (Ne.symm n_a1_ap))
    have f106 : Arv Z h45 ae ke .int (16 : Int32) ve (.int (0 : Int32)) := ((((VE.keep K26 nin0).other W28 (Ne.symm n_a1_ae)).keep K38 (ninS ne_ae_rc_26 nin0)).other W45 (Ne.symm n_a1_ae))
    have f107 : Arv Z h45 an kn (.object "java/lang/String") (16 : Int32) vn .null := ((((VN.keep K26 nin0).other W28 (Ne.symm n_a1_an)).keep K38 (ninS ne_an_rc_26 nin0)).other W45 (Ne.symm n_a1_an))
    have f108 : n0 ≤ h45.size := (Nat.le_trans (Nat.le_trans (Nat.le_trans (Nat.le_trans Z0 K26.1) (Keep.of_wr W28).1) K38.1) (Keep.of_wr W45).1)
    obtain ⟨cq100, kq100, q100a, q100b, q100c⟩ := isOf hZ e49 ((((E1.keep K26).wr W28).keep K38).wr W45)
    obtain ⟨_, _, ⟨T100, L100, k100, n100⟩, -, X100, ⟨Lc100, hQ100, l100, y100, z100⟩, st100⟩ := X49.virtualBack hx (y := (⟨"com/example/rideau/rideau/internal/HeldText", "add", "(Lcom/example/rideau/rideau/internal/HeldText$Piece;Ljava/lang/String;)V"⟩ : MethodName)) (z := (⟨"com/example/rideau/rideau/internal/HeldText", "add", "(Lcom/example/rideau/rideau/internal/HeldText$Piece;Ljava/lang/String;)V"⟩ : MethodName)) hown (mvT hZ (hw _ (List.mem_of_getElem? (i := 82) rfl))) (mvT hZ (hw _ (List.mem_of_getElem? (i := 57) rfl))) (notFace_of_selects (args := #[]) (mvT hZ (hw _ (List.mem_of_getElem? (i := 59) rfl)))) (mvT hZ (hw _ (List.mem_of_getElem? (i := 59) rfl))) (mvT hZ (hw _ (List.mem_of_getElem? (i := 58) rfl))) (by decide) (backOf (W := 0) (rmAN l Z a0 hw [] a1 rc_26 ap ae an kp ke kn p2 sz x43 vp ve vn h45 n0 f108 ((((E1.keep K26).wr W28).keep K38).wr W45) f101 f102 f103 f104 f48 Fw45 f105 f106 f107 ((((E2.keep K26).wr W28).keep K38).wr W45) g_a1 g_rc_26 g_ap g_ae g_an ne_a1_rc_26 n_a1_ap n_a1_ae n_a1_an (Ne.symm ne_ap_rc_26) (Ne.symm ne_ae_rc_26) (Ne.symm ne_an_rc_26) n_ap_ae n_ap_an n_ae_an Op On hvp hve hvn ⟨by omega, by omega⟩) hZ (hw _ (List.mem_of_getElem? (i := 60) rfl)) (hw _ (List.mem_of_getElem? (i := 23) rfl)) (by decide) (by decide)) q100a q100c (g := (mkF m 112 #[rv a1, rv p2, rv bg, iv (0 : Int32), iv (9000 : Int32)] [.null, (.ref p2), (.ref a1)])) rfl (by rw [hml]; rfl) (Steps.refl _) (argsL := [(.ref p2), .null]) (rest := []) (lenOf pd_0 rfl) rfl (by show 2 * 0 + _ ≤ _; exact Nat.le_of_eq rfl) (hb hby d6_112) (fun _ _ => ⟨rfl, e49, (by decide : 1 + 0 ≤ _), (by decide : 9002 + 0 ≤ _)⟩)
    dsimp only [Pt.U, Pt.locs, Pt.cells, Pt.slots] at X100 l100 y100 z100 st100 hQ100
    subst y100 z100
    obtain ⟨szx_100, vpx_100, vex_100, vnx_100, rfl, N100q, K100, E1_100, F_chars_100, F_pieces_100, F_ends_100, F_names_100, F_size_100, F_length_100, VP_100, VE_100, VN_100, hszx_100, hvpx_100, hvex_100, hvnx_100⟩ := hQ100
    have N100 : Fr n0 L100 := by rw [l100]; exact Fr.app N45 N100q
    have P109 : Rch p e below (s₁.setTop (entryFrame m #[(.ref a1), (.ref p2), (.ref bg), (.int (0 : Int32)), (.int (9000 : Int32))] 5)) (T100.setTop (mkF m 115 #[rv a1, rv p2, rv bg, iv (0 : Int32), iv (9000 : Int32)] [])) := fun t k => P99 t (st100.trans k)
    obtain ⟨fs, hr, hrun, hended, hW, hsame⟩ := X100.leave (v := none) (fun _ => rfl)
    refine ⟨_, _, P109 _ ?_, hrun, hended, _, _, rfl, ?_, ⟨_, rfl⟩, hW, hsame.mono (by decide) (by decide)⟩
    · exact X100.returnOut hx Bd.returns (hb hby d6_115) hr
    · show Q_rmTB Z a1 ac ap ae an kc kp ke kn p2 bg kb vb sz ln vc vp ve vn h0 n0 _ T100.heap _
      have f110 : Arv Z T100.heap rc_26 krc_26 .char x25 vh38 (.int (0 : Int32)) := ((V38.other W45 (Ne.symm ne_a1_rc_26)).keep K100 (ninS (Ne.symm ne_a1_rc_26) (ninS (Ne.symm ne_ap_rc_26) (ninS (Ne.symm ne_ae_rc_26) (ninS (Ne.symm ne_an_rc_26) nin0)))))
      have f111 : Keep h0 T100.heap [a1, ap, ae, an] := ((((((Keep.refl h0 [a1, ap, ae, an]).trans K26 all0).wr W28 (Or.inl (List.mem_of_getElem? (i := 0) rfl))).trans K38 (allS (P := fun x => x ∈ [a1, ap, ae, an] ∨ h0.size ≤ x) (Or.inr sz_rc_26) all0)).wr W45 (Or.inl (List.mem_of_getElem? (i := 0) rfl))).trans K100 (allS (P := fun x => x ∈ [a1, ap, ae, an] ∨ h0.size ≤ x) (Or.inl (List.mem_of_getElem? (i := 0) rfl)) (allS (P := fun x => x ∈ [a1, ap, ae, an] ∨ h0.size ≤ x) (Or.inl (List.mem_of_getElem? (i := 1) rfl)) (allS (P := fun x => x ∈ [a1, ap, ae, an] ∨ h0.size ≤ x) (Or.inl (List.mem_of_getElem? (i := 2) rfl)) (allS (P := fun x => x ∈ [a1, ap, ae, an] ∨ h0.size ≤ x) (Or.inl (List.mem_of_getElem? (i := 3) rfl)) all0)))))
      exact ⟨szx_100, x43, rc_26, krc_26, x25, vh38, vpx_100, vex_100, vnx_100, rfl, N100, f111, sz_rc_26, E1_100, F_chars_100, F_pieces_100, F_ends_100, F_names_100, F_size_100, F_length_100, f110, VP_100, VE_100, VN_100, (by have q_ := hszx_100; omega), (by omega), hvpx_100, hvex_100, hvnx_100⟩
def Q_rmCl (Z : State) (a1 : Addr) (ac : Addr) (ap : Addr) (ae : Addr) (an : Addr) (kc : ClassId) (kp : ClassId) (ke : ClassId) (kn : ClassId) (sz : Int32) (ln : Int32) (zc : Int32) (vc : List Value) (vp : List Value) (ve : List Value) (vn : List Value) (h0 : Heap) (n0 : Nat) (v : Option Value) (h : Heap) (L : List Loc) : Prop := ∃ (acx : Addr), ∃ (kcx : ClassId), ∃ (zcx : Int32), ∃ (vcx : List Value), v = none ∧ Fr n0 L ∧ Keep h0 h [a1] ∧ (Exa Z h a1 "com/example/rideau/rideau/internal/HeldText") ∧ (Fld Z h a1 "com/example/rideau/rideau/internal/HeldText" "chars" "[C" (.ref acx)) ∧ (Fld Z h a1 "com/example/rideau/rideau/internal/HeldText" "pieces" "[Lcom/example/rideau/rideau/internal/HeldText$Piece;" (.ref ap)) ∧ (Fld Z h a1 "com/example/rideau/rideau/internal/HeldText" "ends" "[I" (.ref ae)) ∧ (Fld Z h a1 "com/example/rideau/rideau/internal/HeldText" "names" "[Ljava/lang/String;" (.ref an)) ∧ (Fld Z h a1 "com/example/rideau/rideau/internal/HeldText" "size" "I" (.int (0 : Int32))) ∧ (Fld Z h a1 "com/example/rideau/rideau/internal/HeldText" "length" "I" (.int (0 : Int32))) ∧ (Arv Z h acx kcx .char zcx vcx (.int (0 : Int32))) ∧ (n0 ≤ acx) ∧ (acx ≠ a1) ∧ (acx ≠ ap) ∧ (acx ≠ ae) ∧ (acx ≠ an) ∧ (256 ≤ zcx.toInt)
set_option maxRecDepth 65536 in
set_option maxHeartbeats 40000000 in
theorem rmCl (l : Launch) (Z : State) (a0 : Array Value) (hw : ∀ d ∈ tables_1, d.before a0 Z = true) (ws : List Jvm.Cond) (a1 : Addr) (ac : Addr) (ap : Addr) (ae : Addr) (an : Addr) (kc : ClassId) (kp : ClassId) (ke : ClassId) (kn : ClassId) (sz : Int32) (ln : Int32) (zc : Int32) (vc : List Value) (vp : List Value) (ve : List Value) (vn : List Value) (h0 : Heap) (n0 : Nat) (Z0 : n0 ≤ h0.size) (E1 : Exa Z h0 a1 "com/example/rideau/rideau/internal/HeldText") (F_chars : Fld Z h0 a1 "com/example/rideau/rideau/internal/HeldText" "chars" "[C" (.ref ac)) (F_pieces : Fld Z h0 a1 "com/example/rideau/rideau/internal/HeldText" "pieces" "[Lcom/example/rideau/rideau/internal/HeldText$Piece;" (.ref ap)) (F_ends : Fld Z h0 a1 "com/example/rideau/rideau/internal/HeldText" "ends" "[I" (.ref ae)) (F_names : Fld Z h0 a1 "com/example/rideau/rideau/internal/HeldText" "names" "[Ljava/lang/String;" (.ref an)) (F_size : Fld Z h0 a1 "com/example/rideau/rideau/internal/HeldText" "size" "I" (.int sz)) (F_length : Fld Z h0 a1 "com/example/rideau/rideau/internal/HeldText" "length" "I" (.int ln)) (VC : Arv Z h0 ac kc .char zc vc (.int (0 : Int32))) (VP : Arv Z h0 ap kp (.object "com/example/rideau/rideau/internal/HeldText$Piece") (16 : Int32) vp .null) (VE : Arv Z h0 ae ke .int (16 : Int32) ve (.int (0 : Int32))) (VN : Arv Z h0 an kn (.object "java/lang/String") (16 : Int32) vn .null) (g_a1 : n0 ≤ a1) (g_ac : n0 ≤ ac) (g_ap : n0 ≤ ap) (g_ae : n0 ≤ ae) (g_an : n0 ≤ an) (n_a1_ac : a1 ≠ ac) (n_a1_ap : a1 ≠ ap) (n_a1_ae : a1 ≠ ae) (n_a1_an : a1 ≠ an) (n_ac_ap : ac ≠ ap) (n_ac_ae : ac ≠ ae) (n_ac_an : ac ≠ an) (n_ap_ae : ap ≠ ae) (n_ap_an : ap ≠ an) (n_ae_an : ae ≠ an) (hzc : 256 ≤ zc.toInt) :
    MetFree l (⟨"com/example/rideau/rideau/internal/HeldText", "clear", "()V"⟩ : MethodName) (head1 (Jvm.Cond.code (⟨"com/example/rideau/rideau/internal/HeldText", "clear", "()V"⟩ : MethodName) prog_17_method_7_code 1 none :: ws) ({ frames := 0, cells := 1, slots := 8192, locals := 0 } : Room)) (fun a U => a = #[(.ref a1)] ∧ Z.Warmed39 U.vm ∧ U.heap = h0) (fun _ _ _ _ _ => True) (fun _ U o U' => ∃ v L, o = .returned v ∧ Q_rmCl Z a1 ac ap ae an kc kp ke kn sz ln zc vc vp ve vn h0 n0 v U'.heap L ∧ FrameEnd U o U' L ({ frames := 0, cells := 1, slots := 8192, locals := 0 } : Room).cells ({ frames := 0, cells := 1, slots := 8192, locals := 0 } : Room).slots) := by
  refine MetFree.of_bodySF (plainFor_of_name pn_0) hisR ?_
  intro p e s m args below meth c s₁ Bd hml0 hP hK
  obtain ⟨rfl, hZ, hh⟩ := hP
  have hx := Bd.exec
  have hby := Bd.bytes
  have hml : c.maxLocals = 1 := hml0
  have hown : s.vm.findClass "com/example/rideau/rideau/internal/HeldText" = some m.cls := findClass_of_methodNamed Bd.named
  have hnm := (name_of_methodNamed Bd.named Bd.method).1
  have X0 : Stand p l e ({ frames := 0, cells := 1, slots := 8192, locals := 0 } : Room) s m #[(.ref a1)] below meth c s₁ [] 0 0 := Stand.of_body Bd
  have e0 : s₁.heap = h0 := by rw [← hh, Bd.state]; rfl
  have N0 := Fr.nil n0
  have P0 : Rch p e below (s₁.setTop (entryFrame m #[(.ref a1)] 1)) (s₁.setTop (mkF m 0 #[rv a1] [])) := fun t k => castTop (by first | (simp [entryFrame, mkF, argsToLocals, Value.category]; done) | rfl) k
  have P1 : Rch p e below (s₁.setTop (entryFrame m #[(.ref a1)] 1)) (s₁.setTop (mkF m 2 #[rv a1] [(.int (0 : Int32)), (.ref a1)])) := fun t k => P0 t (by
    show Steps p.tables e below (s₁.setTop (mkF m 0 #[rv a1] [])) t
    refine XS.aloadN X0.here hx rfl (hb hby d4_0) rfl rfl ?_
    refine XS.iconst X0.here hx rfl (hb hby d4_1) ?_
    exact k)
  obtain ⟨T2, h2, X2, e2, W2, st2⟩ := putF X0 hx hZ hown (host := "") (Or.inl (hw _ (List.mem_of_getElem? (i := 54) rfl))) Via.refl e0 F_length E1 (Or.inl (hw _ (List.mem_of_getElem? (i := 55) rfl))) (hw _ (List.mem_of_getElem? (i := 22) rfl)) (ty := .int) (by decide) rfl rfl (g := (mkF m 2 #[rv a1] [(.int (0 : Int32)), (.ref a1)])) rfl rfl (hb hby d4_2)
  have Fw2 := F_length.same W2
  have P3 : Rch p e below (s₁.setTop (entryFrame m #[(.ref a1)] 1)) (T2.setTop (mkF m 5 #[rv a1] [])) := fun t k => P1 t (st2 t k)
  have N2 := Fr.snoc X2 N0 g_a1
  have P4 : Rch p e below (s₁.setTop (entryFrame m #[(.ref a1)] 1)) (T2.setTop (mkF m 7 #[rv a1] [(.int (0 : Int32)), (.ref a1)])) := fun t k => P3 t (by
    show Steps p.tables e below (T2.setTop (mkF m 5 #[rv a1] [])) t
    refine XS.aloadN X2.here hx rfl (hb hby d4_5) rfl rfl ?_
    refine XS.iconst X2.here hx rfl (hb hby d4_6) ?_
    exact k)
  have f6 : Fld Z h2 a1 "com/example/rideau/rideau/internal/HeldText" "size" "I" (.int sz) := (F_size.other W2 (Or.inr (slot_ne (Or.inl (hw _ (List.mem_of_getElem? (i := 48) rfl))) (Or.inl (hw _ (List.mem_of_getElem? (i := 55) rfl))) (by decide) (t := .int) (t' := .int) (by decide) (by decide))))
  obtain ⟨T5, h5, X5, e5, W5, st5⟩ := putF X2 hx hZ hown (host := "") (Or.inl (hw _ (List.mem_of_getElem? (i := 47) rfl))) Via.refl e2 f6 (E1.wr W2) (Or.inl (hw _ (List.mem_of_getElem? (i := 48) rfl))) (hw _ (List.mem_of_getElem? (i := 22) rfl)) (ty := .int) (by decide) rfl rfl (g := (mkF m 7 #[rv a1] [(.int (0 : Int32)), (.ref a1)])) rfl rfl (hb hby d4_7)
  have Fw5 := f6.same W5
  have P7 : Rch p e below (s₁.setTop (entryFrame m #[(.ref a1)] 1)) (T5.setTop (mkF m 10 #[rv a1] [])) := fun t k => P4 t (st5 t k)
  have N5 := Fr.snoc X5 N2 g_a1
  have P8 : Rch p e below (s₁.setTop (entryFrame m #[(.ref a1)] 1)) (T5.setTop (mkF m 11 #[rv a1] [(.ref a1)])) := fun t k => P7 t (by
    show Steps p.tables e below (T5.setTop (mkF m 10 #[rv a1] [])) t
    refine XS.aloadN X5.here hx rfl (hb hby d4_10) rfl rfl ?_
    exact k)
  have f9 : Fld Z h5 a1 "com/example/rideau/rideau/internal/HeldText" "chars" "[C" (.ref ac) := ((F_chars.other W2 (Or.inr (slot_ne (Or.inl (hw _ (List.mem_of_getElem? (i := 31) rfl))) (Or.inl (hw _ (List.mem_of_getElem? (i := 55) rfl))) (by decide) (t := (.array .char)) (t' := .int) (by decide) (by decide)))).other W5 (Or.inr (slot_ne (Or.inl (hw _ (List.mem_of_getElem? (i := 31) rfl))) (Or.inl (hw _ (List.mem_of_getElem? (i := 48) rfl))) (by decide) (t := (.array .char)) (t' := .int) (by decide) (by decide))))
  obtain ⟨T10, X10, e10, st10⟩ := getF X5 hx hZ hown (host := "") (Or.inl (hw _ (List.mem_of_getElem? (i := 30) rfl))) Via.refl e5 f9 (g := (mkF m 11 #[rv a1] [(.ref a1)])) rfl rfl (hb hby d4_11)
  have P11 : Rch p e below (s₁.setTop (entryFrame m #[(.ref a1)] 1)) (T10.setTop (mkF m 14 #[rv a1] [(.ref ac)])) := fun t k => P8 t (st10 t k)
  have V_o12 := ((VC.other W2 (Ne.symm n_a1_ac)).other W5 (Ne.symm n_a1_ac))
  obtain ⟨co12, Aro12, qo12, So12, Mo12, Ho12, Go12⟩ := V_o12
  have P13 : Rch p e below (s₁.setTop (entryFrame m #[(.ref a1)] 1)) (T10.setTop (mkF m 15 #[rv a1] [(.int zc)])) := fun t k => P11 t (by
    refine X10.arraylength hx (by rw [e10]; exact Aro12.1) (State.isArrayOf_alike hZ.alike Aro12.2.1) (g := (mkF m 14 #[rv a1] [(.ref ac)])) rfl rfl (hb hby d4_14) _ ?_
    rw [len_of So12 Mo12]; exact k)
  have P14 : Rch p e below (s₁.setTop (entryFrame m #[(.ref a1)] 1)) (T10.setTop (mkF m 18 #[rv a1] [(.int (8192 : Int32)), (.int zc)])) := fun t k => P13 t (by
    show Steps p.tables e below (T10.setTop (mkF m 15 #[rv a1] [(.int zc)])) t
    refine XS.sipush X10.here hx rfl (hb hby d4_15) ?_
    exact k)
  by_cases c15 : (8192 : Int32) < zc
  · have P16 : Rch p e below (s₁.setTop (entryFrame m #[(.ref a1)] 1)) (T10.setTop (mkF m 25 #[rv a1] [(.int (8192 : Int32)), (.ref a1)])) := fun t k => P14 t (by
      show Steps p.tables e below (T10.setTop (mkF m 18 #[rv a1] [(.int (8192 : Int32)), (.int zc)])) t
      refine XS.icmpNo X10.here hx rfl (hb hby d4_18) rfl (tlt c15).2.2.2 ?_
      refine XS.aloadN X10.here hx rfl (hb hby d4_21) rfl rfl ?_
      refine XS.sipush X10.here hx rfl (hb hby d4_22) ?_
      exact k)
    have f18 : n0 ≤ h5.size := (Nat.le_trans (Nat.le_trans Z0 (Keep.of_wr W2).1) (Keep.of_wr W5).1)
    have f19 : Keep h0 h5 [a1] := (((Keep.refl h0 [a1]).wr W2 (Or.inl (List.mem_of_getElem? (i := 0) rfl))).wr W5 (Or.inl (List.mem_of_getElem? (i := 0) rfl)))
    obtain ⟨T17, h17, k17, X17, e17, E17, A17, st17⟩ := newP X10 hx hZ (hw _ (List.mem_of_getElem? (i := 19) rfl)) e10 (g := (mkF m 25 #[rv a1] [(.int (8192 : Int32)), (.ref a1)])) rfl (hb hby d4_25) rfl (by decide) (cap := 8192) (by decide) (by decide) (by decide) (by decide)
    obtain ⟨b17, g17⟩ : ∃ z, z = h5.size := ⟨_, rfl⟩
    rw [← g17] at A17 st17
    have g_b17 : n0 ≤ b17 := Nat.le_trans f18 (Nat.le_of_eq g17.symm)
    have sz_b17 : h0.size ≤ b17 := Nat.le_trans f19.1 (Nat.le_of_eq g17.symm)
    have ne_a1_b17 : a1 ≠ b17 := Nat.ne_of_lt (Nat.lt_of_lt_of_le ((E1.wr W2).wr W5).lt (Nat.le_of_eq g17.symm))
    have ne_ac_b17 : ac ≠ b17 := Nat.ne_of_lt (Nat.lt_of_lt_of_le ((VC.other W2 (Ne.symm n_a1_ac)).other W5 (Ne.symm n_a1_ac)).lt (Nat.le_of_eq g17.symm))
    have ne_ap_b17 : ap ≠ b17 := Nat.ne_of_lt (Nat.lt_of_lt_of_le ((VP.other W2 (Ne.symm n_a1_ap)).other W5 (Ne.symm n_a1_ap)).lt (Nat.le_of_eq g17.symm))
    have ne_ae_b17 : ae ≠ b17 := Nat.ne_of_lt (Nat.lt_of_lt_of_le ((VE.other W2 (Ne.symm n_a1_ae)).other W5 (Ne.symm n_a1_ae)).lt (Nat.le_of_eq g17.symm))
    have ne_an_b17 : an ≠ b17 := Nat.ne_of_lt (Nat.lt_of_lt_of_le ((VN.other W2 (Ne.symm n_a1_an)).other W5 (Ne.symm n_a1_an)).lt (Nat.le_of_eq g17.symm))
    have V17 : Arv Z h17 b17 k17 .char (8192 : Int32) [] (.int (0 : Int32)) := Arv.new A17 (by decide)
    have P20 : Rch p e below (s₁.setTop (entryFrame m #[(.ref a1)] 1)) (T17.setTop (mkF m 27 #[rv a1] [(.ref b17), (.ref a1)])) := fun t k => P16 t (st17 t k)
    obtain ⟨T21, h21, X21, e21, W21, st21⟩ := putF X17 hx hZ hown (host := "") (Or.inl (hw _ (List.mem_of_getElem? (i := 30) rfl))) Via.refl e17 (f9.ext E17) (((E1.wr W2).wr W5).ext E17) (Or.inl (hw _ (List.mem_of_getElem? (i := 31) rfl))) (hw _ (List.mem_of_getElem? (i := 22) rfl)) (ty := (.array .char)) (by decide) rfl rfl (g := (mkF m 27 #[rv a1] [(.ref b17), (.ref a1)])) rfl rfl (hb hby d4_27)
    have Fw21 := (f9.ext E17).same W21
    have P22 : Rch p e below (s₁.setTop (entryFrame m #[(.ref a1)] 1)) (T21.setTop (mkF m 30 #[rv a1] [])) := fun t k => P20 t (st21 t k)
    have N21 := Fr.snoc X21 N5 g_a1
    have P23 : Rch p e below (s₁.setTop (entryFrame m #[(.ref a1)] 1)) (T21.setTop (mkF m 31 #[rv a1] [(.ref a1)])) := fun t k => P22 t (by
      show Steps p.tables e below (T21.setTop (mkF m 30 #[rv a1] [])) t
      refine XS.aloadN X21.here hx rfl (hb hby d4_30) rfl rfl ?_
      exact k)
    have f24 : Fld Z h21 a1 "com/example/rideau/rideau/internal/HeldText" "pieces" "[Lcom/example/rideau/rideau/internal/HeldText$Piece;" (.ref ap) := ((((F_pieces.other W2 (Or.inr (slot_ne (Or.inl (hw _ (List.mem_of_getElem? (i := 34) rfl))) (Or.inl (hw _ (List.mem_of_getElem? (i := 55) rfl))) (by decide) (t := (.array (.object "com/example/rideau/rideau/internal/HeldText$Piece"))) (t' := .int) (by decide) (by decide)))).other W5 (Or.inr (slot_ne (Or.inl (hw _ (List.mem_of_getElem? (i := 34) rfl))) (Or.inl (hw _ (List.mem_of_getElem? (i := 48) rfl))) (by decide) (t := (.array (.object "com/example/rideau/rideau/internal/HeldText$Piece"))) (t' := .int) (by decide) (by decide)))).ext E17).other W21 (Or.inr (slot_ne (Or.inl (hw _ (List.mem_of_getElem? (i := 34) rfl))) (Or.inl (hw _ (List.mem_of_getElem? (i := 31) rfl))) (by decide) (t := (.array (.object "com/example/rideau/rideau/internal/HeldText$Piece"))) (t' := (.array .char)) (by decide) (by decide))))
    obtain ⟨T25, X25, e25, st25⟩ := getF X21 hx hZ hown (host := "") (Or.inl (hw _ (List.mem_of_getElem? (i := 33) rfl))) Via.refl e21 f24 (g := (mkF m 31 #[rv a1] [(.ref a1)])) rfl rfl (hb hby d4_31)
    have P26 : Rch p e below (s₁.setTop (entryFrame m #[(.ref a1)] 1)) (T25.setTop (mkF m 34 #[rv a1] [(.ref ap)])) := fun t k => P23 t (st25 t k)
    have f27 : Arv Z h21 ap kp (.object "com/example/rideau/rideau/internal/HeldText$Piece") (16 : Int32) vp .null := ((((VP.other W2 (Ne.symm n_a1_ap)).other W5 (Ne.symm n_a1_ap)).ext E17).other W21 (Ne.symm n_a1_ap))
    have V_o28 := f27
    obtain ⟨co28, Aro28, qo28, So28, Mo28, Ho28, Go28⟩ := V_o28
    have P29 : Rch p e below (s₁.setTop (entryFrame m #[(.ref a1)] 1)) (T25.setTop (mkF m 35 #[rv a1] [(.int (16 : Int32))])) := fun t k => P26 t (by
      refine X25.arraylength hx (by rw [e25]; exact Aro28.1) (State.isArrayOf_alike hZ.alike Aro28.2.1) (g := (mkF m 34 #[rv a1] [(.ref ap)])) rfl rfl (hb hby d4_34) _ ?_
      rw [len_of So28 Mo28]; exact k)
    have P30 : Rch p e below (s₁.setTop (entryFrame m #[(.ref a1)] 1)) (T25.setTop (mkF m 70 #[rv a1] [])) := fun t k => P29 t (by
      show Steps p.tables e below (T25.setTop (mkF m 35 #[rv a1] [(.int (16 : Int32))])) t
      refine XS.sipush X25.here hx rfl (hb hby d4_35) ?_
      refine XS.icmpYes X25.here hx rfl (pc0 := 38) (pc' := 70) rfl (hb hby d4_38) rfl (flt (by decide)).2.2.2 (by decide) (by decide) ?_
      exact k)
    obtain ⟨fs, hr, hrun, hended, hW, hsame⟩ := X25.leave (v := none) (fun _ => rfl)
    refine ⟨_, _, P30 _ ?_, hrun, hended, _, _, rfl, ?_, ⟨_, rfl⟩, hW, hsame.mono (by decide) (by decide)⟩
    · exact X25.returnOut hx Bd.returns (hb hby d4_70) hr
    · show Q_rmCl Z a1 ac ap ae an kc kp ke kn sz ln zc vc vp ve vn h0 n0 _ T25.heap _
      rw [e25]
      have f31 : Keep h0 h21 [a1] := ((f19.ext E17).wr W21 (Or.inl (List.mem_of_getElem? (i := 0) rfl)))
      have f32 : Fld Z h21 a1 "com/example/rideau/rideau/internal/HeldText" "ends" "[I" (.ref ae) := ((((F_ends.other W2 (Or.inr (slot_ne (Or.inl (hw _ (List.mem_of_getElem? (i := 37) rfl))) (Or.inl (hw _ (List.mem_of_getElem? (i := 55) rfl))) (by decide) (t := (.array .int)) (t' := .int) (by decide) (by decide)))).other W5 (Or.inr (slot_ne (Or.inl (hw _ (List.mem_of_getElem? (i := 37) rfl))) (Or.inl (hw _ (List.mem_of_getElem? (i := 48) rfl))) (by decide) (t := (.array .int)) (t' := .int) (by decide) (by decide)))).ext E17).other W21 (Or.inr (slot_ne (Or.inl (hw _ (List.mem_of_getElem? (i := 37) rfl))) (Or.inl (hw _ (List.mem_of_getElem? (i := 31) rfl))) (by decide) (t := (.array .int)) (t' := (.array .char)) (by decide) (by decide))))
      have f33 : Fld Z h21 a1 "com/example/rideau/rideau/internal/HeldText" "names" "[Ljava/lang/String;" (.ref an) := ((((F_names.other W2 (Or.inr (slot_ne (Or.inl (hw _ (List.mem_of_getElem? (i := 41) rfl))) (Or.inl (hw _ (List.mem_of_getElem? (i := 55) rfl))) (by decide) (t := (.array (.object "java/lang/String"))) (t' := .int) (by decide) (by decide)))).other W5 (Or.inr (slot_ne (Or.inl (hw _ (List.mem_of_getElem? (i := 41) rfl))) (Or.inl (hw _ (List.mem_of_getElem? (i := 48) rfl))) (by decide) (t := (.array (.object "java/lang/String"))) (t' := .int) (by decide) (by decide)))).ext E17).other W21 (Or.inr (slot_ne (Or.inl (hw _ (List.mem_of_getElem? (i := 41) rfl))) (Or.inl (hw _ (List.mem_of_getElem? (i := 31) rfl))) (by decide) (t := (.array (.object "java/lang/String"))) (t' := (.array .char)) (by decide) (by decide))))
      have f34 : Fld Z h21 a1 "com/example/rideau/rideau/internal/HeldText" "size" "I" (.int (0 : Int32)) := ((Fw5.ext E17).other W21 (Or.inr (slot_ne (Or.inl (hw _ (List.mem_of_getElem? (i := 48) rfl))) (Or.inl (hw _ (List.mem_of_getElem? (i := 31) rfl))) (by decide) (t := .int) (t' := (.array .char)) (by decide) (by decide))))
      have f35 : Fld Z h21 a1 "com/example/rideau/rideau/internal/HeldText" "length" "I" (.int (0 : Int32)) := (((Fw2.other W5 (Or.inr (slot_ne (Or.inl (hw _ (List.mem_of_getElem? (i := 55) rfl))) (Or.inl (hw _ (List.mem_of_getElem? (i := 48) rfl))) (by decide) (t := .int) (t' := .int) (by decide) (by decide)))).ext E17).other W21 (Or.inr (slot_ne (Or.inl (hw _ (List.mem_of_getElem? (i := 55) rfl))) (Or.inl (hw _ (List.mem_of_getElem? (i := 31) rfl))) (by decide) (t := .int) (t' := (.array .char)) (by decide) (by decide))))
      exact ⟨b17, k17, (8192 : Int32), [], rfl, N21, f31, ((((E1.wr W2).wr W5).ext E17).wr W21), Fw21, f24, f32, f33, f34, f35, (V17.other W21 (Ne.symm ne_a1_b17)), g_b17, (Ne.symm ne_a1_b17), (Ne.symm ne_ap_b17), (Ne.symm ne_ae_b17), (Ne.symm ne_an_b17), (by decide)⟩
  · have P36 : Rch p e below (s₁.setTop (entryFrame m #[(.ref a1)] 1)) (T10.setTop (mkF m 31 #[rv a1] [(.ref a1)])) := fun t k => P14 t (by
      show Steps p.tables e below (T10.setTop (mkF m 18 #[rv a1] [(.int (8192 : Int32)), (.int zc)])) t
      refine XS.icmpYes X10.here hx rfl (pc0 := 18) (pc' := 30) rfl (hb hby d4_18) rfl (flt c15).2.2.2 (by decide) (by decide) ?_
      refine XS.aloadN X10.here hx rfl (hb hby d4_30) rfl rfl ?_
      exact k)
    have f37 : Fld Z h5 a1 "com/example/rideau/rideau/internal/HeldText" "pieces" "[Lcom/example/rideau/rideau/internal/HeldText$Piece;" (.ref ap) := ((F_pieces.other W2 (Or.inr (slot_ne (Or.inl (hw _ (List.mem_of_getElem? (i := 34) rfl))) (Or.inl (hw _ (List.mem_of_getElem? (i := 55) rfl))) (by decide) (t := (.array (.object "com/example/rideau/rideau/internal/HeldText$Piece"))) (t' := .int) (by decide) (by decide)))).other W5 (Or.inr (slot_ne (Or.inl (hw _ (List.mem_of_getElem? (i := 34) rfl))) (Or.inl (hw _ (List.mem_of_getElem? (i := 48) rfl))) (by decide) (t := (.array (.object "com/example/rideau/rideau/internal/HeldText$Piece"))) (t' := .int) (by decide) (by decide))))
    obtain ⟨T38, X38, e38, st38⟩ := getF X10 hx hZ hown (host := "") (Or.inl (hw _ (List.mem_of_getElem? (i := 33) rfl))) Via.refl e10 f37 (g := (mkF m 31 #[rv a1] [(.ref a1)])) rfl rfl (hb hby d4_31)
    have P39 : Rch p e below (s₁.setTop (entryFrame m #[(.ref a1)] 1)) (T38.setTop (mkF m 34 #[rv a1] [(.ref ap)])) := fun t k => P36 t (st38 t k)
    have V_o40 := ((VP.other W2 (Ne.symm n_a1_ap)).other W5 (Ne.symm n_a1_ap))
    obtain ⟨co40, Aro40, qo40, So40, Mo40, Ho40, Go40⟩ := V_o40
    have P41 : Rch p e below (s₁.setTop (entryFrame m #[(.ref a1)] 1)) (T38.setTop (mkF m 35 #[rv a1] [(.int (16 : Int32))])) := fun t k => P39 t (by
      refine X38.arraylength hx (by rw [e38]; exact Aro40.1) (State.isArrayOf_alike hZ.alike Aro40.2.1) (g := (mkF m 34 #[rv a1] [(.ref ap)])) rfl rfl (hb hby d4_34) _ ?_
      rw [len_of So40 Mo40]; exact k)
    have P42 : Rch p e below (s₁.setTop (entryFrame m #[(.ref a1)] 1)) (T38.setTop (mkF m 70 #[rv a1] [])) := fun t k => P41 t (by
      show Steps p.tables e below (T38.setTop (mkF m 35 #[rv a1] [(.int (16 : Int32))])) t
      refine XS.sipush X38.here hx rfl (hb hby d4_35) ?_
      refine XS.icmpYes X38.here hx rfl (pc0 := 38) (pc' := 70) rfl (hb hby d4_38) rfl (flt (by decide)).2.2.2 (by decide) (by decide) ?_
      exact k)
    obtain ⟨fs, hr, hrun, hended, hW, hsame⟩ := X38.leave (v := none) (fun _ => rfl)
    refine ⟨_, _, P42 _ ?_, hrun, hended, _, _, rfl, ?_, ⟨_, rfl⟩, hW, hsame.mono (by decide) (by decide)⟩
    · exact X38.returnOut hx Bd.returns (hb hby d4_70) hr
    · show Q_rmCl Z a1 ac ap ae an kc kp ke kn sz ln zc vc vp ve vn h0 n0 _ T38.heap _
      rw [e38]
      have f43 : Keep h0 h5 [a1] := (((Keep.refl h0 [a1]).wr W2 (Or.inl (List.mem_of_getElem? (i := 0) rfl))).wr W5 (Or.inl (List.mem_of_getElem? (i := 0) rfl)))
      have f44 : Fld Z h5 a1 "com/example/rideau/rideau/internal/HeldText" "ends" "[I" (.ref ae) := ((F_ends.other W2 (Or.inr (slot_ne (Or.inl (hw _ (List.mem_of_getElem? (i := 37) rfl))) (Or.inl (hw _ (List.mem_of_getElem? (i := 55) rfl))) (by decide) (t := (.array .int)) (t' := .int) (by decide) (by decide)))).other W5 (Or.inr (slot_ne (Or.inl (hw _ (List.mem_of_getElem? (i := 37) rfl))) (Or.inl (hw _ (List.mem_of_getElem? (i := 48) rfl))) (by decide) (t := (.array .int)) (t' := .int) (by decide) (by decide))))
      have f45 : Fld Z h5 a1 "com/example/rideau/rideau/internal/HeldText" "names" "[Ljava/lang/String;" (.ref an) := ((F_names.other W2 (Or.inr (slot_ne (Or.inl (hw _ (List.mem_of_getElem? (i := 41) rfl))) (Or.inl (hw _ (List.mem_of_getElem? (i := 55) rfl))) (by decide) (t := (.array (.object "java/lang/String"))) (t' := .int) (by decide) (by decide)))).other W5 (Or.inr (slot_ne (Or.inl (hw _ (List.mem_of_getElem? (i := 41) rfl))) (Or.inl (hw _ (List.mem_of_getElem? (i := 48) rfl))) (by decide) (t := (.array (.object "java/lang/String"))) (t' := .int) (by decide) (by decide))))
      have f46 : Fld Z h5 a1 "com/example/rideau/rideau/internal/HeldText" "length" "I" (.int (0 : Int32)) := (Fw2.other W5 (Or.inr (slot_ne (Or.inl (hw _ (List.mem_of_getElem? (i := 55) rfl))) (Or.inl (hw _ (List.mem_of_getElem? (i := 48) rfl))) (by decide) (t := .int) (t' := .int) (by decide) (by decide))))
      exact ⟨ac, kc, zc, vc, rfl, N5, f43, ((E1.wr W2).wr W5), f9, f37, f44, f45, Fw5, f46, ((VC.other W2 (Ne.symm n_a1_ac)).other W5 (Ne.symm n_a1_ac)), g_ac, (Ne.symm n_a1_ac), n_ac_ap, n_ac_ae, n_ac_an, hzc⟩
def Q_rmTb (Z : State) (p1 : Int32) (h0 : Heap) (n0 : Nat) (v : Option Value) (h : Heap) (L : List Loc) : Prop := ∃ (rb_ : Addr), v = some (.ref rb_) ∧ Fr n0 L ∧ Keep h0 h [] ∧ (h0.size ≤ rb_)
set_option maxRecDepth 65536 in
set_option maxHeartbeats 40000000 in
theorem rmTb (l : Launch) (Z : State) (a0 : Array Value) (hw : ∀ d ∈ tables_1, d.before a0 Z = true) (ws : List Jvm.Cond) (p1 : Int32) (h0 : Heap) (n0 : Nat) (Z0 : n0 ≤ h0.size) :
    MetFree l (⟨"java/lang/StringLatin1", "toBytes", "(C)[B"⟩ : MethodName) (head1 (Jvm.Cond.code (⟨"java/lang/StringLatin1", "toBytes", "(C)[B"⟩ : MethodName) jdk_43_method_46_code 1 (some (.array .byte)) :: ws) ({ frames := 0, cells := 1, slots := 1, locals := 0 } : Room)) (fun a U => a = #[(.int p1)] ∧ Z.Warmed39 U.vm ∧ U.heap = h0) (fun _ _ _ _ _ => True) (fun _ U o U' => ∃ v L, o = .returned v ∧ Q_rmTb Z p1 h0 n0 v U'.heap L ∧ FrameEnd U o U' L ({ frames := 0, cells := 1, slots := 1, locals := 0 } : Room).cells ({ frames := 0, cells := 1, slots := 1, locals := 0 } : Room).slots) := by
  refine MetFree.of_bodySF (plainFor_of_name pn_1) hisR ?_
  intro p e s m args below meth c s₁ Bd hml0 hP hK
  obtain ⟨rfl, hZ, hh⟩ := hP
  have hx := Bd.exec
  have hby := Bd.bytes
  have hml : c.maxLocals = 1 := hml0
  have hown : s.vm.findClass "java/lang/StringLatin1" = some m.cls := findClass_of_methodNamed Bd.named
  have hnm := (name_of_methodNamed Bd.named Bd.method).1
  have X0 : Stand p l e ({ frames := 0, cells := 1, slots := 1, locals := 0 } : Room) s m #[(.int p1)] below meth c s₁ [] 0 0 := Stand.of_body Bd
  have e0 : s₁.heap = h0 := by rw [← hh, Bd.state]; rfl
  have N0 := Fr.nil n0
  have P0 : Rch p e below (s₁.setTop (entryFrame m #[(.int p1)] 1)) (s₁.setTop (mkF m 0 #[iv p1] [])) := fun t k => castTop (by first | (simp [entryFrame, mkF, argsToLocals, Value.category]; done) | rfl) k
  have P1 : Rch p e below (s₁.setTop (entryFrame m #[(.int p1)] 1)) (s₁.setTop (mkF m 1 #[iv p1] [(.int (1 : Int32))])) := fun t k => P0 t (by
    show Steps p.tables e below (s₁.setTop (mkF m 0 #[iv p1] [])) t
    refine XS.iconst X0.here hx rfl (hb hby d12_0) ?_
    exact k)
  obtain ⟨T2, h2, k2, X2, e2, E2, A2, st2⟩ := newP X0 hx hZ (hw _ (List.mem_of_getElem? (i := 97) rfl)) e0 (g := (mkF m 1 #[iv p1] [(.int (1 : Int32))])) rfl (hb hby d12_1) rfl (by decide) (cap := 1) (by decide) (by decide) (by decide) (by decide)
  obtain ⟨b2, g2⟩ : ∃ z, z = h0.size := ⟨_, rfl⟩
  rw [← g2] at A2 st2
  have g_b2 : n0 ≤ b2 := Nat.le_trans Z0 (Nat.le_of_eq g2.symm)
  have sz_b2 : h0.size ≤ b2 := Nat.le_trans (Keep.refl h0 []).1 (Nat.le_of_eq g2.symm)
  have V2 : Arv Z h2 b2 k2 .byte (1 : Int32) [(.int (0 : Int32))] (.int (0 : Int32)) := (Arv.new A2 (by decide)).pad (pad_rep [] (.int (0 : Int32)) 1)
  have P3 : Rch p e below (s₁.setTop (entryFrame m #[(.int p1)] 1)) (T2.setTop (mkF m 3 #[iv p1] [(.ref b2)])) := fun t k => P1 t (st2 t k)
  obtain ⟨x4, hx4⟩ : ∃ z : Int32, z = (p1.toInt8.toInt32) := ⟨_, rfl⟩
  have P5 : Rch p e below (s₁.setTop (entryFrame m #[(.int p1)] 1)) (T2.setTop (mkF m 7 #[iv p1] [(.int x4), (.int (0 : Int32)), (.ref b2), (.ref b2)])) := fun t k => P3 t (by
    subst hx4
    show Steps p.tables e below (T2.setTop (mkF m 3 #[iv p1] [(.ref b2)])) t
    refine XS.dup X2.here hx rfl (hb hby d12_3) rfl rfl ?_
    refine XS.iconst X2.here hx rfl (hb hby d12_4) ?_
    refine XS.iloadN X2.here hx rfl (hb hby d12_5) rfl ?_
    show Steps p.tables e below (T2.setTop (mkF m 6 #[iv p1] [(.int p1), (.int (0 : Int32)), (.ref b2), (.ref b2)])) t
    refine XS.i2b X2.here hx rfl (hb hby d12_6) rfl ?_
    exact k)
  have V_o6 := V2
  obtain ⟨co6, Aro6, qo6, So6, Mo6, Ho6, Go6⟩ := V_o6
  have hin7 : ¬ ((0 : Int32) < 0 ∨ co6.slots.size ≤ ((0 : Int32)).toNatClampNeg) := inb_of So6 ⟨by decide, by decide⟩
  obtain ⟨T7, h7, X7, e7, W7, st7⟩ := stB X2 hx hZ e2 Aro6 (j := (0 : Int32)) hin7 (g := (mkF m 7 #[iv p1] [(.int x4), (.int (0 : Int32)), (.ref b2), (.ref b2)])) rfl rfl (hb hby d12_7)
  have V7 : Arv Z h7 b2 k2 .byte (1 : Int32) [(.int (nar .byte x4))] (.int (0 : Int32)) := Arv.set Aro6 qo6 So6 Mo6 Ho6 Go6 (fits_nar_byte _) W7 0 rfl (Nat.le_of_ble_eq_true rfl)
  have P8 : Rch p e below (s₁.setTop (entryFrame m #[(.int p1)] 1)) (T7.setTop (mkF m 8 #[iv p1] [(.ref b2)])) := fun t k => P5 t (st7 t k)
  have N7 := Fr.snoc X7 N0 g_b2
  obtain ⟨fs, hr, hrun, hended, hW, hsame⟩ := X7.leave (v := some (.ref b2)) (fun h => by rw [Bd.returns] at h; cases h)
  refine ⟨_, _, P8 _ ?_, hrun, hended, _, _, rfl, ?_, ⟨_, rfl⟩, hW, hsame.mono (by decide) (by decide)⟩
  · exact retOut X7 hx Bd.returns rfl (Or.inr (Or.inr (Or.inr (Or.inr ⟨rfl, rfl, rfl⟩)))) (hb hby d12_8) hr
  · show Q_rmTb Z p1 h0 n0 _ T7.heap _
    rw [e7]
    have f9 : Keep h0 h7 [] := (((Keep.refl h0 []).ext E2).wr W7 (Or.inr sz_b2))
    exact ⟨b2, rfl, N7, f9, sz_b2⟩
def Q_rmSi (Z : State) (a1 : Addr) (a2 : Addr) (h0 : Heap) (n0 : Nat) (v : Option Value) (h : Heap) (L : List Loc) : Prop := v = none ∧ Fr n0 L ∧ Keep h0 h [a1] ∧ (Exa Z h a1 "java/lang/String")
set_option maxRecDepth 65536 in
set_option maxHeartbeats 40000000 in
theorem rmSi (l : Launch) (Z : State) (a0 : Array Value) (hw : ∀ d ∈ tables_1, d.before a0 Z = true) (ws : List Jvm.Cond) (a1 : Addr) (a2 : Addr) (h0 : Heap) (n0 : Nat) (Z0 : n0 ≤ h0.size) (E1 : Exa Z h0 a1 "java/lang/String") (g1 : n0 ≤ a1) (G1 : Fld Z h0 a1 "java/lang/String" "value" "[B" .null) (G2 : Fld Z h0 a1 "java/lang/String" "coder" "B" (.int (0 : Int32))) :
    MetFree l (⟨"java/lang/String", "<init>", "([BB)V"⟩ : MethodName) (head1 (Jvm.Cond.code (⟨"java/lang/String", "<init>", "([BB)V"⟩ : MethodName) jdk_42_method_151_code 3 none :: ws) ({ frames := 1, cells := 0, slots := 0, locals := 12 } : Room)) (fun a U => a = #[(.ref a1), (.ref a2), (.int (0 : Int32))] ∧ Z.Warmed39 U.vm ∧ U.heap = h0) (fun _ _ _ _ _ => True) (fun _ U o U' => ∃ v L, o = .returned v ∧ Q_rmSi Z a1 a2 h0 n0 v U'.heap L ∧ FrameEnd U o U' L ({ frames := 1, cells := 0, slots := 0, locals := 12 } : Room).cells ({ frames := 1, cells := 0, slots := 0, locals := 12 } : Room).slots) := by
  refine MetFree.of_bodySF (plainFor_of_name pn_3) hisR ?_
  intro p e s m args below meth c s₁ Bd hml0 hP hK
  obtain ⟨rfl, hZ, hh⟩ := hP
  have hx := Bd.exec
  have hby := Bd.bytes
  have hml : c.maxLocals = 3 := hml0
  have hown : s.vm.findClass "java/lang/String" = some m.cls := findClass_of_methodNamed Bd.named
  have hnm := (name_of_methodNamed Bd.named Bd.method).1
  have X0 : Stand p l e ({ frames := 1, cells := 0, slots := 0, locals := 12 } : Room) s m #[(.ref a1), (.ref a2), (.int (0 : Int32))] below meth c s₁ [] 0 0 := Stand.of_body Bd
  have e0 : s₁.heap = h0 := by rw [← hh, Bd.state]; rfl
  have N0 := Fr.nil n0
  have P0 : Rch p e below (s₁.setTop (entryFrame m #[(.ref a1), (.ref a2), (.int (0 : Int32))] 3)) (s₁.setTop (mkF m 0 #[rv a1, rv a2, iv (0 : Int32)] [])) := fun t k => castTop (by first | (simp [entryFrame, mkF, argsToLocals, Value.category]; done) | rfl) k
  have P1 : Rch p e below (s₁.setTop (entryFrame m #[(.ref a1), (.ref a2), (.int (0 : Int32))] 3)) (s₁.setTop (mkF m 1 #[rv a1, rv a2, iv (0 : Int32)] [(.ref a1)])) := fun t k => P0 t (by
    show Steps p.tables e below (s₁.setTop (mkF m 0 #[rv a1, rv a2, iv (0 : Int32)] [])) t
    refine XS.aloadN X0.here hx rfl (hb hby d13_0) rfl rfl ?_
    exact k)
  obtain ⟨T2, X2, e2, st2⟩ := initO X0 hx hZ hown (hw _ (List.mem_of_getElem? (i := 102) rfl)) (hw _ (List.mem_of_getElem? (i := 28) rfl)) (hw _ (List.mem_of_getElem? (i := 29) rfl)) e0 (g := (mkF m 1 #[rv a1, rv a2, iv (0 : Int32)] [(.ref a1)])) rfl (by rw [hml]; rfl) rfl (hb hby d13_1) (by decide) (W := 0) (by show 2 * 0 + _ ≤ _; exact Nat.le_of_eq rfl) (by decide)
  have P3 : Rch p e below (s₁.setTop (entryFrame m #[(.ref a1), (.ref a2), (.int (0 : Int32))] 3)) (T2.setTop (mkF m 4 #[rv a1, rv a2, iv (0 : Int32)] [])) := fun t k => P1 t (st2 t k)
  have P4 : Rch p e below (s₁.setTop (entryFrame m #[(.ref a1), (.ref a2), (.int (0 : Int32))] 3)) (T2.setTop (mkF m 6 #[rv a1, rv a2, iv (0 : Int32)] [(.ref a2), (.ref a1)])) := fun t k => P3 t (by
    show Steps p.tables e below (T2.setTop (mkF m 4 #[rv a1, rv a2, iv (0 : Int32)] [])) t
    refine XS.aloadN X2.here hx rfl (hb hby d13_4) rfl rfl ?_
    refine XS.aloadN X2.here hx rfl (hb hby d13_5) rfl rfl ?_
    exact k)
  obtain ⟨T5, h5, X5, e5, W5, st5⟩ := putF X2 hx hZ hown (host := "") (Or.inl (hw _ (List.mem_of_getElem? (i := 103) rfl))) Via.refl e2 G1 E1 (Or.inr ⟨(hw _ (List.mem_of_getElem? (i := 104) rfl)), rfl, hnm⟩) (hw _ (List.mem_of_getElem? (i := 93) rfl)) (ty := (.array .byte)) (by decide) rfl rfl (g := (mkF m 6 #[rv a1, rv a2, iv (0 : Int32)] [(.ref a2), (.ref a1)])) rfl rfl (hb hby d13_6)
  have Fw5 := G1.same W5
  have P6 : Rch p e below (s₁.setTop (entryFrame m #[(.ref a1), (.ref a2), (.int (0 : Int32))] 3)) (T5.setTop (mkF m 9 #[rv a1, rv a2, iv (0 : Int32)] [])) := fun t k => P4 t (st5 t k)
  have N5 := Fr.snoc X5 N0 g1
  have P7 : Rch p e below (s₁.setTop (entryFrame m #[(.ref a1), (.ref a2), (.int (0 : Int32))] 3)) (T5.setTop (mkF m 11 #[rv a1, rv a2, iv (0 : Int32)] [(.int (0 : Int32)), (.ref a1)])) := fun t k => P6 t (by
    show Steps p.tables e below (T5.setTop (mkF m 9 #[rv a1, rv a2, iv (0 : Int32)] [])) t
    refine XS.aloadN X5.here hx rfl (hb hby d13_9) rfl rfl ?_
    refine XS.iloadN X5.here hx rfl (hb hby d13_10) rfl ?_
    exact k)
  have f9 : Fld Z h5 a1 "java/lang/String" "coder" "B" (.int (0 : Int32)) := (G2.other W5 (Or.inr (slot_ne (Or.inr (hw _ (List.mem_of_getElem? (i := 106) rfl))) (Or.inr (hw _ (List.mem_of_getElem? (i := 104) rfl))) (by decide) (t := .byte) (t' := (.array .byte)) (by decide) (by decide))))
  obtain ⟨T8, h8, X8, e8, W8, st8⟩ := putFN X5 hx hZ hown (hw _ (List.mem_of_getElem? (i := 105) rfl)) Via.refl e5 f9 (E1.wr W5) (Or.inr ⟨(hw _ (List.mem_of_getElem? (i := 106) rfl)), rfl, hnm⟩) (hw _ (List.mem_of_getElem? (i := 93) rfl)) (ty := .byte) (v' := (.int (nar .byte (0 : Int32)))) (by decide) rfl (fits_nar_byte _) (g := (mkF m 11 #[rv a1, rv a2, iv (0 : Int32)] [(.int (0 : Int32)), (.ref a1)])) rfl rfl (hb hby d13_11)
  have Fw8 := f9.same W8
  have P10 : Rch p e below (s₁.setTop (entryFrame m #[(.ref a1), (.ref a2), (.int (0 : Int32))] 3)) (T8.setTop (mkF m 14 #[rv a1, rv a2, iv (0 : Int32)] [])) := fun t k => P7 t (st8 t k)
  have N8 := Fr.snoc X8 N5 g1
  obtain ⟨fs, hr, hrun, hended, hW, hsame⟩ := X8.leave (v := none) (fun _ => rfl)
  refine ⟨_, _, P10 _ ?_, hrun, hended, _, _, rfl, ?_, ⟨_, rfl⟩, hW, hsame.mono (by decide) (by decide)⟩
  · exact X8.returnOut hx Bd.returns (hb hby d13_14) hr
  · show Q_rmSi Z a1 a2 h0 n0 _ T8.heap _
    rw [e8]
    have f11 : Keep h0 h8 [a1] := (((Keep.refl h0 [a1]).wr W5 (Or.inl (List.mem_of_getElem? (i := 0) rfl))).wr W8 (Or.inl (List.mem_of_getElem? (i := 0) rfl)))
    exact ⟨rfl, N8, f11, ((E1.wr W5).wr W8)⟩
def Q_rmVo (Z : State) (p1 : Int32) (cs : Int32) (h0 : Heap) (n0 : Nat) (v : Option Value) (h : Heap) (L : List Loc) : Prop := ∃ (rs : Addr), v = some (.ref rs) ∧ Fr n0 L ∧ Keep h0 h [] ∧ (h0.size ≤ rs) ∧ (Exa Z h rs "java/lang/String")
set_option maxRecDepth 65536 in
set_option maxHeartbeats 40000000 in
theorem rmVo (l : Launch) (Z : State) (a0 : Array Value) (hw : ∀ d ∈ tables_1, d.before a0 Z = true) (ws : List Jvm.Cond) (p1 : Int32) (cs : Int32) (h0 : Heap) (n0 : Nat) (Z0 : n0 ≤ h0.size) (O0 : Old Z n0 h0) (SC : Sta Z Z.heap "java/lang/String" "COMPACT_STRINGS" "Z" (.int cs)) (hcs : ¬ (cs = (0 : Int32))) (hp1 : ¬ ((255 : Int32) < p1)) :
    MetFree l (⟨"java/lang/String", "valueOf", "(C)Ljava/lang/String;"⟩ : MethodName) (head1 (Jvm.Cond.code (⟨"java/lang/String", "valueOf", "(C)Ljava/lang/String;"⟩ : MethodName) jdk_42_method_139_code 1 (some (.object "java/lang/String")) :: ws) ({ frames := 2, cells := 2, slots := 5, locals := 27 } : Room)) (fun a U => a = #[(.int p1)] ∧ Z.Warmed39 U.vm ∧ U.heap = h0) (fun _ _ _ _ _ => True) (fun _ U o U' => ∃ v L, o = .returned v ∧ Q_rmVo Z p1 cs h0 n0 v U'.heap L ∧ FrameEnd U o U' L ({ frames := 2, cells := 2, slots := 5, locals := 27 } : Room).cells ({ frames := 2, cells := 2, slots := 5, locals := 27 } : Room).slots) := by
  refine MetFree.of_bodySF (plainFor_of_name pn_3) hisR ?_
  intro p e s m args below meth c s₁ Bd hml0 hP hK
  obtain ⟨rfl, hZ, hh⟩ := hP
  have hx := Bd.exec
  have hby := Bd.bytes
  have hml : c.maxLocals = 1 := hml0
  have hown : s.vm.findClass "java/lang/String" = some m.cls := findClass_of_methodNamed Bd.named
  have hnm := (name_of_methodNamed Bd.named Bd.method).1
  have X0 : Stand p l e ({ frames := 2, cells := 2, slots := 5, locals := 27 } : Room) s m #[(.int p1)] below meth c s₁ [] 0 0 := Stand.of_body Bd
  have e0 : s₁.heap = h0 := by rw [← hh, Bd.state]; rfl
  have N0 := Fr.nil n0
  have P0 : Rch p e below (s₁.setTop (entryFrame m #[(.int p1)] 1)) (s₁.setTop (mkF m 0 #[iv p1] [])) := fun t k => castTop (by first | (simp [entryFrame, mkF, argsToLocals, Value.category]; done) | rfl) k
  obtain ⟨T1, X1, e1, st1⟩ := getS2 X0 hx hZ hown (host := "") (Or.inl (hw _ (List.mem_of_getElem? (i := 87) rfl))) Via.refl e0 (SC.ext O0.2) (g := (mkF m 0 #[iv p1] [])) rfl (hb hby d10_0)
  have P2 : Rch p e below (s₁.setTop (entryFrame m #[(.int p1)] 1)) (T1.setTop (mkF m 3 #[iv p1] [(.int cs)])) := fun t k => P0 t (st1 t k)
  have P3 : Rch p e below (s₁.setTop (entryFrame m #[(.int p1)] 1)) (T1.setTop (mkF m 7 #[iv p1] [(.int p1)])) := fun t k => P2 t (by
    show Steps p.tables e below (T1.setTop (mkF m 3 #[iv p1] [(.int cs)])) t
    refine XS.ifNo X1.here hx rfl (hb hby d10_3) rfl ((if0 _ _).trans (feq hcs).1) ?_
    refine XS.iloadN X1.here hx rfl (hb hby d10_6) rfl ?_
    exact k)
  obtain ⟨_, _, ⟨T4, L4, k4, n4⟩, -, X4, ⟨Lc4, hQ4, l4, y4, z4⟩, st4⟩ := Jvm.LawKit.callS X1 hx (y := (⟨"java/lang/StringLatin1", "canEncode", "(C)Z"⟩ : MethodName)) hown (mvT hZ (hw _ (List.mem_of_getElem? (i := 88) rfl))) (mvT hZ (hw _ (List.mem_of_getElem? (i := 89) rfl))) (mvT hZ (hw _ (List.mem_of_getElem? (i := 90) rfl))) (mvT hZ (hw _ (List.mem_of_getElem? (i := 91) rfl))) (by decide) (backOf (W := 0) (rmCe l Z a0 hw [] p1 h0 n0 Z0 ) hZ (hw _ (List.mem_of_getElem? (i := 91) rfl)) (hw _ (List.mem_of_getElem? (i := 90) rfl)) (by decide) (by decide)) (g := (mkF m 7 #[iv p1] [(.int p1)])) rfl (by rw [hml]; rfl) (argsL := [(.int p1)]) (rest := []) (lenOf pd_3 rfl) rfl (by show 2 * 0 + _ ≤ _; exact Nat.le_of_eq rfl) (hb hby d10_7) (fun _ _ => ⟨rfl, e1, (by decide : 0 + 0 ≤ _), (by decide : 0 + 0 ≤ _)⟩)
  dsimp only [Pt.U, Pt.locs, Pt.cells, Pt.slots] at X4 l4 y4 z4 st4 hQ4
  subst y4 z4
  obtain ⟨rfl, N4q, e4⟩ := hQ4
  have N4 : Fr n0 L4 := by rw [l4]; exact Fr.app N0 N4q
  have P5 : Rch p e below (s₁.setTop (entryFrame m #[(.int p1)] 1)) (T4.setTop (mkF m 10 #[iv p1] [(.int (own_ce p1))])) := fun t k => P3 t (st4 t k)
  obtain ⟨x6, hx6⟩ : ∃ z : Int32, z = (own_ce p1) := ⟨_, rfl⟩
  rw [← hx6] at P5
  have hce : ¬ (x6 = (0 : Int32)) := by rw [hx6]; exact own_cey hp1
  have P7 : Rch p e below (s₁.setTop (entryFrame m #[(.int p1)] 1)) (T4.setTop (mkF m 13 #[iv p1] [])) := fun t k => P5 t (by
    show Steps p.tables e below (T4.setTop (mkF m 10 #[iv p1] [(.int x6)])) t
    refine XS.ifNo X4.here hx rfl (hb hby d10_10) rfl ((if0 _ _).trans (feq hce).1) ?_
    exact k)
  obtain ⟨T8, h8, X8, e8, E8, A8, D8, -, st8⟩ := newO X4 hx hZ hown (hw _ (List.mem_of_getElem? (i := 92) rfl)) (hw _ (List.mem_of_getElem? (i := 93) rfl)) (hw _ (List.mem_of_getElem? (i := 85) rfl)) e4 (g := (mkF m 13 #[iv p1] [])) rfl (hb hby d10_13) (by decide) (by decide)
  obtain ⟨b8, g8⟩ : ∃ z, z = h0.size := ⟨_, rfl⟩
  rw [← g8] at A8 D8 st8
  have g_b8 : n0 ≤ b8 := Nat.le_trans Z0 (Nat.le_of_eq g8.symm)
  have sz_b8 : h0.size ≤ b8 := Nat.le_trans (Keep.refl h0 []).1 (Nat.le_of_eq g8.symm)
  have F8_104 : Fld Z h8 b8 "java/lang/String" "value" "[B" .null := D8 (Or.inr (hw _ (List.mem_of_getElem? (i := 104) rfl))) (ty := (.array .byte)) (by decide)
  have F8_106 : Fld Z h8 b8 "java/lang/String" "coder" "B" (.int (0 : Int32)) := D8 (Or.inr (hw _ (List.mem_of_getElem? (i := 106) rfl))) (ty := .byte) (by decide)
  have P9 : Rch p e below (s₁.setTop (entryFrame m #[(.int p1)] 1)) (T8.setTop (mkF m 16 #[iv p1] [(.ref b8)])) := fun t k => P7 t (st8 t k)
  have P10 : Rch p e below (s₁.setTop (entryFrame m #[(.int p1)] 1)) (T8.setTop (mkF m 18 #[iv p1] [(.int p1), (.ref b8), (.ref b8)])) := fun t k => P9 t (by
    show Steps p.tables e below (T8.setTop (mkF m 16 #[iv p1] [(.ref b8)])) t
    refine XS.dup X8.here hx rfl (hb hby d10_16) rfl rfl ?_
    refine XS.iloadN X8.here hx rfl (hb hby d10_17) rfl ?_
    exact k)
  have f12 : n0 ≤ h8.size := (Nat.le_trans Z0 E8.1)
  obtain ⟨_, _, ⟨T11, L11, k11, n11⟩, -, X11, ⟨Lc11, hQ11, l11, y11, z11⟩, st11⟩ := Jvm.LawKit.callS X8 hx (y := (⟨"java/lang/StringLatin1", "toBytes", "(C)[B"⟩ : MethodName)) hown (mvT hZ (hw _ (List.mem_of_getElem? (i := 94) rfl))) (mvT hZ (hw _ (List.mem_of_getElem? (i := 95) rfl))) (mvT hZ (hw _ (List.mem_of_getElem? (i := 90) rfl))) (mvT hZ (hw _ (List.mem_of_getElem? (i := 96) rfl))) (by decide) (backOf (W := 2) (rmTb l Z a0 hw [] p1 h8 n0 f12 ) hZ (hw _ (List.mem_of_getElem? (i := 96) rfl)) (hw _ (List.mem_of_getElem? (i := 90) rfl)) (by decide) (by decide)) (g := (mkF m 18 #[iv p1] [(.int p1), (.ref b8), (.ref b8)])) rfl (by rw [hml]; rfl) (argsL := [(.int p1)]) (rest := [(.ref b8), (.ref b8)]) (lenOf pd_4 rfl) rfl (by show 2 * 0 + _ ≤ _; exact Nat.le_of_eq rfl) (hb hby d10_18) (fun _ _ => ⟨rfl, e8, (by decide : 1 + 1 ≤ _), (by decide : 4 + 1 ≤ _)⟩)
  dsimp only [Pt.U, Pt.locs, Pt.cells, Pt.slots] at X11 l11 y11 z11 st11 hQ11
  subst y11 z11
  have f13 : Keep h0 h8 [] := ((Keep.refl h0 []).ext E8)
  obtain ⟨rb__11, rfl, N11q, K11, Fr__11⟩ := hQ11
  have N11 : Fr n0 L11 := by rw [l11]; exact Fr.app N4 N11q
  have g_rb__11 : n0 ≤ rb__11 := Nat.le_trans f12 Fr__11
  have sz_rb__11 : h0.size ≤ rb__11 := Nat.le_trans f13.1 Fr__11
  have ne_b8_rb__11 : b8 ≠ rb__11 := Nat.ne_of_lt (Nat.lt_of_lt_of_le A8.lt Fr__11)
  have P14 : Rch p e below (s₁.setTop (entryFrame m #[(.int p1)] 1)) (T11.setTop (mkF m 21 #[iv p1] [(.ref rb__11), (.ref b8), (.ref b8)])) := fun t k => P10 t (st11 t k)
  have P15 : Rch p e below (s₁.setTop (entryFrame m #[(.int p1)] 1)) (T11.setTop (mkF m 22 #[iv p1] [(.int (0 : Int32)), (.ref rb__11), (.ref b8), (.ref b8)])) := fun t k => P14 t (by
    show Steps p.tables e below (T11.setTop (mkF m 21 #[iv p1] [(.ref rb__11), (.ref b8), (.ref b8)])) t
    refine XS.iconst X11.here hx rfl (hb hby d10_21) ?_
    exact k)
  have f17 : n0 ≤ T11.heap.size := (Nat.le_trans f12 K11.1)
  obtain ⟨_, _, ⟨T16, L16, k16, n16⟩, -, X16, ⟨Lc16, hQ16, l16, y16, z16⟩, st16⟩ := X11.specialBack hx (y := (⟨"java/lang/String", "<init>", "([BB)V"⟩ : MethodName)) rfl hown (mvT hZ (hw _ (List.mem_of_getElem? (i := 98) rfl))) (mvT hZ (hw _ (List.mem_of_getElem? (i := 99) rfl))) (mvT hZ (hw _ (List.mem_of_getElem? (i := 101) rfl))) (by decide) (backOf (W := 1) (rmSi l Z a0 hw [] b8 rb__11 T11.heap n0 f17 (A8.keep K11) g_b8 (F8_104.keep K11 nin0) (F8_106.keep K11 nin0)) hZ (hw _ (List.mem_of_getElem? (i := 101) rfl)) (hw _ (List.mem_of_getElem? (i := 85) rfl)) (by decide) (by decide)) (g := (mkF m 22 #[iv p1] [(.int (0 : Int32)), (.ref rb__11), (.ref b8), (.ref b8)])) rfl (by rw [hml]; rfl) (Steps.refl _) (a := b8) (argsL := [(.ref rb__11), (.int (0 : Int32))]) (rest := [(.ref b8)]) (lenOf pd_5 rfl) rfl (by show 2 * 0 + _ ≤ _; exact Nat.le_of_eq rfl) (hb hby d10_22) (fun _ _ => ⟨rfl, rfl, (by decide : 2 + 0 ≤ _), (by decide : 5 + 0 ≤ _)⟩)
  dsimp only [Pt.U, Pt.locs, Pt.cells, Pt.slots] at X16 l16 y16 z16 st16 hQ16
  subst y16 z16
  obtain ⟨rfl, N16q, K16, E_16⟩ := hQ16
  have N16 : Fr n0 L16 := by rw [l16]; exact Fr.app N11 N16q
  have P18 : Rch p e below (s₁.setTop (entryFrame m #[(.int p1)] 1)) (T16.setTop (mkF m 25 #[iv p1] [(.ref b8)])) := fun t k => P15 t (st16.trans k)
  obtain ⟨fs, hr, hrun, hended, hW, hsame⟩ := X16.leave (v := some (.ref b8)) (fun h => by rw [Bd.returns] at h; cases h)
  refine ⟨_, _, P18 _ ?_, hrun, hended, _, _, rfl, ?_, ⟨_, rfl⟩, hW, hsame.mono (by decide) (by decide)⟩
  · exact retOut X16 hx Bd.returns rfl (Or.inr (Or.inr (Or.inr (Or.inr ⟨rfl, rfl, rfl⟩)))) (hb hby d10_25) hr
  · show Q_rmVo Z p1 cs h0 n0 _ T16.heap _
    have f19 : Keep h0 T16.heap [] := ((f13.trans K11 all0).trans K16 (allS (P := fun x => x ∈ [] ∨ h0.size ≤ x) (Or.inr sz_b8) all0))
    exact ⟨b8, rfl, N16, f19, sz_b8, E_16⟩
theorem own_seven (b : Int32) : ((b &&& (2147483647 : Int32)) % (7 : Int32)) = (0 : Int32) ∨ ((b &&& (2147483647 : Int32)) % (7 : Int32)) = (1 : Int32) ∨ ((b &&& (2147483647 : Int32)) % (7 : Int32)) = (2 : Int32) ∨ ((b &&& (2147483647 : Int32)) % (7 : Int32)) = (3 : Int32) ∨ ((b &&& (2147483647 : Int32)) % (7 : Int32)) = (4 : Int32) ∨ ((b &&& (2147483647 : Int32)) % (7 : Int32)) = (5 : Int32) ∨ ((b &&& (2147483647 : Int32)) % (7 : Int32)) = (6 : Int32) := by
  have m := c_mask b 2147483647 31 (by decide) (by decide)
  have q := (c_irem (b &&& 2147483647) 7 7 rfl).1 (by omega)
  have c : ((b &&& (2147483647 : Int32)) % (7 : Int32)).toInt = 0 ∨ ((b &&& (2147483647 : Int32)) % (7 : Int32)).toInt = 1 ∨ ((b &&& (2147483647 : Int32)) % (7 : Int32)).toInt = 2 ∨ ((b &&& (2147483647 : Int32)) % (7 : Int32)).toInt = 3 ∨ ((b &&& (2147483647 : Int32)) % (7 : Int32)).toInt = 4 ∨ ((b &&& (2147483647 : Int32)) % (7 : Int32)).toInt = 5 ∨ ((b &&& (2147483647 : Int32)) % (7 : Int32)).toInt = 6 := by omega
  rcases c with c | c | c | c | c | c | c
  · exact Or.inl (Int32.toInt_inj.mp c)
  · exact Or.inr (Or.inl (Int32.toInt_inj.mp c))
  · exact Or.inr (Or.inr (Or.inl (Int32.toInt_inj.mp c)))
  · exact Or.inr (Or.inr (Or.inr (Or.inl (Int32.toInt_inj.mp c))))
  · exact Or.inr (Or.inr (Or.inr (Or.inr (Or.inl (Int32.toInt_inj.mp c)))))
  · exact Or.inr (Or.inr (Or.inr (Or.inr (Or.inr (Or.inl (Int32.toInt_inj.mp c))))))
  · exact Or.inr (Or.inr (Or.inr (Or.inr (Or.inr (Or.inr (Int32.toInt_inj.mp c))))))
theorem own_cnt (y : Int32) : 0 ≤ ((y &&& (65535 : Int32)) % (3 : Int32)).toInt ∧ ((y &&& (65535 : Int32)) % (3 : Int32)).toInt ≤ 2 := by
  have m := c_mask y 65535 16 (by decide) (by decide)
  have q := (c_irem (y &&& 65535) 3 3 rfl).1 (by omega)
  omega
theorem own_255 (y : Int32) : ¬ ((255 : Int32) < (y &&& (255 : Int32)).toUInt32.toUInt16.toUInt32.toInt32) := by
  have m := c_mask y 255 8 (by decide) (by decide)
  have q := c_i2c (y &&& 255)
  have e : (255 : Int32).toInt = 255 := rfl
  rw [Int32.lt_iff_toInt_lt]; omega
theorem own_bits (p : Int32) : (p &&& (7 : Int32)) = (0 : Int32) ↔ ((p &&& (1 : Int32)) = (0 : Int32) ∧ (p &&& (2 : Int32)) = (0 : Int32) ∧ (p &&& (4 : Int32)) = (0 : Int32)) := by
  have h : ∀ m : Int32, (p &&& m) = (0 : Int32) ↔ p.toBitVec &&& m.toBitVec = 0#32 := fun m => by
    constructor
    · intro q; exact congrArg Int32.toBitVec q
    · intro q; exact Int32.toBitVec_inj.mp q
  rw [h, h, h, h]
  generalize p.toBitVec = x
  have k : ∀ m : BitVec 32, x &&& m = 0#32 ↔ ∀ i, i < 32 → (x.getLsbD i && m.getLsbD i) = false := fun m => by
    constructor
    · intro q i hi; rw [← BitVec.getLsbD_and, q, BitVec.getLsbD_zero]
    · intro q; apply BitVec.eq_of_getLsbD_eq; intro i hi; rw [BitVec.getLsbD_and, q i hi, BitVec.getLsbD_zero]
  have b7 : ∀ i, i < 32 → ((7 : Int32).toBitVec.getLsbD i) = ((1 : Int32).toBitVec.getLsbD i || (2 : Int32).toBitVec.getLsbD i || (4 : Int32).toBitVec.getLsbD i) := by decide
  rw [k, k, k, k]
  constructor
  · intro q
    refine ⟨fun i hi => ?_, fun i hi => ?_, fun i hi => ?_⟩ <;> (have := q i hi; rw [b7 i hi] at this; revert this; cases x.getLsbD i <;> cases (1 : Int32).toBitVec.getLsbD i <;> cases (2 : Int32).toBitVec.getLsbD i <;> cases (4 : Int32).toBitVec.getLsbD i <;> simp)
  · intro q i hi
    rw [b7 i hi]
    have h1 := q.1 i hi; have h2 := q.2.1 i hi; have h3 := q.2.2 i hi
    revert h1 h2 h3
    cases x.getLsbD i <;> cases (1 : Int32).toBitVec.getLsbD i <;> cases (2 : Int32).toBitVec.getLsbD i <;> cases (4 : Int32).toBitVec.getLsbD i <;> simp
theorem own_nz {x : Int32} (h : 1 ≤ x.toInt) : ¬ x = (0 : Int32) := by rintro rfl; exact absurd h (by decide)
theorem own_ie1 {x : Int32} (h : 1 ≤ x.toInt) : own_ie x = (0 : Int32) := by
  have := own_nz h
  unfold own_ie; simp [this]

def Q_rm0 (Z : State) (p1 : Int32) (p2 : Int32) (p3 : Int32) (p4 : Int32) (x_0 : Addr) (x_1 : Addr) (x_2 : Addr) (x_3 : Addr) (x_4 : Addr) (x_5 : Addr) (x_6 : Addr) (cs : Int32) (h0 : Heap) (n0 : Nat) (v : Option Value) (h : Heap) (L : List Loc) : Prop := v = some (.int (1 : Int32)) ∧ Fr n0 L
set_option maxRecDepth 65536 in
set_option maxHeartbeats 40000000 in
theorem rm0 (l : Launch) (Z : State) (a0 : Array Value) (hw : ∀ d ∈ tables_1, d.before a0 Z = true) (ws : List Jvm.Cond) (p1 : Int32) (p2 : Int32) (p3 : Int32) (p4 : Int32) (x_0 : Addr) (x_1 : Addr) (x_2 : Addr) (x_3 : Addr) (x_4 : Addr) (x_5 : Addr) (x_6 : Addr) (cs : Int32) (h0 : Heap) (n0 : Nat) (Z0 : n0 ≤ h0.size) (O0 : Old Z n0 h0) (S_0 : Sta Z Z.heap "com/example/rideau/rideau/internal/HeldText$Piece" "CHARACTERS" "Lcom/example/rideau/rideau/internal/HeldText$Piece;" (.ref x_0)) (S_1 : Sta Z Z.heap "com/example/rideau/rideau/internal/HeldText$Piece" "IGNORABLE_WHITESPACE" "Lcom/example/rideau/rideau/internal/HeldText$Piece;" (.ref x_1)) (S_2 : Sta Z Z.heap "com/example/rideau/rideau/internal/HeldText$Piece" "START_CDATA" "Lcom/example/rideau/rideau/internal/HeldText$Piece;" (.ref x_2)) (S_3 : Sta Z Z.heap "com/example/rideau/rideau/internal/HeldText$Piece" "END_CDATA" "Lcom/example/rideau/rideau/internal/HeldText$Piece;" (.ref x_3)) (S_4 : Sta Z Z.heap "com/example/rideau/rideau/internal/HeldText$Piece" "START_ENTITY" "Lcom/example/rideau/rideau/internal/HeldText$Piece;" (.ref x_4)) (S_5 : Sta Z Z.heap "com/example/rideau/rideau/internal/HeldText$Piece" "END_ENTITY" "Lcom/example/rideau/rideau/internal/HeldText$Piece;" (.ref x_5)) (S_6 : Sta Z Z.heap "com/example/rideau/rideau/internal/HeldText$Piece" "SKIPPED_ENTITY" "Lcom/example/rideau/rideau/internal/HeldText$Piece;" (.ref x_6)) (Ex_0 : Exa Z h0 x_0 "com/example/rideau/rideau/internal/HeldText$Piece") (Ex_1 : Exa Z h0 x_1 "com/example/rideau/rideau/internal/HeldText$Piece") (Ex_2 : Exa Z h0 x_2 "com/example/rideau/rideau/internal/HeldText$Piece") (Ex_3 : Exa Z h0 x_3 "com/example/rideau/rideau/internal/HeldText$Piece") (Ex_4 : Exa Z h0 x_4 "com/example/rideau/rideau/internal/HeldText$Piece") (Ex_5 : Exa Z h0 x_5 "com/example/rideau/rideau/internal/HeldText$Piece") (Ex_6 : Exa Z h0 x_6 "com/example/rideau/rideau/internal/HeldText$Piece") (SC : Sta Z Z.heap "java/lang/String" "COMPACT_STRINGS" "Z" (.int cs)) (hcs : ¬ (cs = (0 : Int32))) :
    MetFree l x (head1 (Jvm.Cond.code x code maxLocals ret :: ws) room_1) (fun a U => a = #[(.int p1), (.int p2), (.int p3), (.int p4)] ∧ Z.Warmed39 U.vm ∧ U.heap = h0) (fun _ _ _ _ _ => True) (fun _ U o U' => ∃ v L, o = .returned v ∧ Q_rm0 Z p1 p2 p3 p4 x_0 x_1 x_2 x_3 x_4 x_5 x_6 cs h0 n0 v U'.heap L ∧ FrameEnd U o U' L room_1.cells room_1.slots) := by
  refine MetFree.of_bodySF (plainFor_of_name pn_4) hisR ?_
  intro p e s m args below meth c s₁ Bd hml0 hP hK
  obtain ⟨rfl, hZ, hh⟩ := hP
  have hx := Bd.exec
  have hby := Bd.bytes
  have hml : c.maxLocals = 17 := hml0
  have hown : s.vm.findClass "com/example/rideau/rideau/internal/HeldTextClearPinLaw" = some m.cls := findClass_of_methodNamed Bd.named
  have hnm := (name_of_methodNamed Bd.named Bd.method).1
  have X0 : Stand p l e room_1 s m #[(.int p1), (.int p2), (.int p3), (.int p4)] below meth c s₁ [] 0 0 := Stand.of_body Bd
  have e0 : s₁.heap = h0 := by rw [← hh, Bd.state]; rfl
  have N0 := Fr.nil n0
  have P0 : Rch p e below (s₁.setTop (entryFrame m #[(.int p1), (.int p2), (.int p3), (.int p4)] maxLocals)) (s₁.setTop (mkF m 0 #[iv p1, iv p2, iv p3, iv p4, un, un, un, un, un, un, un, un, un, un, un, un, un] [])) := fun t k => castTop (by first | (simp [entryFrame, mkF, argsToLocals, Value.category, maxLocals]; done) | rfl) k
  have P1 : Rch p e below (s₁.setTop (entryFrame m #[(.int p1), (.int p2), (.int p3), (.int p4)] maxLocals)) (s₁.setTop (mkF m 2 #[iv p1, iv p2, iv p3, iv p4, un, un, un, un, un, un, un, un, un, un, un, un, un] [(.int (7 : Int32))])) := fun t k => P0 t (by
    show Steps p.tables e below (s₁.setTop (mkF m 0 #[iv p1, iv p2, iv p3, iv p4, un, un, un, un, un, un, un, un, un, un, un, un, un] [])) t
    refine XS.bipush X0.here hx rfl (hb hby at_0) ?_
    exact k)
  obtain ⟨T2, h2, k2, X2, e2, E2, A2, O2, st2⟩ := newR X0 hx hZ hown (hw _ (List.mem_of_getElem? (i := 0) rfl)) (hw _ (List.mem_of_getElem? (i := 1) rfl)) e0 (g := (mkF m 2 #[iv p1, iv p2, iv p3, iv p4, un, un, un, un, un, un, un, un, un, un, un, un, un] [(.int (7 : Int32))])) rfl (hb hby at_2) rfl (by decide) (cap := 7) (by decide) (by decide) (by decide) (by decide)
  obtain ⟨b2, g2⟩ : ∃ z, z = h0.size := ⟨_, rfl⟩
  rw [← g2] at A2 st2
  have g_b2 : n0 ≤ b2 := Nat.le_trans Z0 (Nat.le_of_eq g2.symm)
  have sz_b2 : h0.size ≤ b2 := Nat.le_trans (Keep.refl h0 []).1 (Nat.le_of_eq g2.symm)
  have ne_x_0_b2 : x_0 ≠ b2 := Nat.ne_of_lt (Nat.lt_of_lt_of_le Ex_0.lt (Nat.le_of_eq g2.symm))
  have ne_x_1_b2 : x_1 ≠ b2 := Nat.ne_of_lt (Nat.lt_of_lt_of_le Ex_1.lt (Nat.le_of_eq g2.symm))
  have ne_x_2_b2 : x_2 ≠ b2 := Nat.ne_of_lt (Nat.lt_of_lt_of_le Ex_2.lt (Nat.le_of_eq g2.symm))
  have ne_x_3_b2 : x_3 ≠ b2 := Nat.ne_of_lt (Nat.lt_of_lt_of_le Ex_3.lt (Nat.le_of_eq g2.symm))
  have ne_x_4_b2 : x_4 ≠ b2 := Nat.ne_of_lt (Nat.lt_of_lt_of_le Ex_4.lt (Nat.le_of_eq g2.symm))
  have ne_x_5_b2 : x_5 ≠ b2 := Nat.ne_of_lt (Nat.lt_of_lt_of_le Ex_5.lt (Nat.le_of_eq g2.symm))
  have ne_x_6_b2 : x_6 ≠ b2 := Nat.ne_of_lt (Nat.lt_of_lt_of_le Ex_6.lt (Nat.le_of_eq g2.symm))
  have V2 : Arv Z h2 b2 k2 (.object "com/example/rideau/rideau/internal/HeldText$Piece") (7 : Int32) [.null, .null, .null, .null, .null, .null, .null] .null := (Arv.new A2 (by decide)).pad (pad_rep [] .null 7)
  have P3 : Rch p e below (s₁.setTop (entryFrame m #[(.int p1), (.int p2), (.int p3), (.int p4)] maxLocals)) (T2.setTop (mkF m 5 #[iv p1, iv p2, iv p3, iv p4, un, un, un, un, un, un, un, un, un, un, un, un, un] [(.ref b2)])) := fun t k => P1 t (st2 t k)
  have P4 : Rch p e below (s₁.setTop (entryFrame m #[(.int p1), (.int p2), (.int p3), (.int p4)] maxLocals)) (T2.setTop (mkF m 7 #[iv p1, iv p2, iv p3, iv p4, un, un, un, un, un, un, un, un, un, un, un, un, un] [(.int (0 : Int32)), (.ref b2), (.ref b2)])) := fun t k => P3 t (by
    show Steps p.tables e below (T2.setTop (mkF m 5 #[iv p1, iv p2, iv p3, iv p4, un, un, un, un, un, un, un, un, un, un, un, un, un] [(.ref b2)])) t
    refine XS.dup X2.here hx rfl (hb hby at_5) rfl rfl ?_
    refine XS.iconst X2.here hx rfl (hb hby at_6) ?_
    exact k)
  have f6 : Old Z n0 h2 := (O0.ext E2)
  obtain ⟨T5, X5, e5, st5⟩ := getS2 X2 hx hZ hown (host := "") (Or.inl (hw _ (List.mem_of_getElem? (i := 2) rfl))) Via.refl e2 (S_0.ext f6.2) (g := (mkF m 7 #[iv p1, iv p2, iv p3, iv p4, un, un, un, un, un, un, un, un, un, un, un, un, un] [(.int (0 : Int32)), (.ref b2), (.ref b2)])) rfl (hb hby at_7)
  have P7 : Rch p e below (s₁.setTop (entryFrame m #[(.int p1), (.int p2), (.int p3), (.int p4)] maxLocals)) (T5.setTop (mkF m 10 #[iv p1, iv p2, iv p3, iv p4, un, un, un, un, un, un, un, un, un, un, un, un, un] [(.ref x_0), (.int (0 : Int32)), (.ref b2), (.ref b2)])) := fun t k => P4 t (st5 t k)
  have V_o8 := V2
  obtain ⟨co8, Aro8, qo8, So8, Mo8, Ho8, Go8⟩ := V_o8
  have hin9 : ¬ ((0 : Int32) < 0 ∨ co8.slots.size ≤ ((0 : Int32)).toNatClampNeg) := inb_of So8 ⟨by decide, by decide⟩
  obtain ⟨T9, h9, X9, e9, W9, st9⟩ := stR X5 hx hZ e5 Aro8 (j := (0 : Int32)) hin9 rfl (Sto.ofV Aro8 qo8 O2 (Ins.self (Ex_0.ext E2))) (g := (mkF m 10 #[iv p1, iv p2, iv p3, iv p4, un, un, un, un, un, un, un, un, un, un, un, un, un] [(.ref x_0), (.int (0 : Int32)), (.ref b2), (.ref b2)])) rfl rfl (hb hby at_10)
  have V9 : Arv Z h9 b2 k2 (.object "com/example/rideau/rideau/internal/HeldText$Piece") (7 : Int32) [(.ref x_0), .null, .null, .null, .null, .null, .null] .null := Arv.set Aro8 qo8 So8 Mo8 Ho8 Go8 rfl W9 0 rfl (Nat.le_of_ble_eq_true rfl)
  have P10 : Rch p e below (s₁.setTop (entryFrame m #[(.int p1), (.int p2), (.int p3), (.int p4)] maxLocals)) (T9.setTop (mkF m 11 #[iv p1, iv p2, iv p3, iv p4, un, un, un, un, un, un, un, un, un, un, un, un, un] [(.ref b2)])) := fun t k => P7 t (st9 t k)
  have N9 := Fr.snoc X9 N0 g_b2
  have P11 : Rch p e below (s₁.setTop (entryFrame m #[(.int p1), (.int p2), (.int p3), (.int p4)] maxLocals)) (T9.setTop (mkF m 13 #[iv p1, iv p2, iv p3, iv p4, un, un, un, un, un, un, un, un, un, un, un, un, un] [(.int (1 : Int32)), (.ref b2), (.ref b2)])) := fun t k => P10 t (by
    show Steps p.tables e below (T9.setTop (mkF m 11 #[iv p1, iv p2, iv p3, iv p4, un, un, un, un, un, un, un, un, un, un, un, un, un] [(.ref b2)])) t
    refine XS.dup X9.here hx rfl (hb hby at_11) rfl rfl ?_
    refine XS.iconst X9.here hx rfl (hb hby at_12) ?_
    exact k)
  have f13 : Old Z n0 h9 := (f6.wr W9 g_b2)
  obtain ⟨T12, X12, e12, st12⟩ := getS2 X9 hx hZ hown (host := "") (Or.inl (hw _ (List.mem_of_getElem? (i := 6) rfl))) Via.refl e9 (S_1.ext f13.2) (g := (mkF m 13 #[iv p1, iv p2, iv p3, iv p4, un, un, un, un, un, un, un, un, un, un, un, un, un] [(.int (1 : Int32)), (.ref b2), (.ref b2)])) rfl (hb hby at_13)
  have P14 : Rch p e below (s₁.setTop (entryFrame m #[(.int p1), (.int p2), (.int p3), (.int p4)] maxLocals)) (T12.setTop (mkF m 16 #[iv p1, iv p2, iv p3, iv p4, un, un, un, un, un, un, un, un, un, un, un, un, un] [(.ref x_1), (.int (1 : Int32)), (.ref b2), (.ref b2)])) := fun t k => P11 t (st12 t k)
  have V_o15 := V9
  obtain ⟨co15, Aro15, qo15, So15, Mo15, Ho15, Go15⟩ := V_o15
  have hin16 : ¬ ((1 : Int32) < 0 ∨ co15.slots.size ≤ ((1 : Int32)).toNatClampNeg) := inb_of So15 ⟨by decide, by decide⟩
  obtain ⟨T16, h16, X16, e16, W16, st16⟩ := stR X12 hx hZ e12 Aro15 (j := (1 : Int32)) hin16 rfl (Sto.ofV Aro15 qo15 O2 (Ins.self ((Ex_1.ext E2).wr W9))) (g := (mkF m 16 #[iv p1, iv p2, iv p3, iv p4, un, un, un, un, un, un, un, un, un, un, un, un, un] [(.ref x_1), (.int (1 : Int32)), (.ref b2), (.ref b2)])) rfl rfl (hb hby at_16)
  have V16 : Arv Z h16 b2 k2 (.object "com/example/rideau/rideau/internal/HeldText$Piece") (7 : Int32) [(.ref x_0), (.ref x_1), .null, .null, .null, .null, .null] .null := Arv.set Aro15 qo15 So15 Mo15 Ho15 Go15 rfl W16 1 rfl (Nat.le_of_ble_eq_true rfl)
  have P17 : Rch p e below (s₁.setTop (entryFrame m #[(.int p1), (.int p2), (.int p3), (.int p4)] maxLocals)) (T16.setTop (mkF m 17 #[iv p1, iv p2, iv p3, iv p4, un, un, un, un, un, un, un, un, un, un, un, un, un] [(.ref b2)])) := fun t k => P14 t (st16 t k)
  have N16 := Fr.snoc X16 N9 g_b2
  have P18 : Rch p e below (s₁.setTop (entryFrame m #[(.int p1), (.int p2), (.int p3), (.int p4)] maxLocals)) (T16.setTop (mkF m 19 #[iv p1, iv p2, iv p3, iv p4, un, un, un, un, un, un, un, un, un, un, un, un, un] [(.int (2 : Int32)), (.ref b2), (.ref b2)])) := fun t k => P17 t (by
    show Steps p.tables e below (T16.setTop (mkF m 17 #[iv p1, iv p2, iv p3, iv p4, un, un, un, un, un, un, un, un, un, un, un, un, un] [(.ref b2)])) t
    refine XS.dup X16.here hx rfl (hb hby at_17) rfl rfl ?_
    refine XS.iconst X16.here hx rfl (hb hby at_18) ?_
    exact k)
  have f20 : Old Z n0 h16 := (f13.wr W16 g_b2)
  obtain ⟨T19, X19, e19, st19⟩ := getS2 X16 hx hZ hown (host := "") (Or.inl (hw _ (List.mem_of_getElem? (i := 8) rfl))) Via.refl e16 (S_2.ext f20.2) (g := (mkF m 19 #[iv p1, iv p2, iv p3, iv p4, un, un, un, un, un, un, un, un, un, un, un, un, un] [(.int (2 : Int32)), (.ref b2), (.ref b2)])) rfl (hb hby at_19)
  have P21 : Rch p e below (s₁.setTop (entryFrame m #[(.int p1), (.int p2), (.int p3), (.int p4)] maxLocals)) (T19.setTop (mkF m 22 #[iv p1, iv p2, iv p3, iv p4, un, un, un, un, un, un, un, un, un, un, un, un, un] [(.ref x_2), (.int (2 : Int32)), (.ref b2), (.ref b2)])) := fun t k => P18 t (st19 t k)
  have V_o22 := V16
  obtain ⟨co22, Aro22, qo22, So22, Mo22, Ho22, Go22⟩ := V_o22
  have hin23 : ¬ ((2 : Int32) < 0 ∨ co22.slots.size ≤ ((2 : Int32)).toNatClampNeg) := inb_of So22 ⟨by decide, by decide⟩
  obtain ⟨T23, h23, X23, e23, W23, st23⟩ := stR X19 hx hZ e19 Aro22 (j := (2 : Int32)) hin23 rfl (Sto.ofV Aro22 qo22 O2 (Ins.self (((Ex_2.ext E2).wr W9).wr W16))) (g := (mkF m 22 #[iv p1, iv p2, iv p3, iv p4, un, un, un, un, un, un, un, un, un, un, un, un, un] [(.ref x_2), (.int (2 : Int32)), (.ref b2), (.ref b2)])) rfl rfl (hb hby at_22)
  have V23 : Arv Z h23 b2 k2 (.object "com/example/rideau/rideau/internal/HeldText$Piece") (7 : Int32) [(.ref x_0), (.ref x_1), (.ref x_2), .null, .null, .null, .null] .null := Arv.set Aro22 qo22 So22 Mo22 Ho22 Go22 rfl W23 2 rfl (Nat.le_of_ble_eq_true rfl)
  have P24 : Rch p e below (s₁.setTop (entryFrame m #[(.int p1), (.int p2), (.int p3), (.int p4)] maxLocals)) (T23.setTop (mkF m 23 #[iv p1, iv p2, iv p3, iv p4, un, un, un, un, un, un, un, un, un, un, un, un, un] [(.ref b2)])) := fun t k => P21 t (st23 t k)
  have N23 := Fr.snoc X23 N16 g_b2
  have P25 : Rch p e below (s₁.setTop (entryFrame m #[(.int p1), (.int p2), (.int p3), (.int p4)] maxLocals)) (T23.setTop (mkF m 25 #[iv p1, iv p2, iv p3, iv p4, un, un, un, un, un, un, un, un, un, un, un, un, un] [(.int (3 : Int32)), (.ref b2), (.ref b2)])) := fun t k => P24 t (by
    show Steps p.tables e below (T23.setTop (mkF m 23 #[iv p1, iv p2, iv p3, iv p4, un, un, un, un, un, un, un, un, un, un, un, un, un] [(.ref b2)])) t
    refine XS.dup X23.here hx rfl (hb hby at_23) rfl rfl ?_
    refine XS.iconst X23.here hx rfl (hb hby at_24) ?_
    exact k)
  have f27 : Old Z n0 h23 := (f20.wr W23 g_b2)
  obtain ⟨T26, X26, e26, st26⟩ := getS2 X23 hx hZ hown (host := "") (Or.inl (hw _ (List.mem_of_getElem? (i := 10) rfl))) Via.refl e23 (S_3.ext f27.2) (g := (mkF m 25 #[iv p1, iv p2, iv p3, iv p4, un, un, un, un, un, un, un, un, un, un, un, un, un] [(.int (3 : Int32)), (.ref b2), (.ref b2)])) rfl (hb hby at_25)
  have P28 : Rch p e below (s₁.setTop (entryFrame m #[(.int p1), (.int p2), (.int p3), (.int p4)] maxLocals)) (T26.setTop (mkF m 28 #[iv p1, iv p2, iv p3, iv p4, un, un, un, un, un, un, un, un, un, un, un, un, un] [(.ref x_3), (.int (3 : Int32)), (.ref b2), (.ref b2)])) := fun t k => P25 t (st26 t k)
  have V_o29 := V23
  obtain ⟨co29, Aro29, qo29, So29, Mo29, Ho29, Go29⟩ := V_o29
  have hin30 : ¬ ((3 : Int32) < 0 ∨ co29.slots.size ≤ ((3 : Int32)).toNatClampNeg) := inb_of So29 ⟨by decide, by decide⟩
  obtain ⟨T30, h30, X30, e30, W30, st30⟩ := stR X26 hx hZ e26 Aro29 (j := (3 : Int32)) hin30 rfl (Sto.ofV Aro29 qo29 O2 (Ins.self ((((Ex_3.ext E2).wr W9).wr W16).wr W23))) (g := (mkF m 28 #[iv p1, iv p2, iv p3, iv p4, un, un, un, un, un, un, un, un, un, un, un, un, un] [(.ref x_3), (.int (3 : Int32)), (.ref b2), (.ref b2)])) rfl rfl (hb hby at_28)
  have V30 : Arv Z h30 b2 k2 (.object "com/example/rideau/rideau/internal/HeldText$Piece") (7 : Int32) [(.ref x_0), (.ref x_1), (.ref x_2), (.ref x_3), .null, .null, .null] .null := Arv.set Aro29 qo29 So29 Mo29 Ho29 Go29 rfl W30 3 rfl (Nat.le_of_ble_eq_true rfl)
  have P31 : Rch p e below (s₁.setTop (entryFrame m #[(.int p1), (.int p2), (.int p3), (.int p4)] maxLocals)) (T30.setTop (mkF m 29 #[iv p1, iv p2, iv p3, iv p4, un, un, un, un, un, un, un, un, un, un, un, un, un] [(.ref b2)])) := fun t k => P28 t (st30 t k)
  have N30 := Fr.snoc X30 N23 g_b2
  have P32 : Rch p e below (s₁.setTop (entryFrame m #[(.int p1), (.int p2), (.int p3), (.int p4)] maxLocals)) (T30.setTop (mkF m 31 #[iv p1, iv p2, iv p3, iv p4, un, un, un, un, un, un, un, un, un, un, un, un, un] [(.int (4 : Int32)), (.ref b2), (.ref b2)])) := fun t k => P31 t (by
    show Steps p.tables e below (T30.setTop (mkF m 29 #[iv p1, iv p2, iv p3, iv p4, un, un, un, un, un, un, un, un, un, un, un, un, un] [(.ref b2)])) t
    refine XS.dup X30.here hx rfl (hb hby at_29) rfl rfl ?_
    refine XS.iconst X30.here hx rfl (hb hby at_30) ?_
    exact k)
  have f34 : Old Z n0 h30 := (f27.wr W30 g_b2)
  obtain ⟨T33, X33, e33, st33⟩ := getS2 X30 hx hZ hown (host := "") (Or.inl (hw _ (List.mem_of_getElem? (i := 12) rfl))) Via.refl e30 (S_4.ext f34.2) (g := (mkF m 31 #[iv p1, iv p2, iv p3, iv p4, un, un, un, un, un, un, un, un, un, un, un, un, un] [(.int (4 : Int32)), (.ref b2), (.ref b2)])) rfl (hb hby at_31)
  have P35 : Rch p e below (s₁.setTop (entryFrame m #[(.int p1), (.int p2), (.int p3), (.int p4)] maxLocals)) (T33.setTop (mkF m 34 #[iv p1, iv p2, iv p3, iv p4, un, un, un, un, un, un, un, un, un, un, un, un, un] [(.ref x_4), (.int (4 : Int32)), (.ref b2), (.ref b2)])) := fun t k => P32 t (st33 t k)
  have V_o36 := V30
  obtain ⟨co36, Aro36, qo36, So36, Mo36, Ho36, Go36⟩ := V_o36
  have hin37 : ¬ ((4 : Int32) < 0 ∨ co36.slots.size ≤ ((4 : Int32)).toNatClampNeg) := inb_of So36 ⟨by decide, by decide⟩
  obtain ⟨T37, h37, X37, e37, W37, st37⟩ := stR X33 hx hZ e33 Aro36 (j := (4 : Int32)) hin37 rfl (Sto.ofV Aro36 qo36 O2 (Ins.self (((((Ex_4.ext E2).wr W9).wr W16).wr W23).wr W30))) (g := (mkF m 34 #[iv p1, iv p2, iv p3, iv p4, un, un, un, un, un, un, un, un, un, un, un, un, un] [(.ref x_4), (.int (4 : Int32)), (.ref b2), (.ref b2)])) rfl rfl (hb hby at_34)
  have V37 : Arv Z h37 b2 k2 (.object "com/example/rideau/rideau/internal/HeldText$Piece") (7 : Int32) [(.ref x_0), (.ref x_1), (.ref x_2), (.ref x_3), (.ref x_4), .null, .null] .null := Arv.set Aro36 qo36 So36 Mo36 Ho36 Go36 rfl W37 4 rfl (Nat.le_of_ble_eq_true rfl)
  have P38 : Rch p e below (s₁.setTop (entryFrame m #[(.int p1), (.int p2), (.int p3), (.int p4)] maxLocals)) (T37.setTop (mkF m 35 #[iv p1, iv p2, iv p3, iv p4, un, un, un, un, un, un, un, un, un, un, un, un, un] [(.ref b2)])) := fun t k => P35 t (st37 t k)
  have N37 := Fr.snoc X37 N30 g_b2
  have P39 : Rch p e below (s₁.setTop (entryFrame m #[(.int p1), (.int p2), (.int p3), (.int p4)] maxLocals)) (T37.setTop (mkF m 37 #[iv p1, iv p2, iv p3, iv p4, un, un, un, un, un, un, un, un, un, un, un, un, un] [(.int (5 : Int32)), (.ref b2), (.ref b2)])) := fun t k => P38 t (by
    show Steps p.tables e below (T37.setTop (mkF m 35 #[iv p1, iv p2, iv p3, iv p4, un, un, un, un, un, un, un, un, un, un, un, un, un] [(.ref b2)])) t
    refine XS.dup X37.here hx rfl (hb hby at_35) rfl rfl ?_
    refine XS.iconst X37.here hx rfl (hb hby at_36) ?_
    exact k)
  have f41 : Old Z n0 h37 := (f34.wr W37 g_b2)
  obtain ⟨T40, X40, e40, st40⟩ := getS2 X37 hx hZ hown (host := "") (Or.inl (hw _ (List.mem_of_getElem? (i := 14) rfl))) Via.refl e37 (S_5.ext f41.2) (g := (mkF m 37 #[iv p1, iv p2, iv p3, iv p4, un, un, un, un, un, un, un, un, un, un, un, un, un] [(.int (5 : Int32)), (.ref b2), (.ref b2)])) rfl (hb hby at_37)
  have P42 : Rch p e below (s₁.setTop (entryFrame m #[(.int p1), (.int p2), (.int p3), (.int p4)] maxLocals)) (T40.setTop (mkF m 40 #[iv p1, iv p2, iv p3, iv p4, un, un, un, un, un, un, un, un, un, un, un, un, un] [(.ref x_5), (.int (5 : Int32)), (.ref b2), (.ref b2)])) := fun t k => P39 t (st40 t k)
  have V_o43 := V37
  obtain ⟨co43, Aro43, qo43, So43, Mo43, Ho43, Go43⟩ := V_o43
  have hin44 : ¬ ((5 : Int32) < 0 ∨ co43.slots.size ≤ ((5 : Int32)).toNatClampNeg) := inb_of So43 ⟨by decide, by decide⟩
  obtain ⟨T44, h44, X44, e44, W44, st44⟩ := stR X40 hx hZ e40 Aro43 (j := (5 : Int32)) hin44 rfl (Sto.ofV Aro43 qo43 O2 (Ins.self ((((((Ex_5.ext E2).wr W9).wr W16).wr W23).wr W30).wr W37))) (g := (mkF m 40 #[iv p1, iv p2, iv p3, iv p4, un, un, un, un, un, un, un, un, un, un, un, un, un] [(.ref x_5), (.int (5 : Int32)), (.ref b2), (.ref b2)])) rfl rfl (hb hby at_40)
  have V44 : Arv Z h44 b2 k2 (.object "com/example/rideau/rideau/internal/HeldText$Piece") (7 : Int32) [(.ref x_0), (.ref x_1), (.ref x_2), (.ref x_3), (.ref x_4), (.ref x_5), .null] .null := Arv.set Aro43 qo43 So43 Mo43 Ho43 Go43 rfl W44 5 rfl (Nat.le_of_ble_eq_true rfl)
  have P45 : Rch p e below (s₁.setTop (entryFrame m #[(.int p1), (.int p2), (.int p3), (.int p4)] maxLocals)) (T44.setTop (mkF m 41 #[iv p1, iv p2, iv p3, iv p4, un, un, un, un, un, un, un, un, un, un, un, un, un] [(.ref b2)])) := fun t k => P42 t (st44 t k)
  have N44 := Fr.snoc X44 N37 g_b2
  have P46 : Rch p e below (s₁.setTop (entryFrame m #[(.int p1), (.int p2), (.int p3), (.int p4)] maxLocals)) (T44.setTop (mkF m 44 #[iv p1, iv p2, iv p3, iv p4, un, un, un, un, un, un, un, un, un, un, un, un, un] [(.int (6 : Int32)), (.ref b2), (.ref b2)])) := fun t k => P45 t (by
    show Steps p.tables e below (T44.setTop (mkF m 41 #[iv p1, iv p2, iv p3, iv p4, un, un, un, un, un, un, un, un, un, un, un, un, un] [(.ref b2)])) t
    refine XS.dup X44.here hx rfl (hb hby at_41) rfl rfl ?_
    refine XS.bipush X44.here hx rfl (hb hby at_42) ?_
    exact k)
  have f48 : Old Z n0 h44 := (f41.wr W44 g_b2)
  obtain ⟨T47, X47, e47, st47⟩ := getS2 X44 hx hZ hown (host := "") (Or.inl (hw _ (List.mem_of_getElem? (i := 16) rfl))) Via.refl e44 (S_6.ext f48.2) (g := (mkF m 44 #[iv p1, iv p2, iv p3, iv p4, un, un, un, un, un, un, un, un, un, un, un, un, un] [(.int (6 : Int32)), (.ref b2), (.ref b2)])) rfl (hb hby at_44)
  have P49 : Rch p e below (s₁.setTop (entryFrame m #[(.int p1), (.int p2), (.int p3), (.int p4)] maxLocals)) (T47.setTop (mkF m 47 #[iv p1, iv p2, iv p3, iv p4, un, un, un, un, un, un, un, un, un, un, un, un, un] [(.ref x_6), (.int (6 : Int32)), (.ref b2), (.ref b2)])) := fun t k => P46 t (st47 t k)
  have V_o50 := V44
  obtain ⟨co50, Aro50, qo50, So50, Mo50, Ho50, Go50⟩ := V_o50
  have hin51 : ¬ ((6 : Int32) < 0 ∨ co50.slots.size ≤ ((6 : Int32)).toNatClampNeg) := inb_of So50 ⟨by decide, by decide⟩
  have f52 : Exa Z h44 x_6 "com/example/rideau/rideau/internal/HeldText$Piece" := (((((((Ex_6.ext E2).wr W9).wr W16).wr W23).wr W30).wr W37).wr W44)
  obtain ⟨T51, h51, X51, e51, W51, st51⟩ := stR X47 hx hZ e47 Aro50 (j := (6 : Int32)) hin51 rfl (Sto.ofV Aro50 qo50 O2 (Ins.self f52)) (g := (mkF m 47 #[iv p1, iv p2, iv p3, iv p4, un, un, un, un, un, un, un, un, un, un, un, un, un] [(.ref x_6), (.int (6 : Int32)), (.ref b2), (.ref b2)])) rfl rfl (hb hby at_47)
  have V51 : Arv Z h51 b2 k2 (.object "com/example/rideau/rideau/internal/HeldText$Piece") (7 : Int32) [(.ref x_0), (.ref x_1), (.ref x_2), (.ref x_3), (.ref x_4), (.ref x_5), (.ref x_6)] .null := Arv.set Aro50 qo50 So50 Mo50 Ho50 Go50 rfl W51 6 rfl (Nat.le_of_ble_eq_true rfl)
  have P53 : Rch p e below (s₁.setTop (entryFrame m #[(.int p1), (.int p2), (.int p3), (.int p4)] maxLocals)) (T51.setTop (mkF m 48 #[iv p1, iv p2, iv p3, iv p4, un, un, un, un, un, un, un, un, un, un, un, un, un] [(.ref b2)])) := fun t k => P49 t (st51 t k)
  have N51 := Fr.snoc X51 N44 g_b2
  obtain ⟨x54, hx54⟩ : ∃ z : Int32, z = ((p2 &&& (2147483647 : Int32)) % (7 : Int32)) := ⟨_, rfl⟩
  have P55 : Rch p e below (s₁.setTop (entryFrame m #[(.int p1), (.int p2), (.int p3), (.int p4)] maxLocals)) (T51.setTop (mkF m 59 #[iv p1, iv p2, iv p3, iv p4, rv b2, un, un, un, un, un, un, un, un, un, un, un, un] [(.int x54), (.ref b2)])) := fun t k => P53 t (by
    subst hx54
    show Steps p.tables e below (T51.setTop (mkF m 48 #[iv p1, iv p2, iv p3, iv p4, un, un, un, un, un, un, un, un, un, un, un, un, un] [(.ref b2)])) t
    refine XS.astore X51.here hx rfl (hb hby at_48) rfl rfl (l' := #[iv p1, iv p2, iv p3, iv p4, rv b2, un, un, un, un, un, un, un, un, un, un, un, un]) rfl ?_
    refine XS.aload X51.here hx rfl (hb hby at_50) rfl rfl ?_
    refine XS.iloadN X51.here hx rfl (hb hby at_52) rfl ?_
    show Steps p.tables e below (T51.setTop (mkF m 53 #[iv p1, iv p2, iv p3, iv p4, rv b2, un, un, un, un, un, un, un, un, un, un, un, un] [(.int p2), (.ref b2)])) t
    refine X51.ldcInt hx hown (mvT hZ (hw _ (List.mem_of_getElem? (i := 18) rfl))) (g := (mkF m 53 #[iv p1, iv p2, iv p3, iv p4, rv b2, un, un, un, un, un, un, un, un, un, un, un, un] [(.int p2), (.ref b2)])) rfl (hb hby at_53) _ ?_
    refine XS.iand X51.here hx rfl (hb hby at_55) rfl ?_
    refine XS.bipush X51.here hx rfl (hb hby at_56) ?_
    refine iremM X51 hx rfl (hb hby at_58) rfl (by decide) ?_
    exact k)
  obtain ⟨T56, L56, h56, pP_56, X56, e56, N56, Z56, K56, Ep_56, P56⟩ : ∃ (T56 : State) (L56 : List Loc) (h56 : Heap) (pP_56 : Addr), Stand p l e room_1 s m #[(.int p1), (.int p2), (.int p3), (.int p4)] below meth c T56 L56 1 7 ∧ T56.heap = h56 ∧ Fr n0 L56 ∧ n0 ≤ h56.size ∧ Keep h51 h56 [] ∧ (Exa Z h56 pP_56 "com/example/rideau/rideau/internal/HeldText$Piece") ∧ Rch p e below (s₁.setTop (entryFrame m #[(.int p1), (.int p2), (.int p3), (.int p4)] maxLocals)) (T56.setTop (mkF m 60 #[iv p1, iv p2, iv p3, iv p4, rv b2, un, un, un, un, un, un, un, un, un, un, un, un] [(.ref pP_56)])) := by
    rcases own_seven p2 with hs | hs | hs | hs | hs | hs | hs
    · have hi_ : x54 = (0 : Int32) := hx54.trans hs
      have P57 : Rch p e below (s₁.setTop (entryFrame m #[(.int p1), (.int p2), (.int p3), (.int p4)] maxLocals)) (T51.setTop (mkF m 59 #[iv p1, iv p2, iv p3, iv p4, rv b2, un, un, un, un, un, un, un, un, un, un, un, un] [(.int (0 : Int32)), (.ref b2)])) := by have q_ := P55; rw [hi_] at q_; exact q_
      have V_o58 := V51
      obtain ⟨co58, Aro58, qo58, So58, Mo58, Ho58, Go58⟩ := V_o58
      have hin59 : ¬ ((0 : Int32) < 0 ∨ co58.slots.size ≤ ((0 : Int32)).toNatClampNeg) := inb_of So58 ⟨by decide, by decide⟩
      have hat59 : co58.slots[((0 : Int32)).toNatClampNeg]? = some (.ref x_0) := Has.at Ho58 hin59 rfl
      have P60 : Rch p e below (s₁.setTop (entryFrame m #[(.int p1), (.int p2), (.int p3), (.int p4)] maxLocals)) (T51.setTop (mkF m 60 #[iv p1, iv p2, iv p3, iv p4, rv b2, un, un, un, un, un, un, un, un, un, un, un, un] [(.ref x_0)])) := fun t k => P57 t (X51.aaload hx (j := (0 : Int32)) (v := (.ref x_0)) (by rw [e51]; exact Aro58.1) (State.isArrayOf_alike hZ.alike Aro58.2.1) rfl Aro58.2.2 hin59 hat59 (g := (mkF m 59 #[iv p1, iv p2, iv p3, iv p4, rv b2, un, un, un, un, un, un, un, un, un, un, un, un] [(.int (0 : Int32)), (.ref b2)])) rfl rfl (hb hby at_59) t k)
      have f61 : Exa Z h51 x_0 "com/example/rideau/rideau/internal/HeldText$Piece" := ((((((((Ex_0.ext E2).wr W9).wr W16).wr W23).wr W30).wr W37).wr W44).wr W51)
      have f62 : n0 ≤ h51.size := (Nat.le_trans (Nat.le_trans (Nat.le_trans (Nat.le_trans (Nat.le_trans (Nat.le_trans (Nat.le_trans (Nat.le_trans Z0 E2.1) (Keep.of_wr W9).1) (Keep.of_wr W16).1) (Keep.of_wr W23).1) (Keep.of_wr W30).1) (Keep.of_wr W37).1) (Keep.of_wr W44).1) (Keep.of_wr W51).1)
      exact ⟨T51, _, h51, x_0, X51, e51, N51, f62, (Keep.refl h51 []), f61, P60⟩
    · have hi_ : x54 = (1 : Int32) := hx54.trans hs
      have P63 : Rch p e below (s₁.setTop (entryFrame m #[(.int p1), (.int p2), (.int p3), (.int p4)] maxLocals)) (T51.setTop (mkF m 59 #[iv p1, iv p2, iv p3, iv p4, rv b2, un, un, un, un, un, un, un, un, un, un, un, un] [(.int (1 : Int32)), (.ref b2)])) := by have q_ := P55; rw [hi_] at q_; exact q_
      have V_o64 := V51
      obtain ⟨co64, Aro64, qo64, So64, Mo64, Ho64, Go64⟩ := V_o64
      have hin65 : ¬ ((1 : Int32) < 0 ∨ co64.slots.size ≤ ((1 : Int32)).toNatClampNeg) := inb_of So64 ⟨by decide, by decide⟩
      have hat65 : co64.slots[((1 : Int32)).toNatClampNeg]? = some (.ref x_1) := Has.at Ho64 hin65 rfl
      have P66 : Rch p e below (s₁.setTop (entryFrame m #[(.int p1), (.int p2), (.int p3), (.int p4)] maxLocals)) (T51.setTop (mkF m 60 #[iv p1, iv p2, iv p3, iv p4, rv b2, un, un, un, un, un, un, un, un, un, un, un, un] [(.ref x_1)])) := fun t k => P63 t (X51.aaload hx (j := (1 : Int32)) (v := (.ref x_1)) (by rw [e51]; exact Aro64.1) (State.isArrayOf_alike hZ.alike Aro64.2.1) rfl Aro64.2.2 hin65 hat65 (g := (mkF m 59 #[iv p1, iv p2, iv p3, iv p4, rv b2, un, un, un, un, un, un, un, un, un, un, un, un] [(.int (1 : Int32)), (.ref b2)])) rfl rfl (hb hby at_59) t k)
      have f67 : Exa Z h51 x_1 "com/example/rideau/rideau/internal/HeldText$Piece" := ((((((((Ex_1.ext E2).wr W9).wr W16).wr W23).wr W30).wr W37).wr W44).wr W51)
      have f68 : n0 ≤ h51.size := (Nat.le_trans (Nat.le_trans (Nat.le_trans (Nat.le_trans (Nat.le_trans (Nat.le_trans (Nat.le_trans (Nat.le_trans Z0 E2.1) (Keep.of_wr W9).1) (Keep.of_wr W16).1) (Keep.of_wr W23).1) (Keep.of_wr W30).1) (Keep.of_wr W37).1) (Keep.of_wr W44).1) (Keep.of_wr W51).1)
      exact ⟨T51, _, h51, x_1, X51, e51, N51, f68, (Keep.refl h51 []), f67, P66⟩
    · have hi_ : x54 = (2 : Int32) := hx54.trans hs
      have P69 : Rch p e below (s₁.setTop (entryFrame m #[(.int p1), (.int p2), (.int p3), (.int p4)] maxLocals)) (T51.setTop (mkF m 59 #[iv p1, iv p2, iv p3, iv p4, rv b2, un, un, un, un, un, un, un, un, un, un, un, un] [(.int (2 : Int32)), (.ref b2)])) := by have q_ := P55; rw [hi_] at q_; exact q_
      have V_o70 := V51
      obtain ⟨co70, Aro70, qo70, So70, Mo70, Ho70, Go70⟩ := V_o70
      have hin71 : ¬ ((2 : Int32) < 0 ∨ co70.slots.size ≤ ((2 : Int32)).toNatClampNeg) := inb_of So70 ⟨by decide, by decide⟩
      have hat71 : co70.slots[((2 : Int32)).toNatClampNeg]? = some (.ref x_2) := Has.at Ho70 hin71 rfl
      have P72 : Rch p e below (s₁.setTop (entryFrame m #[(.int p1), (.int p2), (.int p3), (.int p4)] maxLocals)) (T51.setTop (mkF m 60 #[iv p1, iv p2, iv p3, iv p4, rv b2, un, un, un, un, un, un, un, un, un, un, un, un] [(.ref x_2)])) := fun t k => P69 t (X51.aaload hx (j := (2 : Int32)) (v := (.ref x_2)) (by rw [e51]; exact Aro70.1) (State.isArrayOf_alike hZ.alike Aro70.2.1) rfl Aro70.2.2 hin71 hat71 (g := (mkF m 59 #[iv p1, iv p2, iv p3, iv p4, rv b2, un, un, un, un, un, un, un, un, un, un, un, un] [(.int (2 : Int32)), (.ref b2)])) rfl rfl (hb hby at_59) t k)
      have f73 : Exa Z h51 x_2 "com/example/rideau/rideau/internal/HeldText$Piece" := ((((((((Ex_2.ext E2).wr W9).wr W16).wr W23).wr W30).wr W37).wr W44).wr W51)
      have f74 : n0 ≤ h51.size := (Nat.le_trans (Nat.le_trans (Nat.le_trans (Nat.le_trans (Nat.le_trans (Nat.le_trans (Nat.le_trans (Nat.le_trans Z0 E2.1) (Keep.of_wr W9).1) (Keep.of_wr W16).1) (Keep.of_wr W23).1) (Keep.of_wr W30).1) (Keep.of_wr W37).1) (Keep.of_wr W44).1) (Keep.of_wr W51).1)
      exact ⟨T51, _, h51, x_2, X51, e51, N51, f74, (Keep.refl h51 []), f73, P72⟩
    · have hi_ : x54 = (3 : Int32) := hx54.trans hs
      have P75 : Rch p e below (s₁.setTop (entryFrame m #[(.int p1), (.int p2), (.int p3), (.int p4)] maxLocals)) (T51.setTop (mkF m 59 #[iv p1, iv p2, iv p3, iv p4, rv b2, un, un, un, un, un, un, un, un, un, un, un, un] [(.int (3 : Int32)), (.ref b2)])) := by have q_ := P55; rw [hi_] at q_; exact q_
      have V_o76 := V51
      obtain ⟨co76, Aro76, qo76, So76, Mo76, Ho76, Go76⟩ := V_o76
      have hin77 : ¬ ((3 : Int32) < 0 ∨ co76.slots.size ≤ ((3 : Int32)).toNatClampNeg) := inb_of So76 ⟨by decide, by decide⟩
      have hat77 : co76.slots[((3 : Int32)).toNatClampNeg]? = some (.ref x_3) := Has.at Ho76 hin77 rfl
      have P78 : Rch p e below (s₁.setTop (entryFrame m #[(.int p1), (.int p2), (.int p3), (.int p4)] maxLocals)) (T51.setTop (mkF m 60 #[iv p1, iv p2, iv p3, iv p4, rv b2, un, un, un, un, un, un, un, un, un, un, un, un] [(.ref x_3)])) := fun t k => P75 t (X51.aaload hx (j := (3 : Int32)) (v := (.ref x_3)) (by rw [e51]; exact Aro76.1) (State.isArrayOf_alike hZ.alike Aro76.2.1) rfl Aro76.2.2 hin77 hat77 (g := (mkF m 59 #[iv p1, iv p2, iv p3, iv p4, rv b2, un, un, un, un, un, un, un, un, un, un, un, un] [(.int (3 : Int32)), (.ref b2)])) rfl rfl (hb hby at_59) t k)
      have f79 : Exa Z h51 x_3 "com/example/rideau/rideau/internal/HeldText$Piece" := ((((((((Ex_3.ext E2).wr W9).wr W16).wr W23).wr W30).wr W37).wr W44).wr W51)
      have f80 : n0 ≤ h51.size := (Nat.le_trans (Nat.le_trans (Nat.le_trans (Nat.le_trans (Nat.le_trans (Nat.le_trans (Nat.le_trans (Nat.le_trans Z0 E2.1) (Keep.of_wr W9).1) (Keep.of_wr W16).1) (Keep.of_wr W23).1) (Keep.of_wr W30).1) (Keep.of_wr W37).1) (Keep.of_wr W44).1) (Keep.of_wr W51).1)
      exact ⟨T51, _, h51, x_3, X51, e51, N51, f80, (Keep.refl h51 []), f79, P78⟩
    · have hi_ : x54 = (4 : Int32) := hx54.trans hs
      have P81 : Rch p e below (s₁.setTop (entryFrame m #[(.int p1), (.int p2), (.int p3), (.int p4)] maxLocals)) (T51.setTop (mkF m 59 #[iv p1, iv p2, iv p3, iv p4, rv b2, un, un, un, un, un, un, un, un, un, un, un, un] [(.int (4 : Int32)), (.ref b2)])) := by have q_ := P55; rw [hi_] at q_; exact q_
      have V_o82 := V51
      obtain ⟨co82, Aro82, qo82, So82, Mo82, Ho82, Go82⟩ := V_o82
      have hin83 : ¬ ((4 : Int32) < 0 ∨ co82.slots.size ≤ ((4 : Int32)).toNatClampNeg) := inb_of So82 ⟨by decide, by decide⟩
      have hat83 : co82.slots[((4 : Int32)).toNatClampNeg]? = some (.ref x_4) := Has.at Ho82 hin83 rfl
      have P84 : Rch p e below (s₁.setTop (entryFrame m #[(.int p1), (.int p2), (.int p3), (.int p4)] maxLocals)) (T51.setTop (mkF m 60 #[iv p1, iv p2, iv p3, iv p4, rv b2, un, un, un, un, un, un, un, un, un, un, un, un] [(.ref x_4)])) := fun t k => P81 t (X51.aaload hx (j := (4 : Int32)) (v := (.ref x_4)) (by rw [e51]; exact Aro82.1) (State.isArrayOf_alike hZ.alike Aro82.2.1) rfl Aro82.2.2 hin83 hat83 (g := (mkF m 59 #[iv p1, iv p2, iv p3, iv p4, rv b2, un, un, un, un, un, un, un, un, un, un, un, un] [(.int (4 : Int32)), (.ref b2)])) rfl rfl (hb hby at_59) t k)
      have f85 : Exa Z h51 x_4 "com/example/rideau/rideau/internal/HeldText$Piece" := ((((((((Ex_4.ext E2).wr W9).wr W16).wr W23).wr W30).wr W37).wr W44).wr W51)
      have f86 : n0 ≤ h51.size := (Nat.le_trans (Nat.le_trans (Nat.le_trans (Nat.le_trans (Nat.le_trans (Nat.le_trans (Nat.le_trans (Nat.le_trans Z0 E2.1) (Keep.of_wr W9).1) (Keep.of_wr W16).1) (Keep.of_wr W23).1) (Keep.of_wr W30).1) (Keep.of_wr W37).1) (Keep.of_wr W44).1) (Keep.of_wr W51).1)
      exact ⟨T51, _, h51, x_4, X51, e51, N51, f86, (Keep.refl h51 []), f85, P84⟩
    · have hi_ : x54 = (5 : Int32) := hx54.trans hs
      have P87 : Rch p e below (s₁.setTop (entryFrame m #[(.int p1), (.int p2), (.int p3), (.int p4)] maxLocals)) (T51.setTop (mkF m 59 #[iv p1, iv p2, iv p3, iv p4, rv b2, un, un, un, un, un, un, un, un, un, un, un, un] [(.int (5 : Int32)), (.ref b2)])) := by have q_ := P55; rw [hi_] at q_; exact q_
      have V_o88 := V51
      obtain ⟨co88, Aro88, qo88, So88, Mo88, Ho88, Go88⟩ := V_o88
      have hin89 : ¬ ((5 : Int32) < 0 ∨ co88.slots.size ≤ ((5 : Int32)).toNatClampNeg) := inb_of So88 ⟨by decide, by decide⟩
      have hat89 : co88.slots[((5 : Int32)).toNatClampNeg]? = some (.ref x_5) := Has.at Ho88 hin89 rfl
      have P90 : Rch p e below (s₁.setTop (entryFrame m #[(.int p1), (.int p2), (.int p3), (.int p4)] maxLocals)) (T51.setTop (mkF m 60 #[iv p1, iv p2, iv p3, iv p4, rv b2, un, un, un, un, un, un, un, un, un, un, un, un] [(.ref x_5)])) := fun t k => P87 t (X51.aaload hx (j := (5 : Int32)) (v := (.ref x_5)) (by rw [e51]; exact Aro88.1) (State.isArrayOf_alike hZ.alike Aro88.2.1) rfl Aro88.2.2 hin89 hat89 (g := (mkF m 59 #[iv p1, iv p2, iv p3, iv p4, rv b2, un, un, un, un, un, un, un, un, un, un, un, un] [(.int (5 : Int32)), (.ref b2)])) rfl rfl (hb hby at_59) t k)
      have f91 : Exa Z h51 x_5 "com/example/rideau/rideau/internal/HeldText$Piece" := ((((((((Ex_5.ext E2).wr W9).wr W16).wr W23).wr W30).wr W37).wr W44).wr W51)
      have f92 : n0 ≤ h51.size := (Nat.le_trans (Nat.le_trans (Nat.le_trans (Nat.le_trans (Nat.le_trans (Nat.le_trans (Nat.le_trans (Nat.le_trans Z0 E2.1) (Keep.of_wr W9).1) (Keep.of_wr W16).1) (Keep.of_wr W23).1) (Keep.of_wr W30).1) (Keep.of_wr W37).1) (Keep.of_wr W44).1) (Keep.of_wr W51).1)
      exact ⟨T51, _, h51, x_5, X51, e51, N51, f92, (Keep.refl h51 []), f91, P90⟩
    · have hi_ : x54 = (6 : Int32) := hx54.trans hs
      have P93 : Rch p e below (s₁.setTop (entryFrame m #[(.int p1), (.int p2), (.int p3), (.int p4)] maxLocals)) (T51.setTop (mkF m 59 #[iv p1, iv p2, iv p3, iv p4, rv b2, un, un, un, un, un, un, un, un, un, un, un, un] [(.int (6 : Int32)), (.ref b2)])) := by have q_ := P55; rw [hi_] at q_; exact q_
      have V_o94 := V51
      obtain ⟨co94, Aro94, qo94, So94, Mo94, Ho94, Go94⟩ := V_o94
      have hin95 : ¬ ((6 : Int32) < 0 ∨ co94.slots.size ≤ ((6 : Int32)).toNatClampNeg) := inb_of So94 ⟨by decide, by decide⟩
      have hat95 : co94.slots[((6 : Int32)).toNatClampNeg]? = some (.ref x_6) := Has.at Ho94 hin95 rfl
      have P96 : Rch p e below (s₁.setTop (entryFrame m #[(.int p1), (.int p2), (.int p3), (.int p4)] maxLocals)) (T51.setTop (mkF m 60 #[iv p1, iv p2, iv p3, iv p4, rv b2, un, un, un, un, un, un, un, un, un, un, un, un] [(.ref x_6)])) := fun t k => P93 t (X51.aaload hx (j := (6 : Int32)) (v := (.ref x_6)) (by rw [e51]; exact Aro94.1) (State.isArrayOf_alike hZ.alike Aro94.2.1) rfl Aro94.2.2 hin95 hat95 (g := (mkF m 59 #[iv p1, iv p2, iv p3, iv p4, rv b2, un, un, un, un, un, un, un, un, un, un, un, un] [(.int (6 : Int32)), (.ref b2)])) rfl rfl (hb hby at_59) t k)
      have f97 : n0 ≤ h51.size := (Nat.le_trans (Nat.le_trans (Nat.le_trans (Nat.le_trans (Nat.le_trans (Nat.le_trans (Nat.le_trans (Nat.le_trans Z0 E2.1) (Keep.of_wr W9).1) (Keep.of_wr W16).1) (Keep.of_wr W23).1) (Keep.of_wr W30).1) (Keep.of_wr W37).1) (Keep.of_wr W44).1) (Keep.of_wr W51).1)
      exact ⟨T51, _, h51, x_6, X51, e51, N51, f97, (Keep.refl h51 []), (f52.wr W51), P96⟩
  obtain ⟨x98, hx98⟩ : ∃ z : Int32, z = ((p3 &&& (2147483647 : Int32)) % (7 : Int32)) := ⟨_, rfl⟩
  have P99 : Rch p e below (s₁.setTop (entryFrame m #[(.int p1), (.int p2), (.int p3), (.int p4)] maxLocals)) (T56.setTop (mkF m 71 #[iv p1, iv p2, iv p3, iv p4, rv b2, rv pP_56, un, un, un, un, un, un, un, un, un, un, un] [(.int x98), (.ref b2)])) := fun t k => P56 t (by
    subst hx98
    show Steps p.tables e below (T56.setTop (mkF m 60 #[iv p1, iv p2, iv p3, iv p4, rv b2, un, un, un, un, un, un, un, un, un, un, un, un] [(.ref pP_56)])) t
    refine XS.astore X56.here hx rfl (hb hby at_60) rfl rfl (l' := #[iv p1, iv p2, iv p3, iv p4, rv b2, rv pP_56, un, un, un, un, un, un, un, un, un, un, un]) rfl ?_
    refine XS.aload X56.here hx rfl (hb hby at_62) rfl rfl ?_
    refine XS.iloadN X56.here hx rfl (hb hby at_64) rfl ?_
    show Steps p.tables e below (T56.setTop (mkF m 65 #[iv p1, iv p2, iv p3, iv p4, rv b2, rv pP_56, un, un, un, un, un, un, un, un, un, un, un] [(.int p3), (.ref b2)])) t
    refine X56.ldcInt hx hown (mvT hZ (hw _ (List.mem_of_getElem? (i := 18) rfl))) (g := (mkF m 65 #[iv p1, iv p2, iv p3, iv p4, rv b2, rv pP_56, un, un, un, un, un, un, un, un, un, un, un] [(.int p3), (.ref b2)])) rfl (hb hby at_65) _ ?_
    refine XS.iand X56.here hx rfl (hb hby at_67) rfl ?_
    refine XS.bipush X56.here hx rfl (hb hby at_68) ?_
    refine iremM X56 hx rfl (hb hby at_70) rfl (by decide) ?_
    exact k)
  obtain ⟨T100, L100, h100, pP_100, X100, e100, N100, Z100, K100, Ep_100, P100⟩ : ∃ (T100 : State) (L100 : List Loc) (h100 : Heap) (pP_100 : Addr), Stand p l e room_1 s m #[(.int p1), (.int p2), (.int p3), (.int p4)] below meth c T100 L100 1 7 ∧ T100.heap = h100 ∧ Fr n0 L100 ∧ n0 ≤ h100.size ∧ Keep h56 h100 [] ∧ (Exa Z h100 pP_100 "com/example/rideau/rideau/internal/HeldText$Piece") ∧ Rch p e below (s₁.setTop (entryFrame m #[(.int p1), (.int p2), (.int p3), (.int p4)] maxLocals)) (T100.setTop (mkF m 72 #[iv p1, iv p2, iv p3, iv p4, rv b2, rv pP_56, un, un, un, un, un, un, un, un, un, un, un] [(.ref pP_100)])) := by
    rcases own_seven p3 with hs | hs | hs | hs | hs | hs | hs
    · have hi_ : x98 = (0 : Int32) := hx98.trans hs
      have P101 : Rch p e below (s₁.setTop (entryFrame m #[(.int p1), (.int p2), (.int p3), (.int p4)] maxLocals)) (T56.setTop (mkF m 71 #[iv p1, iv p2, iv p3, iv p4, rv b2, rv pP_56, un, un, un, un, un, un, un, un, un, un, un] [(.int (0 : Int32)), (.ref b2)])) := by have q_ := P99; rw [hi_] at q_; exact q_
      have V_o102 := (V51.keep K56 nin0)
      obtain ⟨co102, Aro102, qo102, So102, Mo102, Ho102, Go102⟩ := V_o102
      have hin103 : ¬ ((0 : Int32) < 0 ∨ co102.slots.size ≤ ((0 : Int32)).toNatClampNeg) := inb_of So102 ⟨by decide, by decide⟩
      have hat103 : co102.slots[((0 : Int32)).toNatClampNeg]? = some (.ref x_0) := Has.at Ho102 hin103 rfl
      have P104 : Rch p e below (s₁.setTop (entryFrame m #[(.int p1), (.int p2), (.int p3), (.int p4)] maxLocals)) (T56.setTop (mkF m 72 #[iv p1, iv p2, iv p3, iv p4, rv b2, rv pP_56, un, un, un, un, un, un, un, un, un, un, un] [(.ref x_0)])) := fun t k => P101 t (X56.aaload hx (j := (0 : Int32)) (v := (.ref x_0)) (by rw [e56]; exact Aro102.1) (State.isArrayOf_alike hZ.alike Aro102.2.1) rfl Aro102.2.2 hin103 hat103 (g := (mkF m 71 #[iv p1, iv p2, iv p3, iv p4, rv b2, rv pP_56, un, un, un, un, un, un, un, un, un, un, un] [(.int (0 : Int32)), (.ref b2)])) rfl rfl (hb hby at_71) t k)
      have f105 : Exa Z h56 x_0 "com/example/rideau/rideau/internal/HeldText$Piece" := (((((((((Ex_0.ext E2).wr W9).wr W16).wr W23).wr W30).wr W37).wr W44).wr W51).keep K56)
      exact ⟨T56, _, h56, x_0, X56, e56, N56, Z56, (Keep.refl h56 []), f105, P104⟩
    · have hi_ : x98 = (1 : Int32) := hx98.trans hs
      have P106 : Rch p e below (s₁.setTop (entryFrame m #[(.int p1), (.int p2), (.int p3), (.int p4)] maxLocals)) (T56.setTop (mkF m 71 #[iv p1, iv p2, iv p3, iv p4, rv b2, rv pP_56, un, un, un, un, un, un, un, un, un, un, un] [(.int (1 : Int32)), (.ref b2)])) := by have q_ := P99; rw [hi_] at q_; exact q_
      have V_o107 := (V51.keep K56 nin0)
      obtain ⟨co107, Aro107, qo107, So107, Mo107, Ho107, Go107⟩ := V_o107
      have hin108 : ¬ ((1 : Int32) < 0 ∨ co107.slots.size ≤ ((1 : Int32)).toNatClampNeg) := inb_of So107 ⟨by decide, by decide⟩
      have hat108 : co107.slots[((1 : Int32)).toNatClampNeg]? = some (.ref x_1) := Has.at Ho107 hin108 rfl
      have P109 : Rch p e below (s₁.setTop (entryFrame m #[(.int p1), (.int p2), (.int p3), (.int p4)] maxLocals)) (T56.setTop (mkF m 72 #[iv p1, iv p2, iv p3, iv p4, rv b2, rv pP_56, un, un, un, un, un, un, un, un, un, un, un] [(.ref x_1)])) := fun t k => P106 t (X56.aaload hx (j := (1 : Int32)) (v := (.ref x_1)) (by rw [e56]; exact Aro107.1) (State.isArrayOf_alike hZ.alike Aro107.2.1) rfl Aro107.2.2 hin108 hat108 (g := (mkF m 71 #[iv p1, iv p2, iv p3, iv p4, rv b2, rv pP_56, un, un, un, un, un, un, un, un, un, un, un] [(.int (1 : Int32)), (.ref b2)])) rfl rfl (hb hby at_71) t k)
      have f110 : Exa Z h56 x_1 "com/example/rideau/rideau/internal/HeldText$Piece" := (((((((((Ex_1.ext E2).wr W9).wr W16).wr W23).wr W30).wr W37).wr W44).wr W51).keep K56)
      exact ⟨T56, _, h56, x_1, X56, e56, N56, Z56, (Keep.refl h56 []), f110, P109⟩
    · have hi_ : x98 = (2 : Int32) := hx98.trans hs
      have P111 : Rch p e below (s₁.setTop (entryFrame m #[(.int p1), (.int p2), (.int p3), (.int p4)] maxLocals)) (T56.setTop (mkF m 71 #[iv p1, iv p2, iv p3, iv p4, rv b2, rv pP_56, un, un, un, un, un, un, un, un, un, un, un] [(.int (2 : Int32)), (.ref b2)])) := by have q_ := P99; rw [hi_] at q_; exact q_
      have V_o112 := (V51.keep K56 nin0)
      obtain ⟨co112, Aro112, qo112, So112, Mo112, Ho112, Go112⟩ := V_o112
      have hin113 : ¬ ((2 : Int32) < 0 ∨ co112.slots.size ≤ ((2 : Int32)).toNatClampNeg) := inb_of So112 ⟨by decide, by decide⟩
      have hat113 : co112.slots[((2 : Int32)).toNatClampNeg]? = some (.ref x_2) := Has.at Ho112 hin113 rfl
      have P114 : Rch p e below (s₁.setTop (entryFrame m #[(.int p1), (.int p2), (.int p3), (.int p4)] maxLocals)) (T56.setTop (mkF m 72 #[iv p1, iv p2, iv p3, iv p4, rv b2, rv pP_56, un, un, un, un, un, un, un, un, un, un, un] [(.ref x_2)])) := fun t k => P111 t (X56.aaload hx (j := (2 : Int32)) (v := (.ref x_2)) (by rw [e56]; exact Aro112.1) (State.isArrayOf_alike hZ.alike Aro112.2.1) rfl Aro112.2.2 hin113 hat113 (g := (mkF m 71 #[iv p1, iv p2, iv p3, iv p4, rv b2, rv pP_56, un, un, un, un, un, un, un, un, un, un, un] [(.int (2 : Int32)), (.ref b2)])) rfl rfl (hb hby at_71) t k)
      have f115 : Exa Z h56 x_2 "com/example/rideau/rideau/internal/HeldText$Piece" := (((((((((Ex_2.ext E2).wr W9).wr W16).wr W23).wr W30).wr W37).wr W44).wr W51).keep K56)
      exact ⟨T56, _, h56, x_2, X56, e56, N56, Z56, (Keep.refl h56 []), f115, P114⟩
    · have hi_ : x98 = (3 : Int32) := hx98.trans hs
      have P116 : Rch p e below (s₁.setTop (entryFrame m #[(.int p1), (.int p2), (.int p3), (.int p4)] maxLocals)) (T56.setTop (mkF m 71 #[iv p1, iv p2, iv p3, iv p4, rv b2, rv pP_56, un, un, un, un, un, un, un, un, un, un, un] [(.int (3 : Int32)), (.ref b2)])) := by have q_ := P99; rw [hi_] at q_; exact q_
      have V_o117 := (V51.keep K56 nin0)
      obtain ⟨co117, Aro117, qo117, So117, Mo117, Ho117, Go117⟩ := V_o117
      have hin118 : ¬ ((3 : Int32) < 0 ∨ co117.slots.size ≤ ((3 : Int32)).toNatClampNeg) := inb_of So117 ⟨by decide, by decide⟩
      have hat118 : co117.slots[((3 : Int32)).toNatClampNeg]? = some (.ref x_3) := Has.at Ho117 hin118 rfl
      have P119 : Rch p e below (s₁.setTop (entryFrame m #[(.int p1), (.int p2), (.int p3), (.int p4)] maxLocals)) (T56.setTop (mkF m 72 #[iv p1, iv p2, iv p3, iv p4, rv b2, rv pP_56, un, un, un, un, un, un, un, un, un, un, un] [(.ref x_3)])) := fun t k => P116 t (X56.aaload hx (j := (3 : Int32)) (v := (.ref x_3)) (by rw [e56]; exact Aro117.1) (State.isArrayOf_alike hZ.alike Aro117.2.1) rfl Aro117.2.2 hin118 hat118 (g := (mkF m 71 #[iv p1, iv p2, iv p3, iv p4, rv b2, rv pP_56, un, un, un, un, un, un, un, un, un, un, un] [(.int (3 : Int32)), (.ref b2)])) rfl rfl (hb hby at_71) t k)
      have f120 : Exa Z h56 x_3 "com/example/rideau/rideau/internal/HeldText$Piece" := (((((((((Ex_3.ext E2).wr W9).wr W16).wr W23).wr W30).wr W37).wr W44).wr W51).keep K56)
      exact ⟨T56, _, h56, x_3, X56, e56, N56, Z56, (Keep.refl h56 []), f120, P119⟩
    · have hi_ : x98 = (4 : Int32) := hx98.trans hs
      have P121 : Rch p e below (s₁.setTop (entryFrame m #[(.int p1), (.int p2), (.int p3), (.int p4)] maxLocals)) (T56.setTop (mkF m 71 #[iv p1, iv p2, iv p3, iv p4, rv b2, rv pP_56, un, un, un, un, un, un, un, un, un, un, un] [(.int (4 : Int32)), (.ref b2)])) := by have q_ := P99; rw [hi_] at q_; exact q_
      have V_o122 := (V51.keep K56 nin0)
      obtain ⟨co122, Aro122, qo122, So122, Mo122, Ho122, Go122⟩ := V_o122
      have hin123 : ¬ ((4 : Int32) < 0 ∨ co122.slots.size ≤ ((4 : Int32)).toNatClampNeg) := inb_of So122 ⟨by decide, by decide⟩
      have hat123 : co122.slots[((4 : Int32)).toNatClampNeg]? = some (.ref x_4) := Has.at Ho122 hin123 rfl
      have P124 : Rch p e below (s₁.setTop (entryFrame m #[(.int p1), (.int p2), (.int p3), (.int p4)] maxLocals)) (T56.setTop (mkF m 72 #[iv p1, iv p2, iv p3, iv p4, rv b2, rv pP_56, un, un, un, un, un, un, un, un, un, un, un] [(.ref x_4)])) := fun t k => P121 t (X56.aaload hx (j := (4 : Int32)) (v := (.ref x_4)) (by rw [e56]; exact Aro122.1) (State.isArrayOf_alike hZ.alike Aro122.2.1) rfl Aro122.2.2 hin123 hat123 (g := (mkF m 71 #[iv p1, iv p2, iv p3, iv p4, rv b2, rv pP_56, un, un, un, un, un, un, un, un, un, un, un] [(.int (4 : Int32)), (.ref b2)])) rfl rfl (hb hby at_71) t k)
      have f125 : Exa Z h56 x_4 "com/example/rideau/rideau/internal/HeldText$Piece" := (((((((((Ex_4.ext E2).wr W9).wr W16).wr W23).wr W30).wr W37).wr W44).wr W51).keep K56)
      exact ⟨T56, _, h56, x_4, X56, e56, N56, Z56, (Keep.refl h56 []), f125, P124⟩
    · have hi_ : x98 = (5 : Int32) := hx98.trans hs
      have P126 : Rch p e below (s₁.setTop (entryFrame m #[(.int p1), (.int p2), (.int p3), (.int p4)] maxLocals)) (T56.setTop (mkF m 71 #[iv p1, iv p2, iv p3, iv p4, rv b2, rv pP_56, un, un, un, un, un, un, un, un, un, un, un] [(.int (5 : Int32)), (.ref b2)])) := by have q_ := P99; rw [hi_] at q_; exact q_
      have V_o127 := (V51.keep K56 nin0)
      obtain ⟨co127, Aro127, qo127, So127, Mo127, Ho127, Go127⟩ := V_o127
      have hin128 : ¬ ((5 : Int32) < 0 ∨ co127.slots.size ≤ ((5 : Int32)).toNatClampNeg) := inb_of So127 ⟨by decide, by decide⟩
      have hat128 : co127.slots[((5 : Int32)).toNatClampNeg]? = some (.ref x_5) := Has.at Ho127 hin128 rfl
      have P129 : Rch p e below (s₁.setTop (entryFrame m #[(.int p1), (.int p2), (.int p3), (.int p4)] maxLocals)) (T56.setTop (mkF m 72 #[iv p1, iv p2, iv p3, iv p4, rv b2, rv pP_56, un, un, un, un, un, un, un, un, un, un, un] [(.ref x_5)])) := fun t k => P126 t (X56.aaload hx (j := (5 : Int32)) (v := (.ref x_5)) (by rw [e56]; exact Aro127.1) (State.isArrayOf_alike hZ.alike Aro127.2.1) rfl Aro127.2.2 hin128 hat128 (g := (mkF m 71 #[iv p1, iv p2, iv p3, iv p4, rv b2, rv pP_56, un, un, un, un, un, un, un, un, un, un, un] [(.int (5 : Int32)), (.ref b2)])) rfl rfl (hb hby at_71) t k)
      have f130 : Exa Z h56 x_5 "com/example/rideau/rideau/internal/HeldText$Piece" := (((((((((Ex_5.ext E2).wr W9).wr W16).wr W23).wr W30).wr W37).wr W44).wr W51).keep K56)
      exact ⟨T56, _, h56, x_5, X56, e56, N56, Z56, (Keep.refl h56 []), f130, P129⟩
    · have hi_ : x98 = (6 : Int32) := hx98.trans hs
      have P131 : Rch p e below (s₁.setTop (entryFrame m #[(.int p1), (.int p2), (.int p3), (.int p4)] maxLocals)) (T56.setTop (mkF m 71 #[iv p1, iv p2, iv p3, iv p4, rv b2, rv pP_56, un, un, un, un, un, un, un, un, un, un, un] [(.int (6 : Int32)), (.ref b2)])) := by have q_ := P99; rw [hi_] at q_; exact q_
      have V_o132 := (V51.keep K56 nin0)
      obtain ⟨co132, Aro132, qo132, So132, Mo132, Ho132, Go132⟩ := V_o132
      have hin133 : ¬ ((6 : Int32) < 0 ∨ co132.slots.size ≤ ((6 : Int32)).toNatClampNeg) := inb_of So132 ⟨by decide, by decide⟩
      have hat133 : co132.slots[((6 : Int32)).toNatClampNeg]? = some (.ref x_6) := Has.at Ho132 hin133 rfl
      have P134 : Rch p e below (s₁.setTop (entryFrame m #[(.int p1), (.int p2), (.int p3), (.int p4)] maxLocals)) (T56.setTop (mkF m 72 #[iv p1, iv p2, iv p3, iv p4, rv b2, rv pP_56, un, un, un, un, un, un, un, un, un, un, un] [(.ref x_6)])) := fun t k => P131 t (X56.aaload hx (j := (6 : Int32)) (v := (.ref x_6)) (by rw [e56]; exact Aro132.1) (State.isArrayOf_alike hZ.alike Aro132.2.1) rfl Aro132.2.2 hin133 hat133 (g := (mkF m 71 #[iv p1, iv p2, iv p3, iv p4, rv b2, rv pP_56, un, un, un, un, un, un, un, un, un, un, un] [(.int (6 : Int32)), (.ref b2)])) rfl rfl (hb hby at_71) t k)
      exact ⟨T56, _, h56, x_6, X56, e56, N56, Z56, (Keep.refl h56 []), ((f52.wr W51).keep K56), P134⟩
  have P135 : Rch p e below (s₁.setTop (entryFrame m #[(.int p1), (.int p2), (.int p3), (.int p4)] maxLocals)) (T100.setTop (mkF m 75 #[iv p1, iv p2, iv p3, iv p4, rv b2, rv pP_56, rv pP_100, un, un, un, un, un, un, un, un, un, un] [(.int (2 : Int32))])) := fun t k => P100 t (by
    show Steps p.tables e below (T100.setTop (mkF m 72 #[iv p1, iv p2, iv p3, iv p4, rv b2, rv pP_56, un, un, un, un, un, un, un, un, un, un, un] [(.ref pP_100)])) t
    refine XS.astore X100.here hx rfl (hb hby at_72) rfl rfl (l' := #[iv p1, iv p2, iv p3, iv p4, rv b2, rv pP_56, rv pP_100, un, un, un, un, un, un, un, un, un, un]) rfl ?_
    refine XS.iconst X100.here hx rfl (hb hby at_74) ?_
    exact k)
  have f137 : Exa Z h100 x_0 "com/example/rideau/rideau/internal/HeldText$Piece" := ((((((((((Ex_0.ext E2).wr W9).wr W16).wr W23).wr W30).wr W37).wr W44).wr W51).keep K56).keep K100)
  have f138 : Exa Z h100 x_1 "com/example/rideau/rideau/internal/HeldText$Piece" := ((((((((((Ex_1.ext E2).wr W9).wr W16).wr W23).wr W30).wr W37).wr W44).wr W51).keep K56).keep K100)
  have f139 : Exa Z h100 x_2 "com/example/rideau/rideau/internal/HeldText$Piece" := ((((((((((Ex_2.ext E2).wr W9).wr W16).wr W23).wr W30).wr W37).wr W44).wr W51).keep K56).keep K100)
  have f140 : Exa Z h100 x_3 "com/example/rideau/rideau/internal/HeldText$Piece" := ((((((((((Ex_3.ext E2).wr W9).wr W16).wr W23).wr W30).wr W37).wr W44).wr W51).keep K56).keep K100)
  have f141 : Exa Z h100 x_4 "com/example/rideau/rideau/internal/HeldText$Piece" := ((((((((((Ex_4.ext E2).wr W9).wr W16).wr W23).wr W30).wr W37).wr W44).wr W51).keep K56).keep K100)
  have f142 : Exa Z h100 x_5 "com/example/rideau/rideau/internal/HeldText$Piece" := ((((((((((Ex_5.ext E2).wr W9).wr W16).wr W23).wr W30).wr W37).wr W44).wr W51).keep K56).keep K100)
  have f143 : Keep h0 h100 [] := (((((((((((Keep.refl h0 []).ext E2).wr W9 (Or.inr sz_b2)).wr W16 (Or.inr sz_b2)).wr W23 (Or.inr sz_b2)).wr W30 (Or.inr sz_b2)).wr W37 (Or.inr sz_b2)).wr W44 (Or.inr sz_b2)).wr W51 (Or.inr sz_b2)).trans K56 all0).trans K100 all0)
  obtain ⟨T136, h136, k136, X136, e136, E136, A136, st136⟩ := newP X100 hx hZ (hw _ (List.mem_of_getElem? (i := 19) rfl)) e100 (g := (mkF m 75 #[iv p1, iv p2, iv p3, iv p4, rv b2, rv pP_56, rv pP_100, un, un, un, un, un, un, un, un, un, un] [(.int (2 : Int32))])) rfl (hb hby at_75) rfl (by decide) (cap := 2) (by decide) (by decide) (by decide) (by decide)
  obtain ⟨b136, g136⟩ : ∃ z, z = h100.size := ⟨_, rfl⟩
  rw [← g136] at A136 st136
  have g_b136 : n0 ≤ b136 := Nat.le_trans Z100 (Nat.le_of_eq g136.symm)
  have sz_b136 : h0.size ≤ b136 := Nat.le_trans f143.1 (Nat.le_of_eq g136.symm)
  have ne_x_0_b136 : x_0 ≠ b136 := Nat.ne_of_lt (Nat.lt_of_lt_of_le f137.lt (Nat.le_of_eq g136.symm))
  have ne_x_1_b136 : x_1 ≠ b136 := Nat.ne_of_lt (Nat.lt_of_lt_of_le f138.lt (Nat.le_of_eq g136.symm))
  have ne_x_2_b136 : x_2 ≠ b136 := Nat.ne_of_lt (Nat.lt_of_lt_of_le f139.lt (Nat.le_of_eq g136.symm))
  have ne_x_3_b136 : x_3 ≠ b136 := Nat.ne_of_lt (Nat.lt_of_lt_of_le f140.lt (Nat.le_of_eq g136.symm))
  have ne_x_4_b136 : x_4 ≠ b136 := Nat.ne_of_lt (Nat.lt_of_lt_of_le f141.lt (Nat.le_of_eq g136.symm))
  have ne_x_5_b136 : x_5 ≠ b136 := Nat.ne_of_lt (Nat.lt_of_lt_of_le f142.lt (Nat.le_of_eq g136.symm))
  have ne_x_6_b136 : x_6 ≠ b136 := Nat.ne_of_lt (Nat.lt_of_lt_of_le (((f52.wr W51).keep K56).keep K100).lt (Nat.le_of_eq g136.symm))
  have ne_b2_b136 : b2 ≠ b136 := Nat.ne_of_lt (Nat.lt_of_lt_of_le ((V51.keep K56 nin0).keep K100 nin0).lt (Nat.le_of_eq g136.symm))
  have ne_pP_56_b136 : pP_56 ≠ b136 := Nat.ne_of_lt (Nat.lt_of_lt_of_le (Ep_56.keep K100).lt (Nat.le_of_eq g136.symm))
  have ne_pP_100_b136 : pP_100 ≠ b136 := Nat.ne_of_lt (Nat.lt_of_lt_of_le Ep_100.lt (Nat.le_of_eq g136.symm))
  have V136 : Arv Z h136 b136 k136 .char (2 : Int32) [(.int (0 : Int32)), (.int (0 : Int32))] (.int (0 : Int32)) := (Arv.new A136 (by decide)).pad (pad_rep [] (.int (0 : Int32)) 2)
  have P144 : Rch p e below (s₁.setTop (entryFrame m #[(.int p1), (.int p2), (.int p3), (.int p4)] maxLocals)) (T136.setTop (mkF m 77 #[iv p1, iv p2, iv p3, iv p4, rv b2, rv pP_56, rv pP_100, un, un, un, un, un, un, un, un, un, un] [(.ref b136)])) := fun t k => P135 t (st136 t k)
  obtain ⟨x145, hx145⟩ : ∃ z : Int32, z = ((p4 &&& (255 : Int32)).toUInt32.toUInt16.toUInt32.toInt32) := ⟨_, rfl⟩
  have P146 : Rch p e below (s₁.setTop (entryFrame m #[(.int p1), (.int p2), (.int p3), (.int p4)] maxLocals)) (T136.setTop (mkF m 85 #[iv p1, iv p2, iv p3, iv p4, rv b2, rv pP_56, rv pP_100, un, un, un, un, un, un, un, un, un, un] [(.int x145), (.int (0 : Int32)), (.ref b136), (.ref b136)])) := fun t k => P144 t (by
    subst hx145
    show Steps p.tables e below (T136.setTop (mkF m 77 #[iv p1, iv p2, iv p3, iv p4, rv b2, rv pP_56, rv pP_100, un, un, un, un, un, un, un, un, un, un] [(.ref b136)])) t
    refine XS.dup X136.here hx rfl (hb hby at_77) rfl rfl ?_
    refine XS.iconst X136.here hx rfl (hb hby at_78) ?_
    refine XS.iloadN X136.here hx rfl (hb hby at_79) rfl ?_
    show Steps p.tables e below (T136.setTop (mkF m 80 #[iv p1, iv p2, iv p3, iv p4, rv b2, rv pP_56, rv pP_100, un, un, un, un, un, un, un, un, un, un] [(.int p4), (.int (0 : Int32)), (.ref b136), (.ref b136)])) t
    refine XS.sipush X136.here hx rfl (hb hby at_80) ?_
    refine XS.iand X136.here hx rfl (hb hby at_83) rfl ?_
    refine XS.i2c X136.here hx rfl (hb hby at_84) rfl ?_
    exact k)
  have V_o147 := V136
  obtain ⟨co147, Aro147, qo147, So147, Mo147, Ho147, Go147⟩ := V_o147
  have hin148 : ¬ ((0 : Int32) < 0 ∨ co147.slots.size ≤ ((0 : Int32)).toNatClampNeg) := inb_of So147 ⟨by decide, by decide⟩
  obtain ⟨T148, h148, X148, e148, W148, st148⟩ := stC X136 hx hZ e136 Aro147 (j := (0 : Int32)) hin148 (g := (mkF m 85 #[iv p1, iv p2, iv p3, iv p4, rv b2, rv pP_56, rv pP_100, un, un, un, un, un, un, un, un, un, un] [(.int x145), (.int (0 : Int32)), (.ref b136), (.ref b136)])) rfl rfl (hb hby at_85)
  have V148 : Arv Z h148 b136 k136 .char (2 : Int32) [(.int (nar .char x145)), (.int (0 : Int32))] (.int (0 : Int32)) := Arv.set Aro147 qo147 So147 Mo147 Ho147 Go147 (fits_nar_char _) W148 0 rfl (Nat.le_of_ble_eq_true rfl)
  have P149 : Rch p e below (s₁.setTop (entryFrame m #[(.int p1), (.int p2), (.int p3), (.int p4)] maxLocals)) (T148.setTop (mkF m 86 #[iv p1, iv p2, iv p3, iv p4, rv b2, rv pP_56, rv pP_100, un, un, un, un, un, un, un, un, un, un] [(.ref b136)])) := fun t k => P146 t (st148 t k)
  have N148 := Fr.snoc X148 N100 g_b136
  obtain ⟨x150, hx150⟩ : ∃ z : Int32, z = ((((p4.toUInt32 >>> ((8 : Int32) &&& 31).toUInt32).toInt32) &&& (255 : Int32)).toUInt32.toUInt16.toUInt32.toInt32) := ⟨_, rfl⟩
  have P151 : Rch p e below (s₁.setTop (entryFrame m #[(.int p1), (.int p2), (.int p3), (.int p4)] maxLocals)) (T148.setTop (mkF m 97 #[iv p1, iv p2, iv p3, iv p4, rv b2, rv pP_56, rv pP_100, un, un, un, un, un, un, un, un, un, un] [(.int x150), (.int (1 : Int32)), (.ref b136), (.ref b136)])) := fun t k => P149 t (by
    subst hx150
    show Steps p.tables e below (T148.setTop (mkF m 86 #[iv p1, iv p2, iv p3, iv p4, rv b2, rv pP_56, rv pP_100, un, un, un, un, un, un, un, un, un, un] [(.ref b136)])) t
    refine XS.dup X148.here hx rfl (hb hby at_86) rfl rfl ?_
    refine XS.iconst X148.here hx rfl (hb hby at_87) ?_
    refine XS.iloadN X148.here hx rfl (hb hby at_88) rfl ?_
    show Steps p.tables e below (T148.setTop (mkF m 89 #[iv p1, iv p2, iv p3, iv p4, rv b2, rv pP_56, rv pP_100, un, un, un, un, un, un, un, un, un, un] [(.int p4), (.int (1 : Int32)), (.ref b136), (.ref b136)])) t
    refine XS.bipush X148.here hx rfl (hb hby at_89) ?_
    refine XS.iushr X148.here hx rfl (hb hby at_91) rfl ?_
    refine XS.sipush X148.here hx rfl (hb hby at_92) ?_
    refine XS.iand X148.here hx rfl (hb hby at_95) rfl ?_
    show Steps p.tables e below (T148.setTop (mkF m 96 #[iv p1, iv p2, iv p3, iv p4, rv b2, rv pP_56, rv pP_100, un, un, un, un, un, un, un, un, un, un] [(.int (((p4.toUInt32 >>> ((8 : Int32) &&& 31).toUInt32).toInt32) &&& (255 : Int32))), (.int (1 : Int32)), (.ref b136), (.ref b136)])) t
    refine XS.i2c X148.here hx rfl (hb hby at_96) rfl ?_
    exact k)
  have V_o152 := V148
  obtain ⟨co152, Aro152, qo152, So152, Mo152, Ho152, Go152⟩ := V_o152
  have hin153 : ¬ ((1 : Int32) < 0 ∨ co152.slots.size ≤ ((1 : Int32)).toNatClampNeg) := inb_of So152 ⟨by decide, by decide⟩
  obtain ⟨T153, h153, X153, e153, W153, st153⟩ := stC X148 hx hZ e148 Aro152 (j := (1 : Int32)) hin153 (g := (mkF m 97 #[iv p1, iv p2, iv p3, iv p4, rv b2, rv pP_56, rv pP_100, un, un, un, un, un, un, un, un, un, un] [(.int x150), (.int (1 : Int32)), (.ref b136), (.ref b136)])) rfl rfl (hb hby at_97)
  have V153 : Arv Z h153 b136 k136 .char (2 : Int32) [(.int (nar .char x145)), (.int (nar .char x150))] (.int (0 : Int32)) := Arv.set Aro152 qo152 So152 Mo152 Ho152 Go152 (fits_nar_char _) W153 1 rfl (Nat.le_of_ble_eq_true rfl)
  have P154 : Rch p e below (s₁.setTop (entryFrame m #[(.int p1), (.int p2), (.int p3), (.int p4)] maxLocals)) (T153.setTop (mkF m 98 #[iv p1, iv p2, iv p3, iv p4, rv b2, rv pP_56, rv pP_100, un, un, un, un, un, un, un, un, un, un] [(.ref b136)])) := fun t k => P151 t (st153 t k)
  have N153 := Fr.snoc X153 N148 g_b136
  obtain ⟨x155, hx155⟩ : ∃ z : Int32, z = ((((p4.toUInt32 >>> ((16 : Int32) &&& 31).toUInt32).toInt32) &&& (65535 : Int32)) % (3 : Int32)) := ⟨_, rfl⟩
  have P156 : Rch p e below (s₁.setTop (entryFrame m #[(.int p1), (.int p2), (.int p3), (.int p4)] maxLocals)) (T153.setTop (mkF m 111 #[iv p1, iv p2, iv p3, iv p4, rv b2, rv pP_56, rv pP_100, rv b136, iv x155, un, un, un, un, un, un, un, un] [])) := fun t k => P154 t (by
    subst hx155
    show Steps p.tables e below (T153.setTop (mkF m 98 #[iv p1, iv p2, iv p3, iv p4, rv b2, rv pP_56, rv pP_100, un, un, un, un, un, un, un, un, un, un] [(.ref b136)])) t
    refine XS.astore X153.here hx rfl (hb hby at_98) rfl rfl (l' := #[iv p1, iv p2, iv p3, iv p4, rv b2, rv pP_56, rv pP_100, rv b136, un, un, un, un, un, un, un, un, un]) rfl ?_
    refine XS.iloadN X153.here hx rfl (hb hby at_100) rfl ?_
    refine XS.bipush X153.here hx rfl (hb hby at_101) ?_
    show Steps p.tables e below (T153.setTop (mkF m 103 #[iv p1, iv p2, iv p3, iv p4, rv b2, rv pP_56, rv pP_100, rv b136, un, un, un, un, un, un, un, un, un] [(.int (16 : Int32)), (.int p4)])) t
    refine XS.iushr X153.here hx rfl (hb hby at_103) rfl ?_
    refine X153.ldcInt hx hown (mvT hZ (hw _ (List.mem_of_getElem? (i := 20) rfl))) (g := (mkF m 104 #[iv p1, iv p2, iv p3, iv p4, rv b2, rv pP_56, rv pP_100, rv b136, un, un, un, un, un, un, un, un, un] [(.int ((p4.toUInt32 >>> ((16 : Int32) &&& 31).toUInt32).toInt32))])) rfl (hb hby at_104) _ ?_
    refine XS.iand X153.here hx rfl (hb hby at_106) rfl ?_
    refine XS.iconst X153.here hx rfl (hb hby at_107) ?_
    show Steps p.tables e below (T153.setTop (mkF m 108 #[iv p1, iv p2, iv p3, iv p4, rv b2, rv pP_56, rv pP_100, rv b136, un, un, un, un, un, un, un, un, un] [(.int (3 : Int32)), (.int (((p4.toUInt32 >>> ((16 : Int32) &&& 31).toUInt32).toInt32) &&& (65535 : Int32)))])) t
    refine iremM X153 hx rfl (hb hby at_108) rfl (by decide) ?_
    refine XS.istore X153.here hx rfl (hb hby at_109) rfl (l' := #[iv p1, iv p2, iv p3, iv p4, rv b2, rv pP_56, rv pP_100, rv b136, iv ((((p4.toUInt32 >>> ((16 : Int32) &&& 31).toUInt32).toInt32) &&& (65535 : Int32)) % (3 : Int32)), un, un, un, un, un, un, un, un]) rfl ?_
    exact k)
  have hct : 0 ≤ x155.toInt ∧ x155.toInt ≤ 2 := by rw [hx155]; exact own_cnt _
  have P157 : Rch p e below (s₁.setTop (entryFrame m #[(.int p1), (.int p2), (.int p3), (.int p4)] maxLocals)) (T153.setTop (mkF m 114 #[iv p1, iv p2, iv p3, iv p4, rv b2, rv pP_56, rv pP_100, rv b136, iv x155, un, un, un, un, un, un, un, un] [(.int (9000 : Int32))])) := fun t k => P156 t (by
    show Steps p.tables e below (T153.setTop (mkF m 111 #[iv p1, iv p2, iv p3, iv p4, rv b2, rv pP_56, rv pP_100, rv b136, iv x155, un, un, un, un, un, un, un, un] [])) t
    refine XS.sipush X153.here hx rfl (hb hby at_111) ?_
    exact k)
  have f159 : Exa Z h153 x_6 "com/example/rideau/rideau/internal/HeldText$Piece" := ((((((f52.wr W51).keep K56).keep K100).ext E136).wr W148).wr W153)
  have f160 : Arv Z h153 b2 k2 (.object "com/example/rideau/rideau/internal/HeldText$Piece") (7 : Int32) [(.ref x_0), (.ref x_1), (.ref x_2), (.ref x_3), (.ref x_4), (.ref x_5), (.ref x_6)] .null := (((((V51.keep K56 nin0).keep K100 nin0).ext E136).other W148 ne_b2_b136).other W153 ne_b2_b136)
  have f161 : n0 ≤ h153.size := (Nat.le_trans (Nat.le_trans (Nat.le_trans Z100 E136.1) (Keep.of_wr W148).1) (Keep.of_wr W153).1)
  have f162 : Keep h0 h153 [] := (((f143.ext E136).wr W148 (Or.inr sz_b136)).wr W153 (Or.inr sz_b136))
  obtain ⟨T158, h158, k158, X158, e158, E158, A158, st158⟩ := newP X153 hx hZ (hw _ (List.mem_of_getElem? (i := 19) rfl)) e153 (g := (mkF m 114 #[iv p1, iv p2, iv p3, iv p4, rv b2, rv pP_56, rv pP_100, rv b136, iv x155, un, un, un, un, un, un, un, un] [(.int (9000 : Int32))])) rfl (hb hby at_114) rfl (by decide) (cap := 9000) (by decide) (by decide) (by decide) (by decide)
  obtain ⟨b158, g158⟩ : ∃ z, z = h153.size := ⟨_, rfl⟩
  rw [← g158] at A158 st158
  have g_b158 : n0 ≤ b158 := Nat.le_trans f161 (Nat.le_of_eq g158.symm)
  have sz_b158 : h0.size ≤ b158 := Nat.le_trans f162.1 (Nat.le_of_eq g158.symm)
  have ne_x_0_b158 : x_0 ≠ b158 := Nat.ne_of_lt (Nat.lt_of_lt_of_le (((f137.ext E136).wr W148).wr W153).lt (Nat.le_of_eq g158.symm))
  have ne_x_1_b158 : x_1 ≠ b158 := Nat.ne_of_lt (Nat.lt_of_lt_of_le (((f138.ext E136).wr W148).wr W153).lt (Nat.le_of_eq g158.symm))
  have ne_x_2_b158 : x_2 ≠ b158 := Nat.ne_of_lt (Nat.lt_of_lt_of_le (((f139.ext E136).wr W148).wr W153).lt (Nat.le_of_eq g158.symm))
  have ne_x_3_b158 : x_3 ≠ b158 := Nat.ne_of_lt (Nat.lt_of_lt_of_le (((f140.ext E136).wr W148).wr W153).lt (Nat.le_of_eq g158.symm))
  have ne_x_4_b158 : x_4 ≠ b158 := Nat.ne_of_lt (Nat.lt_of_lt_of_le (((f141.ext E136).wr W148).wr W153).lt (Nat.le_of_eq g158.symm))
  have ne_x_5_b158 : x_5 ≠ b158 := Nat.ne_of_lt (Nat.lt_of_lt_of_le (((f142.ext E136).wr W148).wr W153).lt (Nat.le_of_eq g158.symm))
  have ne_x_6_b158 : x_6 ≠ b158 := Nat.ne_of_lt (Nat.lt_of_lt_of_le f159.lt (Nat.le_of_eq g158.symm))
  have ne_b2_b158 : b2 ≠ b158 := Nat.ne_of_lt (Nat.lt_of_lt_of_le f160.lt (Nat.le_of_eq g158.symm))
  have ne_pP_56_b158 : pP_56 ≠ b158 := Nat.ne_of_lt (Nat.lt_of_lt_of_le ((((Ep_56.keep K100).ext E136).wr W148).wr W153).lt (Nat.le_of_eq g158.symm))
  have ne_pP_100_b158 : pP_100 ≠ b158 := Nat.ne_of_lt (Nat.lt_of_lt_of_le (((Ep_100.ext E136).wr W148).wr W153).lt (Nat.le_of_eq g158.symm))
  have ne_b136_b158 : b136 ≠ b158 := Nat.ne_of_lt (Nat.lt_of_lt_of_le V153.lt (Nat.le_of_eq g158.symm))
  have V158 : Arv Z h158 b158 k158 .char (9000 : Int32) [] (.int (0 : Int32)) := Arv.new A158 (by decide)
  have P163 : Rch p e below (s₁.setTop (entryFrame m #[(.int p1), (.int p2), (.int p3), (.int p4)] maxLocals)) (T158.setTop (mkF m 116 #[iv p1, iv p2, iv p3, iv p4, rv b2, rv pP_56, rv pP_100, rv b136, iv x155, un, un, un, un, un, un, un, un] [(.ref b158)])) := fun t k => P157 t (st158 t k)
  obtain ⟨x164, hx164⟩ : ∃ z : Int32, z = (((p4.toUInt32 >>> ((24 : Int32) &&& 31).toUInt32).toInt32) &&& (1 : Int32)) := ⟨_, rfl⟩
  have P165 : Rch p e below (s₁.setTop (entryFrame m #[(.int p1), (.int p2), (.int p3), (.int p4)] maxLocals)) (T158.setTop (mkF m 124 #[iv p1, iv p2, iv p3, iv p4, rv b2, rv pP_56, rv pP_100, rv b136, iv x155, rv b158, un, un, un, un, un, un, un] [(.int x164)])) := fun t k => P163 t (by
    subst hx164
    show Steps p.tables e below (T158.setTop (mkF m 116 #[iv p1, iv p2, iv p3, iv p4, rv b2, rv pP_56, rv pP_100, rv b136, iv x155, un, un, un, un, un, un, un, un] [(.ref b158)])) t
    refine XS.astore X158.here hx rfl (hb hby at_116) rfl rfl (l' := #[iv p1, iv p2, iv p3, iv p4, rv b2, rv pP_56, rv pP_100, rv b136, iv x155, rv b158, un, un, un, un, un, un, un]) rfl ?_
    refine XS.iloadN X158.here hx rfl (hb hby at_118) rfl ?_
    refine XS.bipush X158.here hx rfl (hb hby at_119) ?_
    show Steps p.tables e below (T158.setTop (mkF m 121 #[iv p1, iv p2, iv p3, iv p4, rv b2, rv pP_56, rv pP_100, rv b136, iv x155, rv b158, un, un, un, un, un, un, un] [(.int (24 : Int32)), (.int p4)])) t
    refine XS.iushr X158.here hx rfl (hb hby at_121) rfl ?_
    refine XS.iconst X158.here hx rfl (hb hby at_122) ?_
    refine XS.iand X158.here hx rfl (hb hby at_123) rfl ?_
    exact k)
  by_cases c166 : x164 = (0 : Int32)
  · have P167 : Rch p e below (s₁.setTop (entryFrame m #[(.int p1), (.int p2), (.int p3), (.int p4)] maxLocals)) (T158.setTop (mkF m 142 #[iv p1, iv p2, iv p3, iv p4, rv b2, rv pP_56, rv pP_100, rv b136, iv x155, rv b158, .val .null, un, un, un, un, un, un] [])) := fun t k => P165 t (by
      show Steps p.tables e below (T158.setTop (mkF m 124 #[iv p1, iv p2, iv p3, iv p4, rv b2, rv pP_56, rv pP_100, rv b136, iv x155, rv b158, un, un, un, un, un, un, un] [(.int x164)])) t
      refine XS.ifYes X158.here hx rfl (pc0 := 124) (pc' := 139) rfl (hb hby at_124) rfl ((if0 _ _).trans (teq c166).1) (by decide) (by decide) ?_
      refine XS.aconstNull X158.here hx rfl (hb hby at_139) ?_
      refine XS.astore X158.here hx rfl (hb hby at_140) rfl rfl (l' := #[iv p1, iv p2, iv p3, iv p4, rv b2, rv pP_56, rv pP_100, rv b136, iv x155, rv b158, .val .null, un, un, un, un, un, un]) rfl ?_
      exact k)
    have f169 : n0 ≤ h158.size := (Nat.le_trans f161 E158.1)
    have f170 : Keep h0 h158 [] := (f162.ext E158)
    obtain ⟨T168, h168, X168, e168, E168, A168, D168, -, st168⟩ := newO X158 hx hZ hown (hw _ (List.mem_of_getElem? (i := 21) rfl)) (hw _ (List.mem_of_getElem? (i := 22) rfl)) (hw _ (List.mem_of_getElem? (i := 23) rfl)) e158 (g := (mkF m 142 #[iv p1, iv p2, iv p3, iv p4, rv b2, rv pP_56, rv pP_100, rv b136, iv x155, rv b158, .val .null, un, un, un, un, un, un] [])) rfl (hb hby at_142) (by decide) (by decide)
    obtain ⟨b168, g168⟩ : ∃ z, z = h158.size := ⟨_, rfl⟩
    rw [← g168] at A168 D168 st168
    have g_b168 : n0 ≤ b168 := Nat.le_trans f169 (Nat.le_of_eq g168.symm)
    have sz_b168 : h0.size ≤ b168 := Nat.le_trans f170.1 (Nat.le_of_eq g168.symm)
    have ne_x_0_b168 : x_0 ≠ b168 := Nat.ne_of_lt (Nat.lt_of_lt_of_le ((((f137.ext E136).wr W148).wr W153).ext E158).lt (Nat.le_of_eq g168.symm))
    have ne_x_1_b168 : x_1 ≠ b168 := Nat.ne_of_lt (Nat.lt_of_lt_of_le ((((f138.ext E136).wr W148).wr W153).ext E158).lt (Nat.le_of_eq g168.symm))
    have ne_x_2_b168 : x_2 ≠ b168 := Nat.ne_of_lt (Nat.lt_of_lt_of_le ((((f139.ext E136).wr W148).wr W153).ext E158).lt (Nat.le_of_eq g168.symm))
    have ne_x_3_b168 : x_3 ≠ b168 := Nat.ne_of_lt (Nat.lt_of_lt_of_le ((((f140.ext E136).wr W148).wr W153).ext E158).lt (Nat.le_of_eq g168.symm))
    have ne_x_4_b168 : x_4 ≠ b168 := Nat.ne_of_lt (Nat.lt_of_lt_of_le ((((f141.ext E136).wr W148).wr W153).ext E158).lt (Nat.le_of_eq g168.symm))
    have ne_x_5_b168 : x_5 ≠ b168 := Nat.ne_of_lt (Nat.lt_of_lt_of_le ((((f142.ext E136).wr W148).wr W153).ext E158).lt (Nat.le_of_eq g168.symm))
    have ne_x_6_b168 : x_6 ≠ b168 := Nat.ne_of_lt (Nat.lt_of_lt_of_le (f159.ext E158).lt (Nat.le_of_eq g168.symm))
    have ne_b2_b168 : b2 ≠ b168 := Nat.ne_of_lt (Nat.lt_of_lt_of_le (f160.ext E158).lt (Nat.le_of_eq g168.symm))
    have ne_pP_56_b168 : pP_56 ≠ b168 := Nat.ne_of_lt (Nat.lt_of_lt_of_le (((((Ep_56.keep K100).ext E136).wr W148).wr W153).ext E158).lt (Nat.le_of_eq g168.symm))
    have ne_pP_100_b168 : pP_100 ≠ b168 := Nat.ne_of_lt (Nat.lt_of_lt_of_le ((((Ep_100.ext E136).wr W148).wr W153).ext E158).lt (Nat.le_of_eq g168.symm))
    have ne_b136_b168 : b136 ≠ b168 := Nat.ne_of_lt (Nat.lt_of_lt_of_le (V153.ext E158).lt (Nat.le_of_eq g168.symm))
    have ne_b158_b168 : b158 ≠ b168 := Nat.ne_of_lt (Nat.lt_of_lt_of_le V158.lt (Nat.le_of_eq g168.symm))
    have F168_31 : Fld Z h168 b168 "com/example/rideau/rideau/internal/HeldText" "chars" "[C" .null := D168 (Or.inl (hw _ (List.mem_of_getElem? (i := 31) rfl))) (ty := (.array .char)) (by decide)
    have F168_34 : Fld Z h168 b168 "com/example/rideau/rideau/internal/HeldText" "pieces" "[Lcom/example/rideau/rideau/internal/HeldText$Piece;" .null := D168 (Or.inl (hw _ (List.mem_of_getElem? (i := 34) rfl))) (ty := (.array (.object "com/example/rideau/rideau/internal/HeldText$Piece"))) (by decide)
    have F168_37 : Fld Z h168 b168 "com/example/rideau/rideau/internal/HeldText" "ends" "[I" .null := D168 (Or.inl (hw _ (List.mem_of_getElem? (i := 37) rfl))) (ty := (.array .int)) (by decide)
    have F168_41 : Fld Z h168 b168 "com/example/rideau/rideau/internal/HeldText" "names" "[Ljava/lang/String;" .null := D168 (Or.inl (hw _ (List.mem_of_getElem? (i := 41) rfl))) (ty := (.array (.object "java/lang/String"))) (by decide)
    have F168_48 : Fld Z h168 b168 "com/example/rideau/rideau/internal/HeldText" "size" "I" (.int (0 : Int32)) := D168 (Or.inl (hw _ (List.mem_of_getElem? (i := 48) rfl))) (ty := .int) (by decide)
    have F168_55 : Fld Z h168 b168 "com/example/rideau/rideau/internal/HeldText" "length" "I" (.int (0 : Int32)) := D168 (Or.inl (hw _ (List.mem_of_getElem? (i := 55) rfl))) (ty := .int) (by decide)
    have P171 : Rch p e below (s₁.setTop (entryFrame m #[(.int p1), (.int p2), (.int p3), (.int p4)] maxLocals)) (T168.setTop (mkF m 145 #[iv p1, iv p2, iv p3, iv p4, rv b2, rv pP_56, rv pP_100, rv b136, iv x155, rv b158, .val .null, un, un, un, un, un, un] [(.ref b168)])) := fun t k => P167 t (st168 t k)
    have P172 : Rch p e below (s₁.setTop (entryFrame m #[(.int p1), (.int p2), (.int p3), (.int p4)] maxLocals)) (T168.setTop (mkF m 146 #[iv p1, iv p2, iv p3, iv p4, rv b2, rv pP_56, rv pP_100, rv b136, iv x155, rv b158, .val .null, un, un, un, un, un, un] [(.ref b168), (.ref b168)])) := fun t k => P171 t (by
      show Steps p.tables e below (T168.setTop (mkF m 145 #[iv p1, iv p2, iv p3, iv p4, rv b2, rv pP_56, rv pP_100, rv b136, iv x155, rv b158, .val .null, un, un, un, un, un, un] [(.ref b168)])) t
      refine XS.dup X168.here hx rfl (hb hby at_145) rfl rfl ?_
      exact k)
    have f174 : n0 ≤ h168.size := (Nat.le_trans f169 E168.1)
    obtain ⟨_, _, ⟨T173, L173, k173, n173⟩, -, X173, ⟨Lc173, hQ173, l173, y173, z173⟩, st173⟩ := X168.specialBack hx (y := (⟨"com/example/rideau/rideau/internal/HeldText", "<init>", "()V"⟩ : MethodName)) rfl hown (mvT hZ (hw _ (List.mem_of_getElem? (i := 24) rfl))) (mvT hZ (hw _ (List.mem_of_getElem? (i := 25) rfl))) (mvT hZ (hw _ (List.mem_of_getElem? (i := 26) rfl))) (by decide) (backOf (W := 1) (rmI l Z a0 hw [] b168 h168 n0 f174 A168 g_b168 F168_31 F168_34 F168_37 F168_41 F168_48 F168_55) hZ (hw _ (List.mem_of_getElem? (i := 26) rfl)) (hw _ (List.mem_of_getElem? (i := 23) rfl)) (by decide) (by decide)) (g := (mkF m 146 #[iv p1, iv p2, iv p3, iv p4, rv b2, rv pP_56, rv pP_100, rv b136, iv x155, rv b158, .val .null, un, un, un, un, un, un] [(.ref b168), (.ref b168)])) rfl (by rw [hml]; rfl) (Steps.refl _) (a := b168) (argsL := []) (rest := [(.ref b168)]) (lenOf pd_6 rfl) rfl (by show 2 * 0 + _ ≤ _; exact Nat.le_of_eq rfl) (hb hby at_146) (fun _ _ => ⟨rfl, e168, (by decide : 4 + 4 ≤ _), (by decide : 9015 + 304 ≤ _)⟩)
    dsimp only [Pt.U, Pt.locs, Pt.cells, Pt.slots] at X173 l173 y173 z173 st173 hQ173
    subst y173 z173
    have f175 : Exa Z h168 pP_56 "com/example/rideau/rideau/internal/HeldText$Piece" := ((((((Ep_56.keep K100).ext E136).wr W148).wr W153).ext E158).ext E168)
    have f176 : Keep h0 h168 [] := (f170.ext E168)
    obtain ⟨ac_173, ap_173, ae_173, an_173, kc_173, kp_173, ke_173, kn_173, vc_173, vp_173, ve_173, vn_173, rfl, N173q, K173, Fz_ac_173, Fz_ap_173, Fz_ae_173, Fz_an_173, E1_173, F_chars_173, F_pieces_173, F_ends_173, F_names_173, F_size_173, F_length_173, VC_173, VP_173, VE_173, VN_173, n_ac_ap_173, n_ac_ae_173, n_ac_an_173, n_ap_ae_173, n_ap_an_173, n_ae_an_173, Op_173, On_173, hvp_173, hve_173, hvn_173⟩ := hQ173
    have N173 : Fr n0 L173 := by rw [l173]; exact Fr.app N153 N173q
    have g_ac_173 : n0 ≤ ac_173 := Nat.le_trans f174 Fz_ac_173
    have sz_ac_173 : h0.size ≤ ac_173 := Nat.le_trans f176.1 Fz_ac_173
    have ne_x_0_ac_173 : x_0 ≠ ac_173 := Nat.ne_of_lt (Nat.lt_of_lt_of_le (((((f137.ext E136).wr W148).wr W153).ext E158).ext E168).lt Fz_ac_173)
    have ne_x_1_ac_173 : x_1 ≠ ac_173 := Nat.ne_of_lt (Nat.lt_of_lt_of_le (((((f138.ext E136).wr W148).wr W153).ext E158).ext E168).lt Fz_ac_173)
    have ne_x_2_ac_173 : x_2 ≠ ac_173 := Nat.ne_of_lt (Nat.lt_of_lt_of_le (((((f139.ext E136).wr W148).wr W153).ext E158).ext E168).lt Fz_ac_173)
    have ne_x_3_ac_173 : x_3 ≠ ac_173 := Nat.ne_of_lt (Nat.lt_of_lt_of_le (((((f140.ext E136).wr W148).wr W153).ext E158).ext E168).lt Fz_ac_173)
    have ne_x_4_ac_173 : x_4 ≠ ac_173 := Nat.ne_of_lt (Nat.lt_of_lt_of_le (((((f141.ext E136).wr W148).wr W153).ext E158).ext E168).lt Fz_ac_173)
    have ne_x_5_ac_173 : x_5 ≠ ac_173 := Nat.ne_of_lt (Nat.lt_of_lt_of_le (((((f142.ext E136).wr W148).wr W153).ext E158).ext E168).lt Fz_ac_173)
    have ne_x_6_ac_173 : x_6 ≠ ac_173 := Nat.ne_of_lt (Nat.lt_of_lt_of_le ((f159.ext E158).ext E168).lt Fz_ac_173)
    have ne_b2_ac_173 : b2 ≠ ac_173 := Nat.ne_of_lt (Nat.lt_of_lt_of_le ((f160.ext E158).ext E168).lt Fz_ac_173)
    have ne_pP_56_ac_173 : pP_56 ≠ ac_173 := Nat.ne_of_lt (Nat.lt_of_lt_of_le f175.lt Fz_ac_173)
    have ne_pP_100_ac_173 : pP_100 ≠ ac_173 := Nat.ne_of_lt (Nat.lt_of_lt_of_le (((((Ep_100.ext E136).wr W148).wr W153).ext E158).ext E168).lt Fz_ac_173)
    have ne_b136_ac_173 : b136 ≠ ac_173 := Nat.ne_of_lt (Nat.lt_of_lt_of_le ((V153.ext E158).ext E168).lt Fz_ac_173)
    have ne_b158_ac_173 : b158 ≠ ac_173 := Nat.ne_of_lt (Nat.lt_of_lt_of_le (V158.ext E168).lt Fz_ac_173)
    have ne_b168_ac_173 : b168 ≠ ac_173 := Nat.ne_of_lt (Nat.lt_of_lt_of_le A168.lt Fz_ac_173)
    have g_ap_173 : n0 ≤ ap_173 := Nat.le_trans f174 Fz_ap_173
    have sz_ap_173 : h0.size ≤ ap_173 := Nat.le_trans f176.1 Fz_ap_173
    have ne_x_0_ap_173 : x_0 ≠ ap_173 := Nat.ne_of_lt (Nat.lt_of_lt_of_le (((((f137.ext E136).wr W148).wr W153).ext E158).ext E168).lt Fz_ap_173)
    have ne_x_1_ap_173 : x_1 ≠ ap_173 := Nat.ne_of_lt (Nat.lt_of_lt_of_le (((((f138.ext E136).wr W148).wr W153).ext E158).ext E168).lt Fz_ap_173)
    have ne_x_2_ap_173 : x_2 ≠ ap_173 := Nat.ne_of_lt (Nat.lt_of_lt_of_le (((((f139.ext E136).wr W148).wr W153).ext E158).ext E168).lt Fz_ap_173)
    have ne_x_3_ap_173 : x_3 ≠ ap_173 := Nat.ne_of_lt (Nat.lt_of_lt_of_le (((((f140.ext E136).wr W148).wr W153).ext E158).ext E168).lt Fz_ap_173)
    have ne_x_4_ap_173 : x_4 ≠ ap_173 := Nat.ne_of_lt (Nat.lt_of_lt_of_le (((((f141.ext E136).wr W148).wr W153).ext E158).ext E168).lt Fz_ap_173)
    have ne_x_5_ap_173 : x_5 ≠ ap_173 := Nat.ne_of_lt (Nat.lt_of_lt_of_le (((((f142.ext E136).wr W148).wr W153).ext E158).ext E168).lt Fz_ap_173)
    have ne_x_6_ap_173 : x_6 ≠ ap_173 := Nat.ne_of_lt (Nat.lt_of_lt_of_le ((f159.ext E158).ext E168).lt Fz_ap_173)
    have ne_b2_ap_173 : b2 ≠ ap_173 := Nat.ne_of_lt (Nat.lt_of_lt_of_le ((f160.ext E158).ext E168).lt Fz_ap_173)
    have ne_pP_56_ap_173 : pP_56 ≠ ap_173 := Nat.ne_of_lt (Nat.lt_of_lt_of_le f175.lt Fz_ap_173)
    have ne_pP_100_ap_173 : pP_100 ≠ ap_173 := Nat.ne_of_lt (Nat.lt_of_lt_of_le (((((Ep_100.ext E136).wr W148).wr W153).ext E158).ext E168).lt Fz_ap_173)
    have ne_b136_ap_173 : b136 ≠ ap_173 := Nat.ne_of_lt (Nat.lt_of_lt_of_le ((V153.ext E158).ext E168).lt Fz_ap_173)
    have ne_b158_ap_173 : b158 ≠ ap_173 := Nat.ne_of_lt (Nat.lt_of_lt_of_le (V158.ext E168).lt Fz_ap_173)
    have ne_b168_ap_173 : b168 ≠ ap_173 := Nat.ne_of_lt (Nat.lt_of_lt_of_le A168.lt Fz_ap_173)
    have g_ae_173 : n0 ≤ ae_173 := Nat.le_trans f174 Fz_ae_173
    have sz_ae_173 : h0.size ≤ ae_173 := Nat.le_trans f176.1 Fz_ae_173
    have ne_x_0_ae_173 : x_0 ≠ ae_173 := Nat.ne_of_lt (Nat.lt_of_lt_of_le (((((f137.ext E136).wr W148).wr W153).ext E158).ext E168).lt Fz_ae_173)
    have ne_x_1_ae_173 : x_1 ≠ ae_173 := Nat.ne_of_lt (Nat.lt_of_lt_of_le (((((f138.ext E136).wr W148).wr W153).ext E158).ext E168).lt Fz_ae_173)
    have ne_x_2_ae_173 : x_2 ≠ ae_173 := Nat.ne_of_lt (Nat.lt_of_lt_of_le (((((f139.ext E136).wr W148).wr W153).ext E158).ext E168).lt Fz_ae_173)
    have ne_x_3_ae_173 : x_3 ≠ ae_173 := Nat.ne_of_lt (Nat.lt_of_lt_of_le (((((f140.ext E136).wr W148).wr W153).ext E158).ext E168).lt Fz_ae_173)
    have ne_x_4_ae_173 : x_4 ≠ ae_173 := Nat.ne_of_lt (Nat.lt_of_lt_of_le (((((f141.ext E136).wr W148).wr W153).ext E158).ext E168).lt Fz_ae_173)
    have ne_x_5_ae_173 : x_5 ≠ ae_173 := Nat.ne_of_lt (Nat.lt_of_lt_of_le (((((f142.ext E136).wr W148).wr W153).ext E158).ext E168).lt Fz_ae_173)
    have ne_x_6_ae_173 : x_6 ≠ ae_173 := Nat.ne_of_lt (Nat.lt_of_lt_of_le ((f159.ext E158).ext E168).lt Fz_ae_173)
    have ne_b2_ae_173 : b2 ≠ ae_173 := Nat.ne_of_lt (Nat.lt_of_lt_of_le ((f160.ext E158).ext E168).lt Fz_ae_173)
    have ne_pP_56_ae_173 : pP_56 ≠ ae_173 := Nat.ne_of_lt (Nat.lt_of_lt_of_le f175.lt Fz_ae_173)
    have ne_pP_100_ae_173 : pP_100 ≠ ae_173 := Nat.ne_of_lt (Nat.lt_of_lt_of_le (((((Ep_100.ext E136).wr W148).wr W153).ext E158).ext E168).lt Fz_ae_173)
    have ne_b136_ae_173 : b136 ≠ ae_173 := Nat.ne_of_lt (Nat.lt_of_lt_of_le ((V153.ext E158).ext E168).lt Fz_ae_173)
    have ne_b158_ae_173 : b158 ≠ ae_173 := Nat.ne_of_lt (Nat.lt_of_lt_of_le (V158.ext E168).lt Fz_ae_173)
    have ne_b168_ae_173 : b168 ≠ ae_173 := Nat.ne_of_lt (Nat.lt_of_lt_of_le A168.lt Fz_ae_173)
    have g_an_173 : n0 ≤ an_173 := Nat.le_trans f174 Fz_an_173
    have sz_an_173 : h0.size ≤ an_173 := Nat.le_trans f176.1 Fz_an_173
    have ne_x_0_an_173 : x_0 ≠ an_173 := Nat.ne_of_lt (Nat.lt_of_lt_of_le (((((f137.ext E136).wr W148).wr W153).ext E158).ext E168).lt Fz_an_173)
    have ne_x_1_an_173 : x_1 ≠ an_173 := Nat.ne_of_lt (Nat.lt_of_lt_of_le (((((f138.ext E136).wr W148).wr W153).ext E158).ext E168).lt Fz_an_173)
    have ne_x_2_an_173 : x_2 ≠ an_173 := Nat.ne_of_lt (Nat.lt_of_lt_of_le (((((f139.ext E136).wr W148).wr W153).ext E158).ext E168).lt Fz_an_173)
    have ne_x_3_an_173 : x_3 ≠ an_173 := Nat.ne_of_lt (Nat.lt_of_lt_of_le (((((f140.ext E136).wr W148).wr W153).ext E158).ext E168).lt Fz_an_173)
    have ne_x_4_an_173 : x_4 ≠ an_173 := Nat.ne_of_lt (Nat.lt_of_lt_of_le (((((f141.ext E136).wr W148).wr W153).ext E158).ext E168).lt Fz_an_173)
    have ne_x_5_an_173 : x_5 ≠ an_173 := Nat.ne_of_lt (Nat.lt_of_lt_of_le (((((f142.ext E136).wr W148).wr W153).ext E158).ext E168).lt Fz_an_173)
    have ne_x_6_an_173 : x_6 ≠ an_173 := Nat.ne_of_lt (Nat.lt_of_lt_of_le ((f159.ext E158).ext E168).lt Fz_an_173)
    have ne_b2_an_173 : b2 ≠ an_173 := Nat.ne_of_lt (Nat.lt_of_lt_of_le ((f160.ext E158).ext E168).lt Fz_an_173)
    have ne_pP_56_an_173 : pP_56 ≠ an_173 := Nat.ne_of_lt (Nat.lt_of_lt_of_le f175.lt Fz_an_173)
    have ne_pP_100_an_173 : pP_100 ≠ an_173 := Nat.ne_of_lt (Nat.lt_of_lt_of_le (((((Ep_100.ext E136).wr W148).wr W153).ext E158).ext E168).lt Fz_an_173)
    have ne_b136_an_173 : b136 ≠ an_173 := Nat.ne_of_lt (Nat.lt_of_lt_of_le ((V153.ext E158).ext E168).lt Fz_an_173)
    have ne_b158_an_173 : b158 ≠ an_173 := Nat.ne_of_lt (Nat.lt_of_lt_of_le (V158.ext E168).lt Fz_an_173)
    have ne_b168_an_173 : b168 ≠ an_173 := Nat.ne_of_lt (Nat.lt_of_lt_of_le A168.lt Fz_an_173)
    have P177 : Rch p e below (s₁.setTop (entryFrame m #[(.int p1), (.int p2), (.int p3), (.int p4)] maxLocals)) (T173.setTop (mkF m 149 #[iv p1, iv p2, iv p3, iv p4, rv b2, rv pP_56, rv pP_100, rv b136, iv x155, rv b158, .val .null, un, un, un, un, un, un] [(.ref b168)])) := fun t k => P172 t (st173.trans k)
    obtain ⟨x178, hx178⟩ : ∃ z : Int32, z = (p1 &&& (1 : Int32)) := ⟨_, rfl⟩
    have P179 : Rch p e below (s₁.setTop (entryFrame m #[(.int p1), (.int p2), (.int p3), (.int p4)] maxLocals)) (T173.setTop (mkF m 154 #[iv p1, iv p2, iv p3, iv p4, rv b2, rv pP_56, rv pP_100, rv b136, iv x155, rv b158, .val .null, rv b168, un, un, un, un, un] [(.int x178)])) := fun t k => P177 t (by
      subst hx178
      show Steps p.tables e below (T173.setTop (mkF m 149 #[iv p1, iv p2, iv p3, iv p4, rv b2, rv pP_56, rv pP_100, rv b136, iv x155, rv b158, .val .null, un, un, un, un, un, un] [(.ref b168)])) t
      refine XS.astore X173.here hx rfl (hb hby at_149) rfl rfl (l' := #[iv p1, iv p2, iv p3, iv p4, rv b2, rv pP_56, rv pP_100, rv b136, iv x155, rv b158, .val .null, rv b168, un, un, un, un, un]) rfl ?_
      refine XS.iloadN X173.here hx rfl (hb hby at_151) rfl ?_
      refine XS.iconst X173.here hx rfl (hb hby at_152) ?_
      show Steps p.tables e below (T173.setTop (mkF m 153 #[iv p1, iv p2, iv p3, iv p4, rv b2, rv pP_56, rv pP_100, rv b136, iv x155, rv b158, .val .null, rv b168, un, un, un, un, un] [(.int (1 : Int32)), (.int p1)])) t
      refine XS.iand X173.here hx rfl (hb hby at_153) rfl ?_
      exact k)
    obtain ⟨T180, L180, h180, sj_180, lj_180, vpj_180, vej_180, vnj_180, vcj_180, X180, e180, N180, Z180, K180, F_chars_180, F_pieces_180, F_ends_180, F_names_180, F_size_180, F_length_180, VC_180, VP_180, VE_180, VN_180, hvpj_180, hvej_180, hvnj_180, hlj_180, hbj_180, hall_180, P180⟩ : ∃ (T180 : State) (L180 : List Loc) (h180 : Heap) (sj_180 : Int32) (lj_180 : Int32) (vpj_180 : List Value) (vej_180 : List Value) (vnj_180 : List Value) (vcj_180 : List Value), Stand p l e room_1 s m #[(.int p1), (.int p2), (.int p3), (.int p4)] below meth c T180 L180 8 9319 ∧ T180.heap = h180 ∧ Fr n0 L180 ∧ n0 ≤ h180.size ∧ Keep T173.heap h180 [b168, ac_173, ap_173, ae_173, an_173] ∧ (Fld Z h180 b168 "com/example/rideau/rideau/internal/HeldText" "chars" "[C" (.ref ac_173)) ∧ (Fld Z h180 b168 "com/example/rideau/rideau/internal/HeldText" "pieces" "[Lcom/example/rideau/rideau/internal/HeldText$Piece;" (.ref ap_173)) ∧ (Fld Z h180 b168 "com/example/rideau/rideau/internal/HeldText" "ends" "[I" (.ref ae_173)) ∧ (Fld Z h180 b168 "com/example/rideau/rideau/internal/HeldText" "names" "[Ljava/lang/String;" (.ref an_173)) ∧ (Fld Z h180 b168 "com/example/rideau/rideau/internal/HeldText" "size" "I" (.int sj_180)) ∧ (Fld Z h180 b168 "com/example/rideau/rideau/internal/HeldText" "length" "I" (.int lj_180)) ∧ (Arv Z h180 ac_173 kc_173 .char (256 : Int32) vcj_180 (.int (0 : Int32))) ∧ (Arv Z h180 ap_173 kp_173 (.object "com/example/rideau/rideau/internal/HeldText$Piece") (16 : Int32) vpj_180 .null) ∧ (Arv Z h180 ae_173 ke_173 .int (16 : Int32) vej_180 (.int (0 : Int32))) ∧ (Arv Z h180 an_173 kn_173 (.object "java/lang/String") (16 : Int32) vnj_180 .null) ∧ (vpj_180.length = 16) ∧ (vej_180.length = 16) ∧ (vnj_180.length = 16) ∧ (0 ≤ lj_180.toInt ∧ lj_180.toInt ≤ 2) ∧ (0 ≤ sj_180.toInt ∧ sj_180.toInt ≤ 1) ∧ ((x178 = (0 : Int32) → sj_180 = (0 : Int32)) ∧ (¬ (x178 = (0 : Int32)) → 1 ≤ sj_180.toInt)) ∧ Rch p e below (s₁.setTop (entryFrame m #[(.int p1), (.int p2), (.int p3), (.int p4)] maxLocals)) (T180.setTop (mkF m 169 #[iv p1, iv p2, iv p3, iv p4, rv b2, rv pP_56, rv pP_100, rv b136, iv x155, rv b158, .val .null, rv b168, un, un, un, un, un] [])) := by
      by_cases c181 : x178 = (0 : Int32)
      · have P182 : Rch p e below (s₁.setTop (entryFrame m #[(.int p1), (.int p2), (.int p3), (.int p4)] maxLocals)) (T173.setTop (mkF m 169 #[iv p1, iv p2, iv p3, iv p4, rv b2, rv pP_56, rv pP_100, rv b136, iv x155, rv b158, .val .null, rv b168, un, un, un, un, un] [])) := fun t k => P179 t (by
          show Steps p.tables e below (T173.setTop (mkF m 154 #[iv p1, iv p2, iv p3, iv p4, rv b2, rv pP_56, rv pP_100, rv b136, iv x155, rv b158, .val .null, rv b168, un, un, un, un, un] [(.int x178)])) t
          refine XS.ifYes X173.here hx rfl (pc0 := 154) (pc' := 169) rfl (hb hby at_154) rfl ((if0 _ _).trans (teq c181).1) (by decide) (by decide) ?_
          exact k)
        have f183 : n0 ≤ T173.heap.size := (Nat.le_trans f174 K173.1)
        exact ⟨T173, _, T173.heap, (0 : Int32), (0 : Int32), vp_173, ve_173, vn_173, vc_173, X173, rfl, N173, f183, (Keep.refl T173.heap [b168, ac_173, ap_173, ae_173, an_173]), F_chars_173, F_pieces_173, F_ends_173, F_names_173, F_size_173, F_length_173, VC_173, VP_173, VE_173, VN_173, hvp_173, hve_173, hvn_173, (by decide), (by decide), ⟨fun _ => rfl, fun q => absurd c181 q⟩, P182⟩
      · have P184 : Rch p e below (s₁.setTop (entryFrame m #[(.int p1), (.int p2), (.int p3), (.int p4)] maxLocals)) (T173.setTop (mkF m 166 #[iv p1, iv p2, iv p3, iv p4, rv b2, rv pP_56, rv pP_100, rv b136, iv x155, rv b158, .val .null, rv b168, un, un, un, un, un] [(.int x155), (.int (0 : Int32)), (.ref b136), (.ref pP_56), (.ref b168)])) := fun t k => P179 t (by
          show Steps p.tables e below (T173.setTop (mkF m 154 #[iv p1, iv p2, iv p3, iv p4, rv b2, rv pP_56, rv pP_100, rv b136, iv x155, rv b158, .val .null, rv b168, un, un, un, un, un] [(.int x178)])) t
          refine XS.ifNo X173.here hx rfl (hb hby at_154) rfl ((if0 _ _).trans (feq c181).1) ?_
          refine XS.aload X173.here hx rfl (hb hby at_157) rfl rfl ?_
          refine XS.aload X173.here hx rfl (hb hby at_159) rfl rfl ?_
          show Steps p.tables e below (T173.setTop (mkF m 161 #[iv p1, iv p2, iv p3, iv p4, rv b2, rv pP_56, rv pP_100, rv b136, iv x155, rv b158, .val .null, rv b168, un, un, un, un, un] [(.ref pP_56), (.ref b168)])) t
          refine XS.aload X173.here hx rfl (hb hby at_161) rfl rfl ?_
          refine XS.iconst X173.here hx rfl (hb hby at_163) ?_
          refine XS.iload X173.here hx rfl (hb hby at_164) rfl ?_
          exact k)
        have f186 : Arv Z T173.heap b136 k136 .char (2 : Int32) [(.int (nar .char x145)), (.int (nar .char x150))] (.int (0 : Int32)) := (((V153.ext E158).ext E168).keep K173 (ninS ne_b136_b168 nin0))
        have f187 : n0 ≤ T173.heap.size := (Nat.le_trans f174 K173.1)
        obtain ⟨cq185, kq185, q185a, q185b, q185c⟩ := isOf hZ rfl E1_173
        obtain ⟨_, _, ⟨T185, L185, k185, n185⟩, -, X185, ⟨Lc185, hQ185, l185, y185, z185⟩, st185⟩ := X173.virtualBack hx (y := (⟨"com/example/rideau/rideau/internal/HeldText", "text", "(Lcom/example/rideau/rideau/internal/HeldText$Piece;[CII)V"⟩ : MethodName)) (z := (⟨"com/example/rideau/rideau/internal/HeldText", "text", "(Lcom/example/rideau/rideau/internal/HeldText$Piece;[CII)V"⟩ : MethodName)) hown (mvT hZ (hw _ (List.mem_of_getElem? (i := 61) rfl))) (mvT hZ (hw _ (List.mem_of_getElem? (i := 62) rfl))) (notFace_of_selects (args := #[]) (mvT hZ (hw _ (List.mem_of_getElem? (i := 64) rfl)))) (mvT hZ (hw _ (List.mem_of_getElem? (i := 64) rfl))) (mvT hZ (hw _ (List.mem_of_getElem? (i := 63) rfl))) (by decide) (backOf (W := 0) (rmTS l Z a0 hw [] b168 ac_173 ap_173 ae_173 an_173 kc_173 kp_173 ke_173 kn_173 pP_56 b136 k136 [(.int (nar .char x145)), (.int (nar .char x150))] x155 (256 : Int32) vc_173 vp_173 ve_173 vn_173 T173.heap n0 f187 E1_173 F_chars_173 F_pieces_173 F_ends_173 F_names_173 F_size_173 F_length_173 VC_173 VP_173 VE_173 VN_173 (f175.keep K173) f186 g_b168 g_ac_173 g_ap_173 g_ae_173 g_an_173 ne_b168_ac_173 ne_b168_ap_173 ne_b168_ae_173 ne_b168_an_173 n_ac_ap_173 n_ac_ae_173 n_ac_an_173 n_ap_ae_173 n_ap_an_173 n_ae_an_173 Op_173 On_173 hvp_173 hve_173 hvn_173 hct (by decide) ne_b136_b168) hZ (hw _ (List.mem_of_getElem? (i := 65) rfl)) (hw _ (List.mem_of_getElem? (i := 23) rfl)) (by decide) (by decide)) q185a q185c (g := (mkF m 166 #[iv p1, iv p2, iv p3, iv p4, rv b2, rv pP_56, rv pP_100, rv b136, iv x155, rv b158, .val .null, rv b168, un, un, un, un, un] [(.int x155), (.int (0 : Int32)), (.ref b136), (.ref pP_56), (.ref b168)])) rfl (by rw [hml]; rfl) (Steps.refl _) (argsL := [(.ref pP_56), (.ref b136), (.int (0 : Int32)), (.int x155)]) (rest := []) (lenOf pd_7 rfl) rfl (by show 2 * 0 + _ ≤ _; exact Nat.le_of_eq rfl) (hb hby at_166) (fun _ _ => ⟨rfl, rfl, (by decide : 8 + 0 ≤ _), (by decide : 9319 + 0 ≤ _)⟩)
        dsimp only [Pt.U, Pt.locs, Pt.cells, Pt.slots] at X185 l185 y185 z185 st185 hQ185
        subst y185 z185
        obtain ⟨szx_185, lnx_185, vcx_185, vpx_185, vex_185, vnx_185, rfl, N185q, K185, E1_185, F_chars_185, F_pieces_185, F_ends_185, F_names_185, F_size_185, F_length_185, VC_185, VP_185, VE_185, VN_185, hszx_185, hlnx_185, hvpx_185, hvex_185, hvnx_185⟩ := hQ185
        have N185 : Fr n0 L185 := by rw [l185]; exact Fr.app N173 N185q
        have P188 : Rch p e below (s₁.setTop (entryFrame m #[(.int p1), (.int p2), (.int p3), (.int p4)] maxLocals)) (T185.setTop (mkF m 169 #[iv p1, iv p2, iv p3, iv p4, rv b2, rv pP_56, rv pP_100, rv b136, iv x155, rv b158, .val .null, rv b168, un, un, un, un, un] [])) := fun t k => P184 t (st185.trans k)
        have f189 : n0 ≤ T185.heap.size := (Nat.le_trans f187 K185.1)
        exact ⟨T185, _, T185.heap, szx_185, lnx_185, vpx_185, vex_185, vnx_185, vcx_185, X185, rfl, N185, f189, ((Keep.refl T173.heap [b168, ac_173, ap_173, ae_173, an_173]).trans K185 (allS (P := fun x => x ∈ ([b168, ac_173, ap_173, ae_173, an_173] : List Addr) ∨ T173.heap.size ≤ x) (Or.inl (List.mem_of_getElem? (i := 0) rfl)) (allS (P := fun x => x ∈ ([b168, ac_173, ap_173, ae_173, an_173] : List Addr) ∨ T173.heap.size ≤ x) (Or.inl (List.mem_of_getElem? (i := 1) rfl)) (allS (P := fun x => x ∈ ([b168, ac_173, ap_173, ae_173, an_173] : List Addr) ∨ T173.heap.size ≤ x) (Or.inl (List.mem_of_getElem? (i := 2) rfl)) (allS (P := fun x => x ∈ ([b168, ac_173, ap_173, ae_173, an_173] : List Addr) ∨ T173.heap.size ≤ x) (Or.inl (List.mem_of_getElem? (i := 3) rfl)) (allS (P := fun x => x ∈ ([b168, ac_173, ap_173, ae_173, an_173] : List Addr) ∨ T173.heap.size ≤ x) (Or.inl (List.mem_of_getElem? (i := 4) rfl)) all0)))))), F_chars_185, F_pieces_185, F_ends_185, F_names_185, F_size_185, F_length_185, VC_185, VP_185, VE_185, VN_185, hvpx_185, hvex_185, hvnx_185, hlnx_185, (by omega), ⟨fun q => absurd q c181, fun _ => by omega⟩, P188⟩
    obtain ⟨x190, hx190⟩ : ∃ z : Int32, z = (p1 &&& (2 : Int32)) := ⟨_, rfl⟩
    have P191 : Rch p e below (s₁.setTop (entryFrame m #[(.int p1), (.int p2), (.int p3), (.int p4)] maxLocals)) (T180.setTop (mkF m 172 #[iv p1, iv p2, iv p3, iv p4, rv b2, rv pP_56, rv pP_100, rv b136, iv x155, rv b158, .val .null, rv b168, un, un, un, un, un] [(.int x190)])) := fun t k => P180 t (by
      subst hx190
      show Steps p.tables e below (T180.setTop (mkF m 169 #[iv p1, iv p2, iv p3, iv p4, rv b2, rv pP_56, rv pP_100, rv b136, iv x155, rv b158, .val .null, rv b168, un, un, un, un, un] [])) t
      refine XS.iloadN X180.here hx rfl (hb hby at_169) rfl ?_
      refine XS.iconst X180.here hx rfl (hb hby at_170) ?_
      refine XS.iand X180.here hx rfl (hb hby at_171) rfl ?_
      exact k)
    obtain ⟨T192, L192, h192, sj_192, lj_192, vpj_192, vej_192, vnj_192, vcj_192, X192, e192, N192, Z192, K192, F_chars_192, F_pieces_192, F_ends_192, F_names_192, F_size_192, F_length_192, VC_192, VP_192, VE_192, VN_192, hvpj_192, hvej_192, hvnj_192, hlj_192, hbj_192, hall_192, P192⟩ : ∃ (T192 : State) (L192 : List Loc) (h192 : Heap) (sj_192 : Int32) (lj_192 : Int32) (vpj_192 : List Value) (vej_192 : List Value) (vnj_192 : List Value) (vcj_192 : List Value), Stand p l e room_1 s m #[(.int p1), (.int p2), (.int p3), (.int p4)] below meth c T192 L192 8 9319 ∧ T192.heap = h192 ∧ Fr n0 L192 ∧ n0 ≤ h192.size ∧ Keep h180 h192 [b168, ap_173, ae_173, an_173] ∧ (Fld Z h192 b168 "com/example/rideau/rideau/internal/HeldText" "chars" "[C" (.ref ac_173)) ∧ (Fld Z h192 b168 "com/example/rideau/rideau/internal/HeldText" "pieces" "[Lcom/example/rideau/rideau/internal/HeldText$Piece;" (.ref ap_173)) ∧ (Fld Z h192 b168 "com/example/rideau/rideau/internal/HeldText" "ends" "[I" (.ref ae_173)) ∧ (Fld Z h192 b168 "com/example/rideau/rideau/internal/HeldText" "names" "[Ljava/lang/String;" (.ref an_173)) ∧ (Fld Z h192 b168 "com/example/rideau/rideau/internal/HeldText" "size" "I" (.int sj_192)) ∧ (Fld Z h192 b168 "com/example/rideau/rideau/internal/HeldText" "length" "I" (.int lj_192)) ∧ (Arv Z h192 ac_173 kc_173 .char (256 : Int32) vcj_192 (.int (0 : Int32))) ∧ (Arv Z h192 ap_173 kp_173 (.object "com/example/rideau/rideau/internal/HeldText$Piece") (16 : Int32) vpj_192 .null) ∧ (Arv Z h192 ae_173 ke_173 .int (16 : Int32) vej_192 (.int (0 : Int32))) ∧ (Arv Z h192 an_173 kn_173 (.object "java/lang/String") (16 : Int32) vnj_192 .null) ∧ (vpj_192.length = 16) ∧ (vej_192.length = 16) ∧ (vnj_192.length = 16) ∧ (0 ≤ lj_192.toInt ∧ lj_192.toInt ≤ 2) ∧ (0 ≤ sj_192.toInt ∧ sj_192.toInt ≤ 2) ∧ ((x178 = (0 : Int32) ∧ x190 = (0 : Int32) → sj_192 = (0 : Int32)) ∧ (¬ (x178 = (0 : Int32) ∧ x190 = (0 : Int32)) → 1 ≤ sj_192.toInt)) ∧ Rch p e below (s₁.setTop (entryFrame m #[(.int p1), (.int p2), (.int p3), (.int p4)] maxLocals)) (T192.setTop (mkF m 184 #[iv p1, iv p2, iv p3, iv p4, rv b2, rv pP_56, rv pP_100, rv b136, iv x155, rv b158, .val .null, rv b168, un, un, un, un, un] [])) := by
      by_cases c193 : x190 = (0 : Int32)
      · have P194 : Rch p e below (s₁.setTop (entryFrame m #[(.int p1), (.int p2), (.int p3), (.int p4)] maxLocals)) (T180.setTop (mkF m 184 #[iv p1, iv p2, iv p3, iv p4, rv b2, rv pP_56, rv pP_100, rv b136, iv x155, rv b158, .val .null, rv b168, un, un, un, un, un] [])) := fun t k => P191 t (by
          show Steps p.tables e below (T180.setTop (mkF m 172 #[iv p1, iv p2, iv p3, iv p4, rv b2, rv pP_56, rv pP_100, rv b136, iv x155, rv b158, .val .null, rv b168, un, un, un, un, un] [(.int x190)])) t
          refine XS.ifYes X180.here hx rfl (pc0 := 172) (pc' := 184) rfl (hb hby at_172) rfl ((if0 _ _).trans (teq c193).1) (by decide) (by decide) ?_
          exact k)
        exact ⟨T180, _, h180, sj_180, lj_180, vpj_180, vej_180, vnj_180, vcj_180, X180, e180, N180, Z180, (Keep.refl h180 [b168, ap_173, ae_173, an_173]), F_chars_180, F_pieces_180, F_ends_180, F_names_180, F_size_180, F_length_180, VC_180, VP_180, VE_180, VN_180, hvpj_180, hvej_180, hvnj_180, hlj_180, (by omega), ⟨fun q => hall_180.1 q.1, fun q => hall_180.2 (fun q0 => q ⟨q0, c193⟩)⟩, P194⟩
      · have P195 : Rch p e below (s₁.setTop (entryFrame m #[(.int p1), (.int p2), (.int p3), (.int p4)] maxLocals)) (T180.setTop (mkF m 181 #[iv p1, iv p2, iv p3, iv p4, rv b2, rv pP_56, rv pP_100, rv b136, iv x155, rv b158, .val .null, rv b168, un, un, un, un, un] [.null, (.ref pP_100), (.ref b168)])) := fun t k => P191 t (by
          show Steps p.tables e below (T180.setTop (mkF m 172 #[iv p1, iv p2, iv p3, iv p4, rv b2, rv pP_56, rv pP_100, rv b136, iv x155, rv b158, .val .null, rv b168, un, un, un, un, un] [(.int x190)])) t
          refine XS.ifNo X180.here hx rfl (hb hby at_172) rfl ((if0 _ _).trans (feq c193).1) ?_
          refine XS.aload X180.here hx rfl (hb hby at_175) rfl rfl ?_
          refine XS.aload X180.here hx rfl (hb hby at_177) rfl rfl ?_
          show Steps p.tables e below (T180.setTop (mkF m 179 #[iv p1, iv p2, iv p3, iv p4, rv b2, rv pP_56, rv pP_100, rv b136, iv x155, rv b158, .val .null, rv b168, un, un, un, un, un] [(.ref pP_100), (.ref b168)])) t
          refine XS.aload X180.here hx rfl (hb hby at_179) rfl rfl ?_
          exact k)
        have f197 : Exa Z h180 pP_100 "com/example/rideau/rideau/internal/HeldText$Piece" := (((((((Ep_100.ext E136).wr W148).wr W153).ext E158).ext E168).keep K173).keep K180)
        obtain ⟨cq196, kq196, q196a, q196b, q196c⟩ := isOf hZ e180 (E1_173.keep K180)
        obtain ⟨_, _, ⟨T196, L196, k196, n196⟩, -, X196, ⟨Lc196, hQ196, l196, y196, z196⟩, st196⟩ := X180.virtualBack hx (y := (⟨"com/example/rideau/rideau/internal/HeldText", "add", "(Lcom/example/rideau/rideau/internal/HeldText$Piece;Ljava/lang/String;)V"⟩ : MethodName)) (z := (⟨"com/example/rideau/rideau/internal/HeldText", "add", "(Lcom/example/rideau/rideau/internal/HeldText$Piece;Ljava/lang/String;)V"⟩ : MethodName)) hown (mvT hZ (hw _ (List.mem_of_getElem? (i := 56) rfl))) (mvT hZ (hw _ (List.mem_of_getElem? (i := 57) rfl))) (notFace_of_selects (args := #[]) (mvT hZ (hw _ (List.mem_of_getElem? (i := 59) rfl)))) (mvT hZ (hw _ (List.mem_of_getElem? (i := 59) rfl))) (mvT hZ (hw _ (List.mem_of_getElem? (i := 58) rfl))) (by decide) (backOf (W := 0) (rmAN l Z a0 hw [] b168 ac_173 ap_173 ae_173 an_173 kp_173 ke_173 kn_173 pP_100 sj_180 lj_180 vpj_180 vej_180 vnj_180 h180 n0 Z180 (E1_173.keep K180) F_chars_180 F_pieces_180 F_ends_180 F_names_180 F_size_180 F_length_180 VP_180 VE_180 VN_180 f197 g_b168 g_ac_173 g_ap_173 g_ae_173 g_an_173 ne_b168_ac_173 ne_b168_ap_173 ne_b168_ae_173 ne_b168_an_173 n_ac_ap_173 n_ac_ae_173 n_ac_an_173 n_ap_ae_173 n_ap_an_173 n_ae_an_173 Op_173 On_173 hvpj_180 hvej_180 hvnj_180 ⟨by omega, by omega⟩) hZ (hw _ (List.mem_of_getElem? (i := 60) rfl)) (hw _ (List.mem_of_getElem? (i := 23) rfl)) (by decide) (by decide)) q196a q196c (g := (mkF m 181 #[iv p1, iv p2, iv p3, iv p4, rv b2, rv pP_56, rv pP_100, rv b136, iv x155, rv b158, .val .null, rv b168, un, un, un, un, un] [.null, (.ref pP_100), (.ref b168)])) rfl (by rw [hml]; rfl) (Steps.refl _) (argsL := [(.ref pP_100), .null]) (rest := []) (lenOf pd_0 rfl) rfl (by show 2 * 0 + _ ≤ _; exact Nat.le_of_eq rfl) (hb hby at_181) (fun _ _ => ⟨rfl, e180, (by decide : 8 + 0 ≤ _), (by decide : 9319 + 0 ≤ _)⟩)
        dsimp only [Pt.U, Pt.locs, Pt.cells, Pt.slots] at X196 l196 y196 z196 st196 hQ196
        subst y196 z196
        obtain ⟨szx_196, vpx_196, vex_196, vnx_196, rfl, N196q, K196, E1_196, F_chars_196, F_pieces_196, F_ends_196, F_names_196, F_size_196, F_length_196, VP_196, VE_196, VN_196, hszx_196, hvpx_196, hvex_196, hvnx_196⟩ := hQ196
        have N196 : Fr n0 L196 := by rw [l196]; exact Fr.app N180 N196q
        have P198 : Rch p e below (s₁.setTop (entryFrame m #[(.int p1), (.int p2), (.int p3), (.int p4)] maxLocals)) (T196.setTop (mkF m 184 #[iv p1, iv p2, iv p3, iv p4, rv b2, rv pP_56, rv pP_100, rv b136, iv x155, rv b158, .val .null, rv b168, un, un, un, un, un] [])) := fun t k => P195 t (st196.trans k)
        have f199 : Arv Z T196.heap ac_173 kc_173 .char (256 : Int32) vcj_180 (.int (0 : Int32)) := (VC_180.keep K196 (ninS (Ne.symm ne_b168_ac_173) (ninS n_ac_ap_173 (ninS n_ac_ae_173 (ninS n_ac_an_173 nin0)))))
        have f200 : n0 ≤ T196.heap.size := (Nat.le_trans Z180 K196.1)
        exact ⟨T196, _, T196.heap, szx_196, lj_180, vpx_196, vex_196, vnx_196, vcj_180, X196, rfl, N196, f200, ((Keep.refl h180 [b168, ap_173, ae_173, an_173]).trans K196 (allS (P := fun x => x ∈ ([b168, ap_173, ae_173, an_173] : List Addr) ∨ h180.size ≤ x) (Or.inl (List.mem_of_getElem? (i := 0) rfl)) (allS (P := fun x => x ∈ ([b168, ap_173, ae_173, an_173] : List Addr) ∨ h180.size ≤ x) (Or.inl (List.mem_of_getElem? (i := 1) rfl)) (allS (P := fun x => x ∈ ([b168, ap_173, ae_173, an_173] : List Addr) ∨ h180.size ≤ x) (Or.inl (List.mem_of_getElem? (i := 2) rfl)) (allS (P := fun x => x ∈ ([b168, ap_173, ae_173, an_173] : List Addr) ∨ h180.size ≤ x) (Or.inl (List.mem_of_getElem? (i := 3) rfl)) all0))))), F_chars_196, F_pieces_196, F_ends_196, F_names_196, F_size_196, F_length_196, f199, VP_196, VE_196, VN_196, hvpx_196, hvex_196, hvnx_196, hlj_180, (by omega), ⟨fun q => absurd q.2 c193, fun _ => by omega⟩, P198⟩
    obtain ⟨x201, hx201⟩ : ∃ z : Int32, z = (p1 &&& (4 : Int32)) := ⟨_, rfl⟩
    have P202 : Rch p e below (s₁.setTop (entryFrame m #[(.int p1), (.int p2), (.int p3), (.int p4)] maxLocals)) (T192.setTop (mkF m 187 #[iv p1, iv p2, iv p3, iv p4, rv b2, rv pP_56, rv pP_100, rv b136, iv x155, rv b158, .val .null, rv b168, un, un, un, un, un] [(.int x201)])) := fun t k => P192 t (by
      subst hx201
      show Steps p.tables e below (T192.setTop (mkF m 184 #[iv p1, iv p2, iv p3, iv p4, rv b2, rv pP_56, rv pP_100, rv b136, iv x155, rv b158, .val .null, rv b168, un, un, un, un, un] [])) t
      refine XS.iloadN X192.here hx rfl (hb hby at_184) rfl ?_
      refine XS.iconst X192.here hx rfl (hb hby at_185) ?_
      refine XS.iand X192.here hx rfl (hb hby at_186) rfl ?_
      exact k)
    obtain ⟨T203, L203, h203, sj_203, lj_203, vpj_203, vej_203, vnj_203, acj_203, kcj_203, zcj_203, vcj_203, X203, e203, N203, Z203, K203, F_chars_203, F_pieces_203, F_ends_203, F_names_203, F_size_203, F_length_203, VC_203, VP_203, VE_203, VN_203, hvpj_203, hvej_203, hvnj_203, gj_203, nj0_203, nj1_203, nj2_203, nj3_203, hzj_203, hbj_203, hall_203, P203⟩ : ∃ (T203 : State) (L203 : List Loc) (h203 : Heap) (sj_203 : Int32) (lj_203 : Int32) (vpj_203 : List Value) (vej_203 : List Value) (vnj_203 : List Value) (acj_203 : Addr) (kcj_203 : ClassId) (zcj_203 : Int32) (vcj_203 : List Value), Stand p l e room_1 s m #[(.int p1), (.int p2), (.int p3), (.int p4)] below meth c T203 L203 9 18321 ∧ T203.heap = h203 ∧ Fr n0 L203 ∧ n0 ≤ h203.size ∧ Keep h192 h203 [b168, ap_173, ae_173, an_173] ∧ (Fld Z h203 b168 "com/example/rideau/rideau/internal/HeldText" "chars" "[C" (.ref acj_203)) ∧ (Fld Z h203 b168 "com/example/rideau/rideau/internal/HeldText" "pieces" "[Lcom/example/rideau/rideau/internal/HeldText$Piece;" (.ref ap_173)) ∧ (Fld Z h203 b168 "com/example/rideau/rideau/internal/HeldText" "ends" "[I" (.ref ae_173)) ∧ (Fld Z h203 b168 "com/example/rideau/rideau/internal/HeldText" "names" "[Ljava/lang/String;" (.ref an_173)) ∧ (Fld Z h203 b168 "com/example/rideau/rideau/internal/HeldText" "size" "I" (.int sj_203)) ∧ (Fld Z h203 b168 "com/example/rideau/rideau/internal/HeldText" "length" "I" (.int lj_203)) ∧ (Arv Z h203 acj_203 kcj_203 .char zcj_203 vcj_203 (.int (0 : Int32))) ∧ (Arv Z h203 ap_173 kp_173 (.object "com/example/rideau/rideau/internal/HeldText$Piece") (16 : Int32) vpj_203 .null) ∧ (Arv Z h203 ae_173 ke_173 .int (16 : Int32) vej_203 (.int (0 : Int32))) ∧ (Arv Z h203 an_173 kn_173 (.object "java/lang/String") (16 : Int32) vnj_203 .null) ∧ (vpj_203.length = 16) ∧ (vej_203.length = 16) ∧ (vnj_203.length = 16) ∧ (n0 ≤ acj_203) ∧ (acj_203 ≠ b168) ∧ (acj_203 ≠ ap_173) ∧ (acj_203 ≠ ae_173) ∧ (acj_203 ≠ an_173) ∧ (256 ≤ zcj_203.toInt) ∧ (0 ≤ sj_203.toInt ∧ sj_203.toInt ≤ 3) ∧ ((x178 = (0 : Int32) ∧ x190 = (0 : Int32) ∧ x201 = (0 : Int32) → sj_203 = (0 : Int32)) ∧ (¬ (x178 = (0 : Int32) ∧ x190 = (0 : Int32) ∧ x201 = (0 : Int32)) → 1 ≤ sj_203.toInt)) ∧ Rch p e below (s₁.setTop (entryFrame m #[(.int p1), (.int p2), (.int p3), (.int p4)] maxLocals)) (T203.setTop (mkF m 204 #[iv p1, iv p2, iv p3, iv p4, rv b2, rv pP_56, rv pP_100, rv b136, iv x155, rv b158, .val .null, rv b168, un, un, un, un, un] [])) := by
      by_cases c204 : x201 = (0 : Int32)
      · have P205 : Rch p e below (s₁.setTop (entryFrame m #[(.int p1), (.int p2), (.int p3), (.int p4)] maxLocals)) (T192.setTop (mkF m 204 #[iv p1, iv p2, iv p3, iv p4, rv b2, rv pP_56, rv pP_100, rv b136, iv x155, rv b158, .val .null, rv b168, un, un, un, un, un] [])) := fun t k => P202 t (by
          show Steps p.tables e below (T192.setTop (mkF m 187 #[iv p1, iv p2, iv p3, iv p4, rv b2, rv pP_56, rv pP_100, rv b136, iv x155, rv b158, .val .null, rv b168, un, un, un, un, un] [(.int x201)])) t
          refine XS.ifYes X192.here hx rfl (pc0 := 187) (pc' := 204) rfl (hb hby at_187) rfl ((if0 _ _).trans (teq c204).1) (by decide) (by decide) ?_
          exact k)
        exact ⟨T192, _, h192, sj_192, lj_192, vpj_192, vej_192, vnj_192, ac_173, kc_173, (256 : Int32), vcj_192, (own_more X192 (by decide) (by decide)), e192, N192, Z192, (Keep.refl h192 [b168, ap_173, ae_173, an_173]), F_chars_192, F_pieces_192, F_ends_192, F_names_192, F_size_192, F_length_192, VC_192, VP_192, VE_192, VN_192, hvpj_192, hvej_192, hvnj_192, g_ac_173, (Ne.symm ne_b168_ac_173), n_ac_ap_173, n_ac_ae_173, n_ac_an_173, (by decide), (by omega), ⟨fun q => hall_192.1 ⟨q.1, q.2.1⟩, fun q => hall_192.2 (fun q0 => q ⟨q0.1, q0.2, c204⟩)⟩, P205⟩
      · have P206 : Rch p e below (s₁.setTop (entryFrame m #[(.int p1), (.int p2), (.int p3), (.int p4)] maxLocals)) (T192.setTop (mkF m 192 #[iv p1, iv p2, iv p3, iv p4, rv b2, rv pP_56, rv pP_100, rv b136, iv x155, rv b158, .val .null, rv b168, un, un, un, un, un] [(.ref b168)])) := fun t k => P202 t (by
          show Steps p.tables e below (T192.setTop (mkF m 187 #[iv p1, iv p2, iv p3, iv p4, rv b2, rv pP_56, rv pP_100, rv b136, iv x155, rv b158, .val .null, rv b168, un, un, un, un, un] [(.int x201)])) t
          refine XS.ifNo X192.here hx rfl (hb hby at_187) rfl ((if0 _ _).trans (feq c204).1) ?_
          refine XS.aload X192.here hx rfl (hb hby at_190) rfl rfl ?_
          exact k)
        have f208 : Old Z n0 h192 := (((((((((((f48.wr W51 g_b2).keep K56 all0).keep K100 all0).ext E136).wr W148 g_b136).wr W153 g_b136).ext E158).ext E168).keep K173 (allS g_b168 all0)).keep K180 (allS g_b168 (allS g_ac_173 (allS g_ap_173 (allS g_ae_173 (allS g_an_173 all0)))))).keep K192 (allS g_b168 (allS g_ap_173 (allS g_ae_173 (allS g_an_173 all0)))))
        obtain ⟨T207, X207, e207, st207⟩ := getS2 X192 hx hZ hown (host := "") (Or.inl (hw _ (List.mem_of_getElem? (i := 2) rfl))) Via.refl e192 (S_0.ext f208.2) (g := (mkF m 192 #[iv p1, iv p2, iv p3, iv p4, rv b2, rv pP_56, rv pP_100, rv b136, iv x155, rv b158, .val .null, rv b168, un, un, un, un, un] [(.ref b168)])) rfl (hb hby at_192)
        have P209 : Rch p e below (s₁.setTop (entryFrame m #[(.int p1), (.int p2), (.int p3), (.int p4)] maxLocals)) (T207.setTop (mkF m 195 #[iv p1, iv p2, iv p3, iv p4, rv b2, rv pP_56, rv pP_100, rv b136, iv x155, rv b158, .val .null, rv b168, un, un, un, un, un] [(.ref x_0), (.ref b168)])) := fun t k => P206 t (st207 t k)
        have P210 : Rch p e below (s₁.setTop (entryFrame m #[(.int p1), (.int p2), (.int p3), (.int p4)] maxLocals)) (T207.setTop (mkF m 201 #[iv p1, iv p2, iv p3, iv p4, rv b2, rv pP_56, rv pP_100, rv b136, iv x155, rv b158, .val .null, rv b168, un, un, un, un, un] [(.int (9000 : Int32)), (.int (0 : Int32)), (.ref b158), (.ref x_0), (.ref b168)])) := fun t k => P209 t (by
          show Steps p.tables e below (T207.setTop (mkF m 195 #[iv p1, iv p2, iv p3, iv p4, rv b2, rv pP_56, rv pP_100, rv b136, iv x155, rv b158, .val .null, rv b168, un, un, un, un, un] [(.ref x_0), (.ref b168)])) t
          refine XS.aload X207.here hx rfl (hb hby at_195) rfl rfl ?_
          refine XS.iconst X207.here hx rfl (hb hby at_197) ?_
          refine XS.sipush X207.here hx rfl (hb hby at_198) ?_
          exact k)
        have f212 : Exa Z h192 x_0 "com/example/rideau/rideau/internal/HeldText$Piece" := ((((((((f137.ext E136).wr W148).wr W153).ext E158).ext E168).keep K173).keep K180).keep K192)
        have f213 : Arv Z h192 b158 k158 .char (9000 : Int32) [] (.int (0 : Int32)) := ((((V158.ext E168).keep K173 (ninS ne_b158_b168 nin0)).keep K180 (ninS ne_b158_b168 (ninS ne_b158_ac_173 (ninS ne_b158_ap_173 (ninS ne_b158_ae_173 (ninS ne_b158_an_173 nin0)))))).keep K192 (ninS ne_b158_b168 (ninS ne_b158_ap_173 (ninS ne_b158_ae_173 (ninS ne_b158_an_173 nin0)))))
        obtain ⟨cq211, kq211, q211a, q211b, q211c⟩ := isOf hZ e207 ((E1_173.keep K180).keep K192)
        obtain ⟨_, _, ⟨T211, L211, k211, n211⟩, -, X211, ⟨Lc211, hQ211, l211, y211, z211⟩, st211⟩ := X207.virtualBack hx (y := (⟨"com/example/rideau/rideau/internal/HeldText", "text", "(Lcom/example/rideau/rideau/internal/HeldText$Piece;[CII)V"⟩ : MethodName)) (z := (⟨"com/example/rideau/rideau/internal/HeldText", "text", "(Lcom/example/rideau/rideau/internal/HeldText$Piece;[CII)V"⟩ : MethodName)) hown (mvT hZ (hw _ (List.mem_of_getElem? (i := 61) rfl))) (mvT hZ (hw _ (List.mem_of_getElem? (i := 62) rfl))) (notFace_of_selects (args := #[]) (mvT hZ (hw _ (List.mem_of_getElem? (i := 64) rfl)))) (mvT hZ (hw _ (List.mem_of_getElem? (i := 64) rfl))) (mvT hZ (hw _ (List.mem_of_getElem? (i := 63) rfl))) (by decide) (backOf (W := 0) (rmTB l Z a0 hw [] b168 ac_173 ap_173 ae_173 an_173 kc_173 kp_173 ke_173 kn_173 x_0 b158 k158 [] sj_192 lj_192 vcj_192 vpj_192 vej_192 vnj_192 h192 n0 Z192 ((E1_173.keep K180).keep K192) F_chars_192 F_pieces_192 F_ends_192 F_names_192 F_size_192 F_length_192 VC_192 VP_192 VE_192 VN_192 f212 f213 g_b168 g_ac_173 g_ap_173 g_ae_173 g_an_173 ne_b168_ac_173 ne_b168_ap_173 ne_b168_ae_173 ne_b168_an_173 n_ac_ap_173 n_ac_ae_173 n_ac_an_173 n_ap_ae_173 n_ap_an_173 n_ae_an_173 Op_173 On_173 hvpj_192 hvej_192 hvnj_192 ⟨by omega, by omega⟩ hlj_192 ne_b158_b168) hZ (hw _ (List.mem_of_getElem? (i := 65) rfl)) (hw _ (List.mem_of_getElem? (i := 23) rfl)) (by decide) (by decide)) q211a q211c (g := (mkF m 201 #[iv p1, iv p2, iv p3, iv p4, rv b2, rv pP_56, rv pP_100, rv b136, iv x155, rv b158, .val .null, rv b168, un, un, un, un, un] [(.int (9000 : Int32)), (.int (0 : Int32)), (.ref b158), (.ref x_0), (.ref b168)])) rfl (by rw [hml]; rfl) (Steps.refl _) (argsL := [(.ref x_0), (.ref b158), (.int (0 : Int32)), (.int (9000 : Int32))]) (rest := []) (lenOf pd_7 rfl) rfl (by show 2 * 0 + _ ≤ _; exact Nat.le_of_eq rfl) (hb hby at_201) (fun _ _ => ⟨rfl, e207, (by decide : 8 + 1 ≤ _), (by decide : 9319 + 9002 ≤ _)⟩)
        dsimp only [Pt.U, Pt.locs, Pt.cells, Pt.slots] at X211 l211 y211 z211 st211 hQ211
        subst y211 z211
        have f214 : Exa Z h192 x_1 "com/example/rideau/rideau/internal/HeldText$Piece" := ((((((((f138.ext E136).wr W148).wr W153).ext E158).ext E168).keep K173).keep K180).keep K192)
        have f215 : Exa Z h192 x_2 "com/example/rideau/rideau/internal/HeldText$Piece" := ((((((((f139.ext E136).wr W148).wr W153).ext E158).ext E168).keep K173).keep K180).keep K192)
        have f216 : Exa Z h192 x_3 "com/example/rideau/rideau/internal/HeldText$Piece" := ((((((((f140.ext E136).wr W148).wr W153).ext E158).ext E168).keep K173).keep K180).keep K192)
        have f217 : Exa Z h192 x_4 "com/example/rideau/rideau/internal/HeldText$Piece" := ((((((((f141.ext E136).wr W148).wr W153).ext E158).ext E168).keep K173).keep K180).keep K192)
        have f218 : Exa Z h192 x_5 "com/example/rideau/rideau/internal/HeldText$Piece" := ((((((((f142.ext E136).wr W148).wr W153).ext E158).ext E168).keep K173).keep K180).keep K192)
        have f219 : Exa Z h192 x_6 "com/example/rideau/rideau/internal/HeldText$Piece" := (((((f159.ext E158).ext E168).keep K173).keep K180).keep K192)
        have f220 : Arv Z h192 b2 k2 (.object "com/example/rideau/rideau/internal/HeldText$Piece") (7 : Int32) [(.ref x_0), (.ref x_1), (.ref x_2), (.ref x_3), (.ref x_4), (.ref x_5), (.ref x_6)] .null := (((((f160.ext E158).ext E168).keep K173 (ninS ne_b2_b168 nin0)).keep K180 (ninS ne_b2_b168 (ninS ne_b2_ac_173 (ninS ne_b2_ap_173 (ninS ne_b2_ae_173 (ninS ne_b2_an_173 nin0)))))).keep K192 (ninS ne_b2_b168 (ninS ne_b2_ap_173 (ninS ne_b2_ae_173 (ninS ne_b2_an_173 nin0)))))
        have f221 : Exa Z h192 pP_100 "com/example/rideau/rideau/internal/HeldText$Piece" := ((((((((Ep_100.ext E136).wr W148).wr W153).ext E158).ext E168).keep K173).keep K180).keep K192)
        have f222 : Arv Z h192 b136 k136 .char (2 : Int32) [(.int (nar .char x145)), (.int (nar .char x150))] (.int (0 : Int32)) := (((((V153.ext E158).ext E168).keep K173 (ninS ne_b136_b168 nin0)).keep K180 (ninS ne_b136_b168 (ninS ne_b136_ac_173 (ninS ne_b136_ap_173 (ninS ne_b136_ae_173 (ninS ne_b136_an_173 nin0)))))).keep K192 (ninS ne_b136_b168 (ninS ne_b136_ap_173 (ninS ne_b136_ae_173 (ninS ne_b136_an_173 nin0)))))
        have f223 : Arv Z h192 ac_173 kc_173 .char (256 : Int32) vcj_180 (.int (0 : Int32)) := (VC_180.keep K192 (ninS (Ne.symm ne_b168_ac_173) (ninS n_ac_ap_173 (ninS n_ac_ae_173 (ninS n_ac_an_173 nin0)))))
        have f224 : Keep h0 h192 [] := (((f176.trans K173 (allS (P := fun x => x ∈ [] ∨ h0.size ≤ x) (Or.inr sz_b168) all0)).trans K180 (allS (P := fun x => x ∈ [] ∨ h0.size ≤ x) (Or.inr sz_b168) (allS (P := fun x => x ∈ [] ∨ h0.size ≤ x) (Or.inr sz_ac_173) (allS (P := fun x => x ∈ [] ∨ h0.size ≤ x) (Or.inr sz_ap_173) (allS (P := fun x => x ∈ [] ∨ h0.size ≤ x) (Or.inr sz_ae_173) (allS (P := fun x => x ∈ [] ∨ h0.size ≤ x) (Or.inr sz_an_173) all0)))))).trans K192 (allS (P := fun x => x ∈ [] ∨ h0.size ≤ x) (Or.inr sz_b168) (allS (P := fun x => x ∈ [] ∨ h0.size ≤ x) (Or.inr sz_ap_173) (allS (P := fun x => x ∈ [] ∨ h0.size ≤ x) (Or.inr sz_ae_173) (allS (P := fun x => x ∈ [] ∨ h0.size ≤ x) (Or.inr sz_an_173) all0)))))
        obtain ⟨szx_211, lnx_211, acx_211, kcx_211, zcx_211, vcx_211, vpx_211, vex_211, vnx_211, rfl, N211q, K211, Fz_211, E1_211, F_chars_211, F_pieces_211, F_ends_211, F_names_211, F_size_211, F_length_211, VC_211, VP_211, VE_211, VN_211, hszx_211, hzcx_211, hvpx_211, hvex_211, hvnx_211⟩ := hQ211
        have N211 : Fr n0 L211 := by rw [l211]; exact Fr.app N192 N211q
        have g_acx_211 : n0 ≤ acx_211 := Nat.le_trans Z192 Fz_211
        have sz_acx_211 : h0.size ≤ acx_211 := Nat.le_trans f224.1 Fz_211
        have ne_x_0_acx_211 : x_0 ≠ acx_211 := Nat.ne_of_lt (Nat.lt_of_lt_of_le f212.lt Fz_211)
        have ne_x_1_acx_211 : x_1 ≠ acx_211 := Nat.ne_of_lt (Nat.lt_of_lt_of_le f214.lt Fz_211)
        have ne_x_2_acx_211 : x_2 ≠ acx_211 := Nat.ne_of_lt (Nat.lt_of_lt_of_le f215.lt Fz_211)
        have ne_x_3_acx_211 : x_3 ≠ acx_211 := Nat.ne_of_lt (Nat.lt_of_lt_of_le f216.lt Fz_211)
        have ne_x_4_acx_211 : x_4 ≠ acx_211 := Nat.ne_of_lt (Nat.lt_of_lt_of_le f217.lt Fz_211)
        have ne_x_5_acx_211 : x_5 ≠ acx_211 := Nat.ne_of_lt (Nat.lt_of_lt_of_le f218.lt Fz_211)
        have ne_x_6_acx_211 : x_6 ≠ acx_211 := Nat.ne_of_lt (Nat.lt_of_lt_of_le f219.lt Fz_211)
        have ne_b2_acx_211 : b2 ≠ acx_211 := Nat.ne_of_lt (Nat.lt_of_lt_of_le f220.lt Fz_211)
        have ne_pP_56_acx_211 : pP_56 ≠ acx_211 := Nat.ne_of_lt (Nat.lt_of_lt_of_le (((f175.keep K173).keep K180).keep K192).lt Fz_211)
        have ne_pP_100_acx_211 : pP_100 ≠ acx_211 := Nat.ne_of_lt (Nat.lt_of_lt_of_le f221.lt Fz_211)
        have ne_b136_acx_211 : b136 ≠ acx_211 := Nat.ne_of_lt (Nat.lt_of_lt_of_le f222.lt Fz_211)
        have ne_b158_acx_211 : b158 ≠ acx_211 := Nat.ne_of_lt (Nat.lt_of_lt_of_le f213.lt Fz_211)
        have ne_b168_acx_211 : b168 ≠ acx_211 := Nat.ne_of_lt (Nat.lt_of_lt_of_le (((A168.keep K173).keep K180).keep K192).lt Fz_211)
        have ne_ac_173_acx_211 : ac_173 ≠ acx_211 := Nat.ne_of_lt (Nat.lt_of_lt_of_le f223.lt Fz_211)
        have ne_ap_173_acx_211 : ap_173 ≠ acx_211 := Nat.ne_of_lt (Nat.lt_of_lt_of_le VP_192.lt Fz_211)
        have ne_ae_173_acx_211 : ae_173 ≠ acx_211 := Nat.ne_of_lt (Nat.lt_of_lt_of_le VE_192.lt Fz_211)
        have ne_an_173_acx_211 : an_173 ≠ acx_211 := Nat.ne_of_lt (Nat.lt_of_lt_of_le VN_192.lt Fz_211)
        have P225 : Rch p e below (s₁.setTop (entryFrame m #[(.int p1), (.int p2), (.int p3), (.int p4)] maxLocals)) (T211.setTop (mkF m 204 #[iv p1, iv p2, iv p3, iv p4, rv b2, rv pP_56, rv pP_100, rv b136, iv x155, rv b158, .val .null, rv b168, un, un, un, un, un] [])) := fun t k => P210 t (st211.trans k)
        have f226 : n0 ≤ T211.heap.size := (Nat.le_trans Z192 K211.1)
        exact ⟨T211, _, T211.heap, szx_211, lnx_211, vpx_211, vex_211, vnx_211, acx_211, kcx_211, zcx_211, vcx_211, X211, rfl, N211, f226, ((Keep.refl h192 [b168, ap_173, ae_173, an_173]).trans K211 (allS (P := fun x => x ∈ ([b168, ap_173, ae_173, an_173] : List Addr) ∨ h192.size ≤ x) (Or.inl (List.mem_of_getElem? (i := 0) rfl)) (allS (P := fun x => x ∈ ([b168, ap_173, ae_173, an_173] : List Addr) ∨ h192.size ≤ x) (Or.inl (List.mem_of_getElem? (i := 1) rfl)) (allS (P := fun x => x ∈ ([b168, ap_173, ae_173, an_173] : List Addr) ∨ h192.size ≤ x) (Or.inl (List.mem_of_getElem? (i := 2) rfl)) (allS (P := fun x => x ∈ ([b168, ap_173, ae_173, an_173] : List Addr) ∨ h192.size ≤ x) (Or.inl (List.mem_of_getElem? (i := 3) rfl)) all0))))), F_chars_211, F_pieces_211, F_ends_211, F_names_211, F_size_211, F_length_211, VC_211, VP_211, VE_211, VN_211, hvpx_211, hvex_211, hvnx_211, g_acx_211, (Ne.symm ne_b168_acx_211), (Ne.symm ne_ap_173_acx_211), (Ne.symm ne_ae_173_acx_211), (Ne.symm ne_an_173_acx_211), hzcx_211, (by omega), ⟨fun q => absurd q.2.2 c204, fun _ => by omega⟩, P225⟩
    obtain ⟨x227, hx227⟩ : ∃ z : Int32, z = (p1 &&& (7 : Int32)) := ⟨_, rfl⟩
    have P228 : Rch p e below (s₁.setTop (entryFrame m #[(.int p1), (.int p2), (.int p3), (.int p4)] maxLocals)) (T203.setTop (mkF m 208 #[iv p1, iv p2, iv p3, iv p4, rv b2, rv pP_56, rv pP_100, rv b136, iv x155, rv b158, .val .null, rv b168, un, un, un, un, un] [(.int x227)])) := fun t k => P203 t (by
      subst hx227
      show Steps p.tables e below (T203.setTop (mkF m 204 #[iv p1, iv p2, iv p3, iv p4, rv b2, rv pP_56, rv pP_100, rv b136, iv x155, rv b158, .val .null, rv b168, un, un, un, un, un] [])) t
      refine XS.iloadN X203.here hx rfl (hb hby at_204) rfl ?_
      refine XS.bipush X203.here hx rfl (hb hby at_205) ?_
      refine XS.iand X203.here hx rfl (hb hby at_207) rfl ?_
      exact k)
    obtain ⟨v230, hv230, P231⟩ : ∃ (v230 : Int32), v230 = (if x227 = (0 : Int32) then (0 : Int32) else (1 : Int32)) ∧ Rch p e below (s₁.setTop (entryFrame m #[(.int p1), (.int p2), (.int p3), (.int p4)] maxLocals)) (T203.setTop (mkF m 216 #[iv p1, iv p2, iv p3, iv p4, rv b2, rv pP_56, rv pP_100, rv b136, iv x155, rv b158, .val .null, rv b168, un, un, un, un, un] [(.int v230)])) := by
      by_cases c229 : x227 = (0 : Int32)
      · refine ⟨(0 : Int32), (by first | rw [if_pos c229] | simp only [if_pos c229] | rfl), fun t k => P228 t ?_⟩
        show Steps p.tables e below (T203.setTop (mkF m 208 #[iv p1, iv p2, iv p3, iv p4, rv b2, rv pP_56, rv pP_100, rv b136, iv x155, rv b158, .val .null, rv b168, un, un, un, un, un] [(.int x227)])) t
        refine XS.ifYes X203.here hx rfl (pc0 := 208) (pc' := 215) rfl (hb hby at_208) rfl ((if0 _ _).trans (teq c229).1) (by decide) (by decide) ?_
        refine XS.iconst X203.here hx rfl (hb hby at_215) ?_
        exact k
      · refine ⟨(1 : Int32), (by first | rw [if_neg c229] | simp only [if_neg c229] | rfl), fun t k => P228 t ?_⟩
        show Steps p.tables e below (T203.setTop (mkF m 208 #[iv p1, iv p2, iv p3, iv p4, rv b2, rv pP_56, rv pP_100, rv b136, iv x155, rv b158, .val .null, rv b168, un, un, un, un, un] [(.int x227)])) t
        refine XS.ifNo X203.here hx rfl (hb hby at_208) rfl ((if0 _ _).trans (feq c229).1) ?_
        refine XS.iconst X203.here hx rfl (hb hby at_211) ?_
        refine XS.goto X203.here hx rfl (pc0 := 212) (pc' := 216) rfl (hb hby at_212) (by decide) (by decide) ?_
        exact k
    have P232 : Rch p e below (s₁.setTop (entryFrame m #[(.int p1), (.int p2), (.int p3), (.int p4)] maxLocals)) (T203.setTop (mkF m 220 #[iv p1, iv p2, iv p3, iv p4, rv b2, rv pP_56, rv pP_100, rv b136, iv x155, rv b158, .val .null, rv b168, iv v230, un, un, un, un] [(.ref b168)])) := fun t k => P231 t (by
      show Steps p.tables e below (T203.setTop (mkF m 216 #[iv p1, iv p2, iv p3, iv p4, rv b2, rv pP_56, rv pP_100, rv b136, iv x155, rv b158, .val .null, rv b168, un, un, un, un, un] [(.int v230)])) t
      refine XS.istore X203.here hx rfl (hb hby at_216) rfl (l' := #[iv p1, iv p2, iv p3, iv p4, rv b2, rv pP_56, rv pP_100, rv b136, iv x155, rv b158, .val .null, rv b168, iv v230, un, un, un, un]) rfl ?_
      refine XS.aload X203.here hx rfl (hb hby at_218) rfl rfl ?_
      exact k)
    obtain ⟨cq233, kq233, q233a, q233b, q233c⟩ := isOf hZ e203 (((E1_173.keep K180).keep K192).keep K203)
    obtain ⟨_, _, ⟨T233, L233, k233, n233⟩, -, X233, ⟨Lc233, hQ233, l233, y233, z233⟩, st233⟩ := X203.virtualBack hx (y := (⟨"com/example/rideau/rideau/internal/HeldText", "isEmpty", "()Z"⟩ : MethodName)) (z := (⟨"com/example/rideau/rideau/internal/HeldText", "isEmpty", "()Z"⟩ : MethodName)) hown (mvT hZ (hw _ (List.mem_of_getElem? (i := 42) rfl))) (mvT hZ (hw _ (List.mem_of_getElem? (i := 43) rfl))) (notFace_of_selects (args := #[]) (mvT hZ (hw _ (List.mem_of_getElem? (i := 45) rfl)))) (mvT hZ (hw _ (List.mem_of_getElem? (i := 45) rfl))) (mvT hZ (hw _ (List.mem_of_getElem? (i := 44) rfl))) (by decide) (backOf (W := 0) (rmE l Z a0 hw [] b168 sj_203 h203 n0 Z203 F_size_203) hZ (hw _ (List.mem_of_getElem? (i := 46) rfl)) (hw _ (List.mem_of_getElem? (i := 23) rfl)) (by decide) (by decide)) q233a q233c (g := (mkF m 220 #[iv p1, iv p2, iv p3, iv p4, rv b2, rv pP_56, rv pP_100, rv b136, iv x155, rv b158, .val .null, rv b168, iv v230, un, un, un, un] [(.ref b168)])) rfl (by rw [hml]; rfl) (Steps.refl _) (argsL := []) (rest := []) (lenOf pd_8 rfl) rfl (by show 2 * 0 + _ ≤ _; exact Nat.le_of_eq rfl) (hb hby at_220) (fun _ _ => ⟨rfl, e203, (by decide : 9 + 0 ≤ _), (by decide : 18321 + 0 ≤ _)⟩)
    dsimp only [Pt.U, Pt.locs, Pt.cells, Pt.slots] at X233 l233 y233 z233 st233 hQ233
    subst y233 z233
    obtain ⟨rfl, N233q, e233⟩ := hQ233
    have N233 : Fr n0 L233 := by rw [l233]; exact Fr.app N203 N233q
    have P234 : Rch p e below (s₁.setTop (entryFrame m #[(.int p1), (.int p2), (.int p3), (.int p4)] maxLocals)) (T233.setTop (mkF m 223 #[iv p1, iv p2, iv p3, iv p4, rv b2, rv pP_56, rv pP_100, rv b136, iv x155, rv b158, .val .null, rv b168, iv v230, un, un, un, un] [(.int (own_ie sj_203))])) := fun t k => P232 t (st233.trans k)
    obtain ⟨x235, hx235⟩ : ∃ z : Int32, z = (own_ie sj_203) := ⟨_, rfl⟩
    rw [← hx235] at P234
    obtain ⟨v237, hv237, P238⟩ : ∃ (v237 : Int32), v237 = (if x235 = (0 : Int32) then (1 : Int32) else (0 : Int32)) ∧ Rch p e below (s₁.setTop (entryFrame m #[(.int p1), (.int p2), (.int p3), (.int p4)] maxLocals)) (T233.setTop (mkF m 231 #[iv p1, iv p2, iv p3, iv p4, rv b2, rv pP_56, rv pP_100, rv b136, iv x155, rv b158, .val .null, rv b168, iv v230, un, un, un, un] [(.int v237)])) := by
      by_cases c236 : x235 = (0 : Int32)
      · refine ⟨(1 : Int32), (by first | rw [if_pos c236] | simp only [if_pos c236] | rfl), fun t k => P234 t ?_⟩
        show Steps p.tables e below (T233.setTop (mkF m 223 #[iv p1, iv p2, iv p3, iv p4, rv b2, rv pP_56, rv pP_100, rv b136, iv x155, rv b158, .val .null, rv b168, iv v230, un, un, un, un] [(.int x235)])) t
        refine XS.ifNo X233.here hx rfl (hb hby at_223) rfl ((if0 _ _).trans (teq c236).2) ?_
        refine XS.iconst X233.here hx rfl (hb hby at_226) ?_
        refine XS.goto X233.here hx rfl (pc0 := 227) (pc' := 231) rfl (hb hby at_227) (by decide) (by decide) ?_
        exact k
      · refine ⟨(0 : Int32), (by first | rw [if_neg c236] | simp only [if_neg c236] | rfl), fun t k => P234 t ?_⟩
        show Steps p.tables e below (T233.setTop (mkF m 223 #[iv p1, iv p2, iv p3, iv p4, rv b2, rv pP_56, rv pP_100, rv b136, iv x155, rv b158, .val .null, rv b168, iv v230, un, un, un, un] [(.int x235)])) t
        refine XS.ifYes X233.here hx rfl (pc0 := 223) (pc' := 230) rfl (hb hby at_223) rfl ((if0 _ _).trans (feq c236).2) (by decide) (by decide) ?_
        refine XS.iconst X233.here hx rfl (hb hby at_230) ?_
        exact k
    have P239 : Rch p e below (s₁.setTop (entryFrame m #[(.int p1), (.int p2), (.int p3), (.int p4)] maxLocals)) (T233.setTop (mkF m 235 #[iv p1, iv p2, iv p3, iv p4, rv b2, rv pP_56, rv pP_100, rv b136, iv x155, rv b158, .val .null, rv b168, iv v230, iv v237, un, un, un] [(.ref b168)])) := fun t k => P238 t (by
      show Steps p.tables e below (T233.setTop (mkF m 231 #[iv p1, iv p2, iv p3, iv p4, rv b2, rv pP_56, rv pP_100, rv b136, iv x155, rv b158, .val .null, rv b168, iv v230, un, un, un, un] [(.int v237)])) t
      refine XS.istore X233.here hx rfl (hb hby at_231) rfl (l' := #[iv p1, iv p2, iv p3, iv p4, rv b2, rv pP_56, rv pP_100, rv b136, iv x155, rv b158, .val .null, rv b168, iv v230, iv v237, un, un, un]) rfl ?_
      refine XS.aload X233.here hx rfl (hb hby at_233) rfl rfl ?_
      exact k)
    obtain ⟨cq240, kq240, q240a, q240b, q240c⟩ := isOf hZ e233 (((E1_173.keep K180).keep K192).keep K203)
    obtain ⟨_, _, ⟨T240, L240, k240, n240⟩, -, X240, ⟨Lc240, hQ240, l240, y240, z240⟩, st240⟩ := X233.virtualBack hx (y := (⟨"com/example/rideau/rideau/internal/HeldText", "clear", "()V"⟩ : MethodName)) (z := (⟨"com/example/rideau/rideau/internal/HeldText", "clear", "()V"⟩ : MethodName)) hown (mvT hZ (hw _ (List.mem_of_getElem? (i := 49) rfl))) (mvT hZ (hw _ (List.mem_of_getElem? (i := 50) rfl))) (notFace_of_selects (args := #[]) (mvT hZ (hw _ (List.mem_of_getElem? (i := 52) rfl)))) (mvT hZ (hw _ (List.mem_of_getElem? (i := 52) rfl))) (mvT hZ (hw _ (List.mem_of_getElem? (i := 51) rfl))) (by decide) (backOf (W := 0) (rmCl l Z a0 hw [] b168 acj_203 ap_173 ae_173 an_173 kcj_203 kp_173 ke_173 kn_173 sj_203 lj_203 zcj_203 vcj_203 vpj_203 vej_203 vnj_203 h203 n0 Z203 (((E1_173.keep K180).keep K192).keep K203) F_chars_203 F_pieces_203 F_ends_203 F_names_203 F_size_203 F_length_203 VC_203 VP_203 VE_203 VN_203 g_b168 gj_203 g_ap_173 g_ae_173 g_an_173 (Ne.symm nj0_203) ne_b168_ap_173 ne_b168_ae_173 ne_b168_an_173 nj1_203 nj2_203 nj3_203 n_ap_ae_173 n_ap_an_173 n_ae_an_173 hzj_203) hZ (hw _ (List.mem_of_getElem? (i := 53) rfl)) (hw _ (List.mem_of_getElem? (i := 23) rfl)) (by decide) (by decide)) q240a q240c (g := (mkF m 235 #[iv p1, iv p2, iv p3, iv p4, rv b2, rv pP_56, rv pP_100, rv b136, iv x155, rv b158, .val .null, rv b168, iv v230, iv v237, un, un, un] [(.ref b168)])) rfl (by rw [hml]; rfl) (Steps.refl _) (argsL := []) (rest := []) (lenOf pd_6 rfl) rfl (by show 2 * 0 + _ ≤ _; exact Nat.le_of_eq rfl) (hb hby at_235) (fun _ _ => ⟨rfl, e233, (by decide : 9 + 1 ≤ _), (by decide : 18321 + 8192 ≤ _)⟩)
    dsimp only [Pt.U, Pt.locs, Pt.cells, Pt.slots] at X240 l240 y240 z240 st240 hQ240
    subst y240 z240
    obtain ⟨acx_240, kcx_240, zcx_240, vcx_240, rfl, N240q, K240, E1_240, F_chars_240, F_pieces_240, F_ends_240, F_names_240, F_size_240, F_length_240, VC_240, gx_240, nx_a1_240, nx_ap_240, nx_ae_240, nx_an_240, hzcx_240⟩ := hQ240
    have N240 : Fr n0 L240 := by rw [l240]; exact Fr.app N233 N240q
    have P241 : Rch p e below (s₁.setTop (entryFrame m #[(.int p1), (.int p2), (.int p3), (.int p4)] maxLocals)) (T240.setTop (mkF m 238 #[iv p1, iv p2, iv p3, iv p4, rv b2, rv pP_56, rv pP_100, rv b136, iv x155, rv b158, .val .null, rv b168, iv v230, iv v237, un, un, un] [])) := fun t k => P239 t (st240.trans k)
    have P242 : Rch p e below (s₁.setTop (entryFrame m #[(.int p1), (.int p2), (.int p3), (.int p4)] maxLocals)) (T240.setTop (mkF m 240 #[iv p1, iv p2, iv p3, iv p4, rv b2, rv pP_56, rv pP_100, rv b136, iv x155, rv b158, .val .null, rv b168, iv v230, iv v237, un, un, un] [(.ref b168)])) := fun t k => P241 t (by
      show Steps p.tables e below (T240.setTop (mkF m 238 #[iv p1, iv p2, iv p3, iv p4, rv b2, rv pP_56, rv pP_100, rv b136, iv x155, rv b158, .val .null, rv b168, iv v230, iv v237, un, un, un] [])) t
      refine XS.aload X240.here hx rfl (hb hby at_238) rfl rfl ?_
      exact k)
    have f244 : n0 ≤ T240.heap.size := (Nat.le_trans Z203 K240.1)
    obtain ⟨cq243, kq243, q243a, q243b, q243c⟩ := isOf hZ rfl E1_240
    obtain ⟨_, _, ⟨T243, L243, k243, n243⟩, -, X243, ⟨Lc243, hQ243, l243, y243, z243⟩, st243⟩ := X240.virtualBack hx (y := (⟨"com/example/rideau/rideau/internal/HeldText", "isEmpty", "()Z"⟩ : MethodName)) (z := (⟨"com/example/rideau/rideau/internal/HeldText", "isEmpty", "()Z"⟩ : MethodName)) hown (mvT hZ (hw _ (List.mem_of_getElem? (i := 42) rfl))) (mvT hZ (hw _ (List.mem_of_getElem? (i := 43) rfl))) (notFace_of_selects (args := #[]) (mvT hZ (hw _ (List.mem_of_getElem? (i := 45) rfl)))) (mvT hZ (hw _ (List.mem_of_getElem? (i := 45) rfl))) (mvT hZ (hw _ (List.mem_of_getElem? (i := 44) rfl))) (by decide) (backOf (W := 0) (rmE l Z a0 hw [] b168 (0 : Int32) T240.heap n0 f244 F_size_240) hZ (hw _ (List.mem_of_getElem? (i := 46) rfl)) (hw _ (List.mem_of_getElem? (i := 23) rfl)) (by decide) (by decide)) q243a q243c (g := (mkF m 240 #[iv p1, iv p2, iv p3, iv p4, rv b2, rv pP_56, rv pP_100, rv b136, iv x155, rv b158, .val .null, rv b168, iv v230, iv v237, un, un, un] [(.ref b168)])) rfl (by rw [hml]; rfl) (Steps.refl _) (argsL := []) (rest := []) (lenOf pd_8 rfl) rfl (by show 2 * 0 + _ ≤ _; exact Nat.le_of_eq rfl) (hb hby at_240) (fun _ _ => ⟨rfl, rfl, (by decide : 10 + 0 ≤ _), (by decide : 26513 + 0 ≤ _)⟩)
    dsimp only [Pt.U, Pt.locs, Pt.cells, Pt.slots] at X243 l243 y243 z243 st243 hQ243
    subst y243 z243
    obtain ⟨rfl, N243q, e243⟩ := hQ243
    have N243 : Fr n0 L243 := by rw [l243]; exact Fr.app N240 N243q
    have P245 : Rch p e below (s₁.setTop (entryFrame m #[(.int p1), (.int p2), (.int p3), (.int p4)] maxLocals)) (T243.setTop (mkF m 243 #[iv p1, iv p2, iv p3, iv p4, rv b2, rv pP_56, rv pP_100, rv b136, iv x155, rv b158, .val .null, rv b168, iv v230, iv v237, un, un, un] [(.int (own_ie (0 : Int32)))])) := fun t k => P242 t (st243.trans k)
    obtain ⟨x246, hx246⟩ : ∃ z : Int32, z = (own_ie (0 : Int32)) := ⟨_, rfl⟩
    rw [← hx246] at P245
    obtain ⟨x247, hx247⟩ : ∃ z : Int32, z = (p1 &&& (8 : Int32)) := ⟨_, rfl⟩
    have P248 : Rch p e below (s₁.setTop (entryFrame m #[(.int p1), (.int p2), (.int p3), (.int p4)] maxLocals)) (T243.setTop (mkF m 249 #[iv p1, iv p2, iv p3, iv p4, rv b2, rv pP_56, rv pP_100, rv b136, iv x155, rv b158, .val .null, rv b168, iv v230, iv v237, iv x246, un, un] [(.int x247)])) := fun t k => P245 t (by
      subst hx247
      show Steps p.tables e below (T243.setTop (mkF m 243 #[iv p1, iv p2, iv p3, iv p4, rv b2, rv pP_56, rv pP_100, rv b136, iv x155, rv b158, .val .null, rv b168, iv v230, iv v237, un, un, un] [(.int x246)])) t
      refine XS.istore X243.here hx rfl (hb hby at_243) rfl (l' := #[iv p1, iv p2, iv p3, iv p4, rv b2, rv pP_56, rv pP_100, rv b136, iv x155, rv b158, .val .null, rv b168, iv v230, iv v237, iv x246, un, un]) rfl ?_
      refine XS.iloadN X243.here hx rfl (hb hby at_245) rfl ?_
      refine XS.bipush X243.here hx rfl (hb hby at_246) ?_
      show Steps p.tables e below (T243.setTop (mkF m 248 #[iv p1, iv p2, iv p3, iv p4, rv b2, rv pP_56, rv pP_100, rv b136, iv x155, rv b158, .val .null, rv b168, iv v230, iv v237, iv x246, un, un] [(.int (8 : Int32)), (.int p1)])) t
      refine XS.iand X243.here hx rfl (hb hby at_248) rfl ?_
      exact k)
    obtain ⟨T249, L249, h249, sj_249, lj_249, vpj_249, vej_249, vnj_249, vcj_249, X249, e249, N249, Z249, K249, F_chars_249, F_pieces_249, F_ends_249, F_names_249, F_size_249, F_length_249, VC_249, VP_249, VE_249, VN_249, hvpj_249, hvej_249, hvnj_249, hone_249, P249⟩ : ∃ (T249 : State) (L249 : List Loc) (h249 : Heap) (sj_249 : Int32) (lj_249 : Int32) (vpj_249 : List Value) (vej_249 : List Value) (vnj_249 : List Value) (vcj_249 : List Value), Stand p l e room_1 s m #[(.int p1), (.int p2), (.int p3), (.int p4)] below meth c T249 L249 10 26513 ∧ T249.heap = h249 ∧ Fr n0 L249 ∧ n0 ≤ h249.size ∧ Keep T240.heap h249 [b168, acx_240, ap_173, ae_173, an_173] ∧ (Fld Z h249 b168 "com/example/rideau/rideau/internal/HeldText" "chars" "[C" (.ref acx_240)) ∧ (Fld Z h249 b168 "com/example/rideau/rideau/internal/HeldText" "pieces" "[Lcom/example/rideau/rideau/internal/HeldText$Piece;" (.ref ap_173)) ∧ (Fld Z h249 b168 "com/example/rideau/rideau/internal/HeldText" "ends" "[I" (.ref ae_173)) ∧ (Fld Z h249 b168 "com/example/rideau/rideau/internal/HeldText" "names" "[Ljava/lang/String;" (.ref an_173)) ∧ (Fld Z h249 b168 "com/example/rideau/rideau/internal/HeldText" "size" "I" (.int sj_249)) ∧ (Fld Z h249 b168 "com/example/rideau/rideau/internal/HeldText" "length" "I" (.int lj_249)) ∧ (Arv Z h249 acx_240 kcx_240 .char zcx_240 vcj_249 (.int (0 : Int32))) ∧ (Arv Z h249 ap_173 kp_173 (.object "com/example/rideau/rideau/internal/HeldText$Piece") (16 : Int32) vpj_249 .null) ∧ (Arv Z h249 ae_173 ke_173 .int (16 : Int32) vej_249 (.int (0 : Int32))) ∧ (Arv Z h249 an_173 kn_173 (.object "java/lang/String") (16 : Int32) vnj_249 .null) ∧ (vpj_249.length = 16) ∧ (vej_249.length = 16) ∧ (vnj_249.length = 16) ∧ (1 ≤ sj_249.toInt) ∧ Rch p e below (s₁.setTop (entryFrame m #[(.int p1), (.int p2), (.int p3), (.int p4)] maxLocals)) (T249.setTop (mkF m 276 #[iv p1, iv p2, iv p3, iv p4, rv b2, rv pP_56, rv pP_100, rv b136, iv x155, rv b158, .val .null, rv b168, iv v230, iv v237, iv x246, un, un] [])) := by
      by_cases c250 : x247 = (0 : Int32)
      · have P251 : Rch p e below (s₁.setTop (entryFrame m #[(.int p1), (.int p2), (.int p3), (.int p4)] maxLocals)) (T243.setTop (mkF m 273 #[iv p1, iv p2, iv p3, iv p4, rv b2, rv pP_56, rv pP_100, rv b136, iv x155, rv b158, .val .null, rv b168, iv v230, iv v237, iv x246, un, un] [.null, (.ref pP_100), (.ref b168)])) := fun t k => P248 t (by
          show Steps p.tables e below (T243.setTop (mkF m 249 #[iv p1, iv p2, iv p3, iv p4, rv b2, rv pP_56, rv pP_100, rv b136, iv x155, rv b158, .val .null, rv b168, iv v230, iv v237, iv x246, un, un] [(.int x247)])) t
          refine XS.ifYes X243.here hx rfl (pc0 := 249) (pc' := 267) rfl (hb hby at_249) rfl ((if0 _ _).trans (teq c250).1) (by decide) (by decide) ?_
          refine XS.aload X243.here hx rfl (hb hby at_267) rfl rfl ?_
          refine XS.aload X243.here hx rfl (hb hby at_269) rfl rfl ?_
          show Steps p.tables e below (T243.setTop (mkF m 271 #[iv p1, iv p2, iv p3, iv p4, rv b2, rv pP_56, rv pP_100, rv b136, iv x155, rv b158, .val .null, rv b168, iv v230, iv v237, iv x246, un, un] [(.ref pP_100), (.ref b168)])) t
          refine XS.aload X243.here hx rfl (hb hby at_271) rfl rfl ?_
          exact k)
        have f253 : Exa Z T240.heap pP_100 "com/example/rideau/rideau/internal/HeldText$Piece" := ((((((((((Ep_100.ext E136).wr W148).wr W153).ext E158).ext E168).keep K173).keep K180).keep K192).keep K203).keep K240)
        obtain ⟨cq252, kq252, q252a, q252b, q252c⟩ := isOf hZ e243 E1_240
        obtain ⟨_, _, ⟨T252, L252, k252, n252⟩, -, X252, ⟨Lc252, hQ252, l252, y252, z252⟩, st252⟩ := X243.virtualBack hx (y := (⟨"com/example/rideau/rideau/internal/HeldText", "add", "(Lcom/example/rideau/rideau/internal/HeldText$Piece;Ljava/lang/String;)V"⟩ : MethodName)) (z := (⟨"com/example/rideau/rideau/internal/HeldText", "add", "(Lcom/example/rideau/rideau/internal/HeldText$Piece;Ljava/lang/String;)V"⟩ : MethodName)) hown (mvT hZ (hw _ (List.mem_of_getElem? (i := 56) rfl))) (mvT hZ (hw _ (List.mem_of_getElem? (i := 57) rfl))) (notFace_of_selects (args := #[]) (mvT hZ (hw _ (List.mem_of_getElem? (i := 59) rfl)))) (mvT hZ (hw _ (List.mem_of_getElem? (i := 59) rfl))) (mvT hZ (hw _ (List.mem_of_getElem? (i := 58) rfl))) (by decide) (backOf (W := 0) (rmAN l Z a0 hw [] b168 acx_240 ap_173 ae_173 an_173 kp_173 ke_173 kn_173 pP_100 (0 : Int32) (0 : Int32) vpj_203 vej_203 vnj_203 T240.heap n0 f244 E1_240 F_chars_240 F_pieces_240 F_ends_240 F_names_240 F_size_240 F_length_240 (VP_203.keep K240 (ninS (Ne.symm ne_b168_ap_173) nin0)) (VE_203.keep K240 (ninS (Ne.symm ne_b168_ae_173) nin0)) (VN_203.keep K240 (ninS (Ne.symm ne_b168_an_173) nin0)) f253 g_b168 gx_240 g_ap_173 g_ae_173 g_an_173 (Ne.symm nx_a1_240) ne_b168_ap_173 ne_b168_ae_173 ne_b168_an_173 nx_ap_240 nx_ae_240 nx_an_240 n_ap_ae_173 n_ap_an_173 n_ae_an_173 Op_173 On_173 hvpj_203 hvej_203 hvnj_203 (by decide)) hZ (hw _ (List.mem_of_getElem? (i := 60) rfl)) (hw _ (List.mem_of_getElem? (i := 23) rfl)) (by decide) (by decide)) q252a q252c (g := (mkF m 273 #[iv p1, iv p2, iv p3, iv p4, rv b2, rv pP_56, rv pP_100, rv b136, iv x155, rv b158, .val .null, rv b168, iv v230, iv v237, iv x246, un, un] [.null, (.ref pP_100), (.ref b168)])) rfl (by rw [hml]; rfl) (Steps.refl _) (argsL := [(.ref pP_100), .null]) (rest := []) (lenOf pd_0 rfl) rfl (by show 2 * 0 + _ ≤ _; exact Nat.le_of_eq rfl) (hb hby at_273) (fun _ _ => ⟨rfl, e243, (by decide : 10 + 0 ≤ _), (by decide : 26513 + 0 ≤ _)⟩)
        dsimp only [Pt.U, Pt.locs, Pt.cells, Pt.slots] at X252 l252 y252 z252 st252 hQ252
        subst y252 z252
        obtain ⟨szx_252, vpx_252, vex_252, vnx_252, rfl, N252q, K252, E1_252, F_chars_252, F_pieces_252, F_ends_252, F_names_252, F_size_252, F_length_252, VP_252, VE_252, VN_252, hszx_252, hvpx_252, hvex_252, hvnx_252⟩ := hQ252
        have N252 : Fr n0 L252 := by rw [l252]; exact Fr.app N243 N252q
        have P254 : Rch p e below (s₁.setTop (entryFrame m #[(.int p1), (.int p2), (.int p3), (.int p4)] maxLocals)) (T252.setTop (mkF m 276 #[iv p1, iv p2, iv p3, iv p4, rv b2, rv pP_56, rv pP_100, rv b136, iv x155, rv b158, .val .null, rv b168, iv v230, iv v237, iv x246, un, un] [])) := fun t k => P251 t (st252.trans k)
        have f255 : Arv Z T252.heap acx_240 kcx_240 .char zcx_240 vcx_240 (.int (0 : Int32)) := (VC_240.keep K252 (ninS nx_a1_240 (ninS nx_ap_240 (ninS nx_ae_240 (ninS nx_an_240 nin0)))))
        have f256 : n0 ≤ T252.heap.size := (Nat.le_trans f244 K252.1)
        exact ⟨T252, _, T252.heap, szx_252, (0 : Int32), vpx_252, vex_252, vnx_252, vcx_240, X252, rfl, N252, f256, ((Keep.refl T240.heap [b168, acx_240, ap_173, ae_173, an_173]).trans K252 (allS (P := fun x => x ∈ ([b168, acx_240, ap_173, ae_173, an_173] : List Addr) ∨ T240.heap.size ≤ x) (Or.inl (List.mem_of_getElem? (i := 0) rfl)) (allS (P := fun x => x ∈ ([b168, acx_240, ap_173, ae_173, an_173] : List Addr) ∨ T240.heap.size ≤ x) (Or.inl (List.mem_of_getElem? (i := 2) rfl)) (allS (P := fun x => x ∈ ([b168, acx_240, ap_173, ae_173, an_173] : List Addr) ∨ T240.heap.size ≤ x) (Or.inl (List.mem_of_getElem? (i := 3) rfl)) (allS (P := fun x => x ∈ ([b168, acx_240, ap_173, ae_173, an_173] : List Addr) ∨ T240.heap.size ≤ x) (Or.inl (List.mem_of_getElem? (i := 4) rfl)) all0))))), F_chars_252, F_pieces_252, F_ends_252, F_names_252, F_size_252, F_length_252, f255, VP_252, VE_252, VN_252, hvpx_252, hvex_252, hvnx_252, (by have z0_ : (0 : Int32).toInt = 0 := rfl; omega), P254⟩
      · have P257 : Rch p e below (s₁.setTop (entryFrame m #[(.int p1), (.int p2), (.int p3), (.int p4)] maxLocals)) (T243.setTop (mkF m 261 #[iv p1, iv p2, iv p3, iv p4, rv b2, rv pP_56, rv pP_100, rv b136, iv x155, rv b158, .val .null, rv b168, iv v230, iv v237, iv x246, un, un] [(.int x155), (.int (0 : Int32)), (.ref b136), (.ref pP_56), (.ref b168)])) := fun t k => P248 t (by
          show Steps p.tables e below (T243.setTop (mkF m 249 #[iv p1, iv p2, iv p3, iv p4, rv b2, rv pP_56, rv pP_100, rv b136, iv x155, rv b158, .val .null, rv b168, iv v230, iv v237, iv x246, un, un] [(.int x247)])) t
          refine XS.ifNo X243.here hx rfl (hb hby at_249) rfl ((if0 _ _).trans (feq c250).1) ?_
          refine XS.aload X243.here hx rfl (hb hby at_252) rfl rfl ?_
          refine XS.aload X243.here hx rfl (hb hby at_254) rfl rfl ?_
          show Steps p.tables e below (T243.setTop (mkF m 256 #[iv p1, iv p2, iv p3, iv p4, rv b2, rv pP_56, rv pP_100, rv b136, iv x155, rv b158, .val .null, rv b168, iv v230, iv v237, iv x246, un, un] [(.ref pP_56), (.ref b168)])) t
          refine XS.aload X243.here hx rfl (hb hby at_256) rfl rfl ?_
          refine XS.iconst X243.here hx rfl (hb hby at_258) ?_
          refine XS.iload X243.here hx rfl (hb hby at_259) rfl ?_
          exact k)
        have f259 : Exa Z T240.heap pP_56 "com/example/rideau/rideau/internal/HeldText$Piece" := (((((f175.keep K173).keep K180).keep K192).keep K203).keep K240)
        have f260 : Arv Z T240.heap b136 k136 .char (2 : Int32) [(.int (nar .char x145)), (.int (nar .char x150))] (.int (0 : Int32)) := (((((((V153.ext E158).ext E168).keep K173 (ninS ne_b136_b168 nin0)).keep K180 (ninS ne_b136_b168 (ninS ne_b136_ac_173 (ninS ne_b136_ap_173 (ninS ne_b136_ae_173 (ninS ne_b136_an_173 nin0)))))).keep K192 (ninS ne_b136_b168 (ninS ne_b136_ap_173 (ninS ne_b136_ae_173 (ninS ne_b136_an_173 nin0))))).keep K203 (ninS ne_b136_b168 (ninS ne_b136_ap_173 (ninS ne_b136_ae_173 (ninS ne_b136_an_173 nin0))))).keep K240 (ninS ne_b136_b168 nin0))
        obtain ⟨cq258, kq258, q258a, q258b, q258c⟩ := isOf hZ e243 E1_240
        obtain ⟨_, _, ⟨T258, L258, k258, n258⟩, -, X258, ⟨Lc258, hQ258, l258, y258, z258⟩, st258⟩ := X243.virtualBack hx (y := (⟨"com/example/rideau/rideau/internal/HeldText", "text", "(Lcom/example/rideau/rideau/internal/HeldText$Piece;[CII)V"⟩ : MethodName)) (z := (⟨"com/example/rideau/rideau/internal/HeldText", "text", "(Lcom/example/rideau/rideau/internal/HeldText$Piece;[CII)V"⟩ : MethodName)) hown (mvT hZ (hw _ (List.mem_of_getElem? (i := 61) rfl))) (mvT hZ (hw _ (List.mem_of_getElem? (i := 62) rfl))) (notFace_of_selects (args := #[]) (mvT hZ (hw _ (List.mem_of_getElem? (i := 64) rfl)))) (mvT hZ (hw _ (List.mem_of_getElem? (i := 64) rfl))) (mvT hZ (hw _ (List.mem_of_getElem? (i := 63) rfl))) (by decide) (backOf (W := 0) (rmTS l Z a0 hw [] b168 acx_240 ap_173 ae_173 an_173 kcx_240 kp_173 ke_173 kn_173 pP_56 b136 k136 [(.int (nar .char x145)), (.int (nar .char x150))] x155 zcx_240 vcx_240 vpj_203 vej_203 vnj_203 T240.heap n0 f244 E1_240 F_chars_240 F_pieces_240 F_ends_240 F_names_240 F_size_240 F_length_240 VC_240 (VP_203.keep K240 (ninS (Ne.symm ne_b168_ap_173) nin0)) (VE_203.keep K240 (ninS (Ne.symm ne_b168_ae_173) nin0)) (VN_203.keep K240 (ninS (Ne.symm ne_b168_an_173) nin0)) f259 f260 g_b168 gx_240 g_ap_173 g_ae_173 g_an_173 (Ne.symm nx_a1_240) ne_b168_ap_173 ne_b168_ae_173 ne_b168_an_173 nx_ap_240 nx_ae_240 nx_an_240 n_ap_ae_173 n_ap_an_173 n_ae_an_173 Op_173 On_173 hvpj_203 hvej_203 hvnj_203 hct hzcx_240 ne_b136_b168) hZ (hw _ (List.mem_of_getElem? (i := 65) rfl)) (hw _ (List.mem_of_getElem? (i := 23) rfl)) (by decide) (by decide)) q258a q258c (g := (mkF m 261 #[iv p1, iv p2, iv p3, iv p4, rv b2, rv pP_56, rv pP_100, rv b136, iv x155, rv b158, .val .null, rv b168, iv v230, iv v237, iv x246, un, un] [(.int x155), (.int (0 : Int32)), (.ref b136), (.ref pP_56), (.ref b168)])) rfl (by rw [hml]; rfl) (Steps.refl _) (argsL := [(.ref pP_56), (.ref b136), (.int (0 : Int32)), (.int x155)]) (rest := []) (lenOf pd_7 rfl) rfl (by show 2 * 0 + _ ≤ _; exact Nat.le_of_eq rfl) (hb hby at_261) (fun _ _ => ⟨rfl, e243, (by decide : 10 + 0 ≤ _), (by decide : 26513 + 0 ≤ _)⟩)
        dsimp only [Pt.U, Pt.locs, Pt.cells, Pt.slots] at X258 l258 y258 z258 st258 hQ258
        subst y258 z258
        obtain ⟨szx_258, lnx_258, vcx_258, vpx_258, vex_258, vnx_258, rfl, N258q, K258, E1_258, F_chars_258, F_pieces_258, F_ends_258, F_names_258, F_size_258, F_length_258, VC_258, VP_258, VE_258, VN_258, hszx_258, hlnx_258, hvpx_258, hvex_258, hvnx_258⟩ := hQ258
        have N258 : Fr n0 L258 := by rw [l258]; exact Fr.app N243 N258q
        have P261 : Rch p e below (s₁.setTop (entryFrame m #[(.int p1), (.int p2), (.int p3), (.int p4)] maxLocals)) (T258.setTop (mkF m 264 #[iv p1, iv p2, iv p3, iv p4, rv b2, rv pP_56, rv pP_100, rv b136, iv x155, rv b158, .val .null, rv b168, iv v230, iv v237, iv x246, un, un] [])) := fun t k => P257 t (st258.trans k)
        have P262 : Rch p e below (s₁.setTop (entryFrame m #[(.int p1), (.int p2), (.int p3), (.int p4)] maxLocals)) (T258.setTop (mkF m 276 #[iv p1, iv p2, iv p3, iv p4, rv b2, rv pP_56, rv pP_100, rv b136, iv x155, rv b158, .val .null, rv b168, iv v230, iv v237, iv x246, un, un] [])) := fun t k => P261 t (by
          show Steps p.tables e below (T258.setTop (mkF m 264 #[iv p1, iv p2, iv p3, iv p4, rv b2, rv pP_56, rv pP_100, rv b136, iv x155, rv b158, .val .null, rv b168, iv v230, iv v237, iv x246, un, un] [])) t
          refine XS.goto X258.here hx rfl (pc0 := 264) (pc' := 276) rfl (hb hby at_264) (by decide) (by decide) ?_
          exact k)
        have f263 : n0 ≤ T258.heap.size := (Nat.le_trans f244 K258.1)
        exact ⟨T258, _, T258.heap, szx_258, lnx_258, vpx_258, vex_258, vnx_258, vcx_258, X258, rfl, N258, f263, ((Keep.refl T240.heap [b168, acx_240, ap_173, ae_173, an_173]).trans K258 (allS (P := fun x => x ∈ ([b168, acx_240, ap_173, ae_173, an_173] : List Addr) ∨ T240.heap.size ≤ x) (Or.inl (List.mem_of_getElem? (i := 0) rfl)) (allS (P := fun x => x ∈ ([b168, acx_240, ap_173, ae_173, an_173] : List Addr) ∨ T240.heap.size ≤ x) (Or.inl (List.mem_of_getElem? (i := 1) rfl)) (allS (P := fun x => x ∈ ([b168, acx_240, ap_173, ae_173, an_173] : List Addr) ∨ T240.heap.size ≤ x) (Or.inl (List.mem_of_getElem? (i := 2) rfl)) (allS (P := fun x => x ∈ ([b168, acx_240, ap_173, ae_173, an_173] : List Addr) ∨ T240.heap.size ≤ x) (Or.inl (List.mem_of_getElem? (i := 3) rfl)) (allS (P := fun x => x ∈ ([b168, acx_240, ap_173, ae_173, an_173] : List Addr) ∨ T240.heap.size ≤ x) (Or.inl (List.mem_of_getElem? (i := 4) rfl)) all0)))))), F_chars_258, F_pieces_258, F_ends_258, F_names_258, F_size_258, F_length_258, VC_258, VP_258, VE_258, VN_258, hvpx_258, hvex_258, hvnx_258, (by have z0_ : (0 : Int32).toInt = 0 := rfl; omega), P262⟩
    have P264 : Rch p e below (s₁.setTop (entryFrame m #[(.int p1), (.int p2), (.int p3), (.int p4)] maxLocals)) (T249.setTop (mkF m 278 #[iv p1, iv p2, iv p3, iv p4, rv b2, rv pP_56, rv pP_100, rv b136, iv x155, rv b158, .val .null, rv b168, iv v230, iv v237, iv x246, un, un] [(.ref b168)])) := fun t k => P249 t (by
      show Steps p.tables e below (T249.setTop (mkF m 276 #[iv p1, iv p2, iv p3, iv p4, rv b2, rv pP_56, rv pP_100, rv b136, iv x155, rv b158, .val .null, rv b168, iv v230, iv v237, iv x246, un, un] [])) t
      refine XS.aload X249.here hx rfl (hb hby at_276) rfl rfl ?_
      exact k)
    obtain ⟨cq265, kq265, q265a, q265b, q265c⟩ := isOf hZ e249 (E1_240.keep K249)
    obtain ⟨_, _, ⟨T265, L265, k265, n265⟩, -, X265, ⟨Lc265, hQ265, l265, y265, z265⟩, st265⟩ := X249.virtualBack hx (y := (⟨"com/example/rideau/rideau/internal/HeldText", "isEmpty", "()Z"⟩ : MethodName)) (z := (⟨"com/example/rideau/rideau/internal/HeldText", "isEmpty", "()Z"⟩ : MethodName)) hown (mvT hZ (hw _ (List.mem_of_getElem? (i := 42) rfl))) (mvT hZ (hw _ (List.mem_of_getElem? (i := 43) rfl))) (notFace_of_selects (args := #[]) (mvT hZ (hw _ (List.mem_of_getElem? (i := 45) rfl)))) (mvT hZ (hw _ (List.mem_of_getElem? (i := 45) rfl))) (mvT hZ (hw _ (List.mem_of_getElem? (i := 44) rfl))) (by decide) (backOf (W := 0) (rmE l Z a0 hw [] b168 sj_249 h249 n0 Z249 F_size_249) hZ (hw _ (List.mem_of_getElem? (i := 46) rfl)) (hw _ (List.mem_of_getElem? (i := 23) rfl)) (by decide) (by decide)) q265a q265c (g := (mkF m 278 #[iv p1, iv p2, iv p3, iv p4, rv b2, rv pP_56, rv pP_100, rv b136, iv x155, rv b158, .val .null, rv b168, iv v230, iv v237, iv x246, un, un] [(.ref b168)])) rfl (by rw [hml]; rfl) (Steps.refl _) (argsL := []) (rest := []) (lenOf pd_8 rfl) rfl (by show 2 * 0 + _ ≤ _; exact Nat.le_of_eq rfl) (hb hby at_278) (fun _ _ => ⟨rfl, e249, (by decide : 10 + 0 ≤ _), (by decide : 26513 + 0 ≤ _)⟩)
    dsimp only [Pt.U, Pt.locs, Pt.cells, Pt.slots] at X265 l265 y265 z265 st265 hQ265
    subst y265 z265
    obtain ⟨rfl, N265q, e265⟩ := hQ265
    have N265 : Fr n0 L265 := by rw [l265]; exact Fr.app N249 N265q
    have P266 : Rch p e below (s₁.setTop (entryFrame m #[(.int p1), (.int p2), (.int p3), (.int p4)] maxLocals)) (T265.setTop (mkF m 281 #[iv p1, iv p2, iv p3, iv p4, rv b2, rv pP_56, rv pP_100, rv b136, iv x155, rv b158, .val .null, rv b168, iv v230, iv v237, iv x246, un, un] [(.int (own_ie sj_249))])) := fun t k => P264 t (st265.trans k)
    obtain ⟨x267, hx267⟩ : ∃ z : Int32, z = (own_ie sj_249) := ⟨_, rfl⟩
    rw [← hx267] at P266
    obtain ⟨v269, hv269, P270⟩ : ∃ (v269 : Int32), v269 = (if x267 = (0 : Int32) then (1 : Int32) else (0 : Int32)) ∧ Rch p e below (s₁.setTop (entryFrame m #[(.int p1), (.int p2), (.int p3), (.int p4)] maxLocals)) (T265.setTop (mkF m 289 #[iv p1, iv p2, iv p3, iv p4, rv b2, rv pP_56, rv pP_100, rv b136, iv x155, rv b158, .val .null, rv b168, iv v230, iv v237, iv x246, un, un] [(.int v269)])) := by
      by_cases c268 : x267 = (0 : Int32)
      · refine ⟨(1 : Int32), (by first | rw [if_pos c268] | simp only [if_pos c268] | rfl), fun t k => P266 t ?_⟩
        show Steps p.tables e below (T265.setTop (mkF m 281 #[iv p1, iv p2, iv p3, iv p4, rv b2, rv pP_56, rv pP_100, rv b136, iv x155, rv b158, .val .null, rv b168, iv v230, iv v237, iv x246, un, un] [(.int x267)])) t
        refine XS.ifNo X265.here hx rfl (hb hby at_281) rfl ((if0 _ _).trans (teq c268).2) ?_
        refine XS.iconst X265.here hx rfl (hb hby at_284) ?_
        refine XS.goto X265.here hx rfl (pc0 := 285) (pc' := 289) rfl (hb hby at_285) (by decide) (by decide) ?_
        exact k
      · refine ⟨(0 : Int32), (by first | rw [if_neg c268] | simp only [if_neg c268] | rfl), fun t k => P266 t ?_⟩
        show Steps p.tables e below (T265.setTop (mkF m 281 #[iv p1, iv p2, iv p3, iv p4, rv b2, rv pP_56, rv pP_100, rv b136, iv x155, rv b158, .val .null, rv b168, iv v230, iv v237, iv x246, un, un] [(.int x267)])) t
        refine XS.ifYes X265.here hx rfl (pc0 := 281) (pc' := 288) rfl (hb hby at_281) rfl ((if0 _ _).trans (feq c268).2) (by decide) (by decide) ?_
        refine XS.iconst X265.here hx rfl (hb hby at_288) ?_
        exact k
    have P271 : Rch p e below (s₁.setTop (entryFrame m #[(.int p1), (.int p2), (.int p3), (.int p4)] maxLocals)) (T265.setTop (mkF m 293 #[iv p1, iv p2, iv p3, iv p4, rv b2, rv pP_56, rv pP_100, rv b136, iv x155, rv b158, .val .null, rv b168, iv v230, iv v237, iv x246, iv v269, un] [(.ref b168)])) := fun t k => P270 t (by
      show Steps p.tables e below (T265.setTop (mkF m 289 #[iv p1, iv p2, iv p3, iv p4, rv b2, rv pP_56, rv pP_100, rv b136, iv x155, rv b158, .val .null, rv b168, iv v230, iv v237, iv x246, un, un] [(.int v269)])) t
      refine XS.istore X265.here hx rfl (hb hby at_289) rfl (l' := #[iv p1, iv p2, iv p3, iv p4, rv b2, rv pP_56, rv pP_100, rv b136, iv x155, rv b158, .val .null, rv b168, iv v230, iv v237, iv x246, iv v269, un]) rfl ?_
      refine XS.aload X265.here hx rfl (hb hby at_291) rfl rfl ?_
      exact k)
    obtain ⟨cq272, kq272, q272a, q272b, q272c⟩ := isOf hZ e265 (E1_240.keep K249)
    obtain ⟨_, _, ⟨T272, L272, k272, n272⟩, -, X272, ⟨Lc272, hQ272, l272, y272, z272⟩, st272⟩ := X265.virtualBack hx (y := (⟨"com/example/rideau/rideau/internal/HeldText", "clear", "()V"⟩ : MethodName)) (z := (⟨"com/example/rideau/rideau/internal/HeldText", "clear", "()V"⟩ : MethodName)) hown (mvT hZ (hw _ (List.mem_of_getElem? (i := 49) rfl))) (mvT hZ (hw _ (List.mem_of_getElem? (i := 50) rfl))) (notFace_of_selects (args := #[]) (mvT hZ (hw _ (List.mem_of_getElem? (i := 52) rfl)))) (mvT hZ (hw _ (List.mem_of_getElem? (i := 52) rfl))) (mvT hZ (hw _ (List.mem_of_getElem? (i := 51) rfl))) (by decide) (backOf (W := 0) (rmCl l Z a0 hw [] b168 acx_240 ap_173 ae_173 an_173 kcx_240 kp_173 ke_173 kn_173 sj_249 lj_249 zcx_240 vcj_249 vpj_249 vej_249 vnj_249 h249 n0 Z249 (E1_240.keep K249) F_chars_249 F_pieces_249 F_ends_249 F_names_249 F_size_249 F_length_249 VC_249 VP_249 VE_249 VN_249 g_b168 gx_240 g_ap_173 g_ae_173 g_an_173 (Ne.symm nx_a1_240) ne_b168_ap_173 ne_b168_ae_173 ne_b168_an_173 nx_ap_240 nx_ae_240 nx_an_240 n_ap_ae_173 n_ap_an_173 n_ae_an_173 hzcx_240) hZ (hw _ (List.mem_of_getElem? (i := 53) rfl)) (hw _ (List.mem_of_getElem? (i := 23) rfl)) (by decide) (by decide)) q272a q272c (g := (mkF m 293 #[iv p1, iv p2, iv p3, iv p4, rv b2, rv pP_56, rv pP_100, rv b136, iv x155, rv b158, .val .null, rv b168, iv v230, iv v237, iv x246, iv v269, un] [(.ref b168)])) rfl (by rw [hml]; rfl) (Steps.refl _) (argsL := []) (rest := []) (lenOf pd_6 rfl) rfl (by show 2 * 0 + _ ≤ _; exact Nat.le_of_eq rfl) (hb hby at_293) (fun _ _ => ⟨rfl, e265, (by decide : 10 + 1 ≤ _), (by decide : 26513 + 8192 ≤ _)⟩)
    dsimp only [Pt.U, Pt.locs, Pt.cells, Pt.slots] at X272 l272 y272 z272 st272 hQ272
    subst y272 z272
    obtain ⟨acx_272, kcx_272, zcx_272, vcx_272, rfl, N272q, K272, E1_272, F_chars_272, F_pieces_272, F_ends_272, F_names_272, F_size_272, F_length_272, VC_272, gx_272, nx_a1_272, nx_ap_272, nx_ae_272, nx_an_272, hzcx_272⟩ := hQ272
    have N272 : Fr n0 L272 := by rw [l272]; exact Fr.app N265 N272q
    have P273 : Rch p e below (s₁.setTop (entryFrame m #[(.int p1), (.int p2), (.int p3), (.int p4)] maxLocals)) (T272.setTop (mkF m 296 #[iv p1, iv p2, iv p3, iv p4, rv b2, rv pP_56, rv pP_100, rv b136, iv x155, rv b158, .val .null, rv b168, iv v230, iv v237, iv x246, iv v269, un] [])) := fun t k => P271 t (st272.trans k)
    have P274 : Rch p e below (s₁.setTop (entryFrame m #[(.int p1), (.int p2), (.int p3), (.int p4)] maxLocals)) (T272.setTop (mkF m 298 #[iv p1, iv p2, iv p3, iv p4, rv b2, rv pP_56, rv pP_100, rv b136, iv x155, rv b158, .val .null, rv b168, iv v230, iv v237, iv x246, iv v269, un] [(.ref b168)])) := fun t k => P273 t (by
      show Steps p.tables e below (T272.setTop (mkF m 296 #[iv p1, iv p2, iv p3, iv p4, rv b2, rv pP_56, rv pP_100, rv b136, iv x155, rv b158, .val .null, rv b168, iv v230, iv v237, iv x246, iv v269, un] [])) t
      refine XS.aload X272.here hx rfl (hb hby at_296) rfl rfl ?_
      exact k)
    have f276 : n0 ≤ T272.heap.size := (Nat.le_trans Z249 K272.1)
    obtain ⟨cq275, kq275, q275a, q275b, q275c⟩ := isOf hZ rfl E1_272
    obtain ⟨_, _, ⟨T275, L275, k275, n275⟩, -, X275, ⟨Lc275, hQ275, l275, y275, z275⟩, st275⟩ := X272.virtualBack hx (y := (⟨"com/example/rideau/rideau/internal/HeldText", "isEmpty", "()Z"⟩ : MethodName)) (z := (⟨"com/example/rideau/rideau/internal/HeldText", "isEmpty", "()Z"⟩ : MethodName)) hown (mvT hZ (hw _ (List.mem_of_getElem? (i := 42) rfl))) (mvT hZ (hw _ (List.mem_of_getElem? (i := 43) rfl))) (notFace_of_selects (args := #[]) (mvT hZ (hw _ (List.mem_of_getElem? (i := 45) rfl)))) (mvT hZ (hw _ (List.mem_of_getElem? (i := 45) rfl))) (mvT hZ (hw _ (List.mem_of_getElem? (i := 44) rfl))) (by decide) (backOf (W := 0) (rmE l Z a0 hw [] b168 (0 : Int32) T272.heap n0 f276 F_size_272) hZ (hw _ (List.mem_of_getElem? (i := 46) rfl)) (hw _ (List.mem_of_getElem? (i := 23) rfl)) (by decide) (by decide)) q275a q275c (g := (mkF m 298 #[iv p1, iv p2, iv p3, iv p4, rv b2, rv pP_56, rv pP_100, rv b136, iv x155, rv b158, .val .null, rv b168, iv v230, iv v237, iv x246, iv v269, un] [(.ref b168)])) rfl (by rw [hml]; rfl) (Steps.refl _) (argsL := []) (rest := []) (lenOf pd_8 rfl) rfl (by show 2 * 0 + _ ≤ _; exact Nat.le_of_eq rfl) (hb hby at_298) (fun _ _ => ⟨rfl, rfl, (by decide : 11 + 0 ≤ _), (by decide : 34705 + 0 ≤ _)⟩)
    dsimp only [Pt.U, Pt.locs, Pt.cells, Pt.slots] at X275 l275 y275 z275 st275 hQ275
    subst y275 z275
    obtain ⟨rfl, N275q, e275⟩ := hQ275
    have N275 : Fr n0 L275 := by rw [l275]; exact Fr.app N272 N275q
    have P277 : Rch p e below (s₁.setTop (entryFrame m #[(.int p1), (.int p2), (.int p3), (.int p4)] maxLocals)) (T275.setTop (mkF m 301 #[iv p1, iv p2, iv p3, iv p4, rv b2, rv pP_56, rv pP_100, rv b136, iv x155, rv b158, .val .null, rv b168, iv v230, iv v237, iv x246, iv v269, un] [(.int (own_ie (0 : Int32)))])) := fun t k => P274 t (st275.trans k)
    obtain ⟨x278, hx278⟩ : ∃ z : Int32, z = (own_ie (0 : Int32)) := ⟨_, rfl⟩
    rw [← hx278] at P277
    have P279 : Rch p e below (s₁.setTop (entryFrame m #[(.int p1), (.int p2), (.int p3), (.int p4)] maxLocals)) (T275.setTop (mkF m 307 #[iv p1, iv p2, iv p3, iv p4, rv b2, rv pP_56, rv pP_100, rv b136, iv x155, rv b158, .val .null, rv b168, iv v230, iv v237, iv x246, iv v269, iv x278] [(.int v230), (.int v237)])) := fun t k => P277 t (by
      show Steps p.tables e below (T275.setTop (mkF m 301 #[iv p1, iv p2, iv p3, iv p4, rv b2, rv pP_56, rv pP_100, rv b136, iv x155, rv b158, .val .null, rv b168, iv v230, iv v237, iv x246, iv v269, un] [(.int x278)])) t
      refine XS.istore X275.here hx rfl (hb hby at_301) rfl (l' := #[iv p1, iv p2, iv p3, iv p4, rv b2, rv pP_56, rv pP_100, rv b136, iv x155, rv b158, .val .null, rv b168, iv v230, iv v237, iv x246, iv v269, iv x278]) rfl ?_
      refine XS.iload X275.here hx rfl (hb hby at_303) rfl ?_
      refine XS.iload X275.here hx rfl (hb hby at_305) rfl ?_
      exact k)
    have hfl : v237 = v230 := by
      have hb7 := own_bits p1
      rw [← hx178, ← hx190, ← hx201] at hb7
      by_cases c7 : (p1 &&& (7 : Int32)) = (0 : Int32)
      · have q0 := hall_203.1 (hb7.mp c7)
        subst hv237 hx235 hv230 hx227; simp [c7, q0, own_ie]
      · have q0 := own_ie1 (hall_203.2 (fun q => c7 (hb7.mpr q)))
        subst hv237 hx235 hv230 hx227; simp [c7, q0]
    have P280 : Rch p e below (s₁.setTop (entryFrame m #[(.int p1), (.int p2), (.int p3), (.int p4)] maxLocals)) (T275.setTop (mkF m 312 #[iv p1, iv p2, iv p3, iv p4, rv b2, rv pP_56, rv pP_100, rv b136, iv x155, rv b158, .val .null, rv b168, iv v230, iv v237, iv x246, iv v269, iv x278] [(.int x246)])) := fun t k => P279 t (by
      show Steps p.tables e below (T275.setTop (mkF m 307 #[iv p1, iv p2, iv p3, iv p4, rv b2, rv pP_56, rv pP_100, rv b136, iv x155, rv b158, .val .null, rv b168, iv v230, iv v237, iv x246, iv v269, iv x278] [(.int v230), (.int v237)])) t
      refine XS.icmpNo X275.here hx rfl (hb hby at_307) rfl (teq hfl).2 ?_
      refine XS.iload X275.here hx rfl (hb hby at_310) rfl ?_
      exact k)
    have ho312 : ¬ (x246 = (0 : Int32)) := by
      rw [hx246]; decide
    have P281 : Rch p e below (s₁.setTop (entryFrame m #[(.int p1), (.int p2), (.int p3), (.int p4)] maxLocals)) (T275.setTop (mkF m 317 #[iv p1, iv p2, iv p3, iv p4, rv b2, rv pP_56, rv pP_100, rv b136, iv x155, rv b158, .val .null, rv b168, iv v230, iv v237, iv x246, iv v269, iv x278] [(.int v269)])) := fun t k => P280 t (by
      show Steps p.tables e below (T275.setTop (mkF m 312 #[iv p1, iv p2, iv p3, iv p4, rv b2, rv pP_56, rv pP_100, rv b136, iv x155, rv b158, .val .null, rv b168, iv v230, iv v237, iv x246, iv v269, iv x278] [(.int x246)])) t
      refine XS.ifNo X275.here hx rfl (hb hby at_312) rfl ((if0 _ _).trans (feq ho312).1) ?_
      refine XS.iload X275.here hx rfl (hb hby at_315) rfl ?_
      exact k)
    have ho317 : ¬ (v269 = (0 : Int32)) := by
      have q0 := own_ie1 hone_249; subst hv269 hx267; simp [q0]
    have P282 : Rch p e below (s₁.setTop (entryFrame m #[(.int p1), (.int p2), (.int p3), (.int p4)] maxLocals)) (T275.setTop (mkF m 322 #[iv p1, iv p2, iv p3, iv p4, rv b2, rv pP_56, rv pP_100, rv b136, iv x155, rv b158, .val .null, rv b168, iv v230, iv v237, iv x246, iv v269, iv x278] [(.int x278)])) := fun t k => P281 t (by
      show Steps p.tables e below (T275.setTop (mkF m 317 #[iv p1, iv p2, iv p3, iv p4, rv b2, rv pP_56, rv pP_100, rv b136, iv x155, rv b158, .val .null, rv b168, iv v230, iv v237, iv x246, iv v269, iv x278] [(.int v269)])) t
      refine XS.ifNo X275.here hx rfl (hb hby at_317) rfl ((if0 _ _).trans (feq ho317).1) ?_
      refine XS.iload X275.here hx rfl (hb hby at_320) rfl ?_
      exact k)
    have ho322 : ¬ (x278 = (0 : Int32)) := by
      rw [hx278]; decide
    have P283 : Rch p e below (s₁.setTop (entryFrame m #[(.int p1), (.int p2), (.int p3), (.int p4)] maxLocals)) (T275.setTop (mkF m 330 #[iv p1, iv p2, iv p3, iv p4, rv b2, rv pP_56, rv pP_100, rv b136, iv x155, rv b158, .val .null, rv b168, iv v230, iv v237, iv x246, iv v269, iv x278] [(.int (1 : Int32))])) := fun t k => P282 t (by
      show Steps p.tables e below (T275.setTop (mkF m 322 #[iv p1, iv p2, iv p3, iv p4, rv b2, rv pP_56, rv pP_100, rv b136, iv x155, rv b158, .val .null, rv b168, iv v230, iv v237, iv x246, iv v269, iv x278] [(.int x278)])) t
      refine XS.ifNo X275.here hx rfl (hb hby at_322) rfl ((if0 _ _).trans (feq ho322).1) ?_
      refine XS.iconst X275.here hx rfl (hb hby at_325) ?_
      refine XS.goto X275.here hx rfl (pc0 := 326) (pc' := 330) rfl (hb hby at_326) (by decide) (by decide) ?_
      exact k)
    obtain ⟨fs, hr, hrun, hended, hW, hsame⟩ := X275.leave (v := some (.int (1 : Int32))) (fun h => by rw [Bd.returns] at h; cases h)
    refine ⟨_, _, P283 _ ?_, hrun, hended, _, _, rfl, ?_, ⟨_, rfl⟩, hW, hsame.mono (by decide) (by decide)⟩
    · exact retN X275 hx (t := .boolean) Bd.returns (by simp) (hb hby at_330) hr
    · show Q_rm0 Z p1 p2 p3 p4 x_0 x_1 x_2 x_3 x_4 x_5 x_6 cs h0 n0 _ T275.heap _
      rw [e275]
      exact ⟨rfl, N275⟩
  · obtain ⟨x284, hx284⟩ : ∃ z : Int32, z = ((p4 &&& (255 : Int32)).toUInt32.toUInt16.toUInt32.toInt32) := ⟨_, rfl⟩
    have P285 : Rch p e below (s₁.setTop (entryFrame m #[(.int p1), (.int p2), (.int p3), (.int p4)] maxLocals)) (T158.setTop (mkF m 133 #[iv p1, iv p2, iv p3, iv p4, rv b2, rv pP_56, rv pP_100, rv b136, iv x155, rv b158, un, un, un, un, un, un, un] [(.int x284)])) := fun t k => P165 t (by
      subst hx284
      show Steps p.tables e below (T158.setTop (mkF m 124 #[iv p1, iv p2, iv p3, iv p4, rv b2, rv pP_56, rv pP_100, rv b136, iv x155, rv b158, un, un, un, un, un, un, un] [(.int x164)])) t
      refine XS.ifNo X158.here hx rfl (hb hby at_124) rfl ((if0 _ _).trans (feq c166).1) ?_
      refine XS.iloadN X158.here hx rfl (hb hby at_127) rfl ?_
      refine XS.sipush X158.here hx rfl (hb hby at_128) ?_
      show Steps p.tables e below (T158.setTop (mkF m 131 #[iv p1, iv p2, iv p3, iv p4, rv b2, rv pP_56, rv pP_100, rv b136, iv x155, rv b158, un, un, un, un, un, un, un] [(.int (255 : Int32)), (.int p4)])) t
      refine XS.iand X158.here hx rfl (hb hby at_131) rfl ?_
      refine XS.i2c X158.here hx rfl (hb hby at_132) rfl ?_
      exact k)
    have hvo : ¬ ((255 : Int32) < x284) := by rw [hx284]; exact own_255 _
    have f287 : Old Z n0 h158 := (((((((f48.wr W51 g_b2).keep K56 all0).keep K100 all0).ext E136).wr W148 g_b136).wr W153 g_b136).ext E158)
    have f288 : n0 ≤ h158.size := (Nat.le_trans f161 E158.1)
    obtain ⟨_, _, ⟨T286, L286, k286, n286⟩, -, X286, ⟨Lc286, hQ286, l286, y286, z286⟩, st286⟩ := Jvm.LawKit.callS X158 hx (y := (⟨"java/lang/String", "valueOf", "(C)Ljava/lang/String;"⟩ : MethodName)) hown (mvT hZ (hw _ (List.mem_of_getElem? (i := 83) rfl))) (mvT hZ (hw _ (List.mem_of_getElem? (i := 84) rfl))) (mvT hZ (hw _ (List.mem_of_getElem? (i := 85) rfl))) (mvT hZ (hw _ (List.mem_of_getElem? (i := 86) rfl))) (by decide) (backOf (W := 0) (rmVo l Z a0 hw [] x284 cs h158 n0 f288 f287 SC hcs hvo) hZ (hw _ (List.mem_of_getElem? (i := 86) rfl)) (hw _ (List.mem_of_getElem? (i := 85) rfl)) (by decide) (by decide)) (g := (mkF m 133 #[iv p1, iv p2, iv p3, iv p4, rv b2, rv pP_56, rv pP_100, rv b136, iv x155, rv b158, un, un, un, un, un, un, un] [(.int x284)])) rfl (by rw [hml]; rfl) (argsL := [(.int x284)]) (rest := []) (lenOf pd_9 rfl) rfl (by show 2 * 0 + _ ≤ _; exact Nat.le_of_eq rfl) (hb hby at_133) (fun _ _ => ⟨rfl, e158, (by decide : 3 + 2 ≤ _), (by decide : 9009 + 5 ≤ _)⟩)
    dsimp only [Pt.U, Pt.locs, Pt.cells, Pt.slots] at X286 l286 y286 z286 st286 hQ286
    subst y286 z286
    have f289 : Keep h0 h158 [] := (f162.ext E158)
    obtain ⟨rs_286, rfl, N286q, K286, Fr__286, Er_286⟩ := hQ286
    have N286 : Fr n0 L286 := by rw [l286]; exact Fr.app N153 N286q
    have g_rs_286 : n0 ≤ rs_286 := Nat.le_trans f288 Fr__286
    have sz_rs_286 : h0.size ≤ rs_286 := Nat.le_trans f289.1 Fr__286
    have ne_x_0_rs_286 : x_0 ≠ rs_286 := Nat.ne_of_lt (Nat.lt_of_lt_of_le ((((f137.ext E136).wr W148).wr W153).ext E158).lt Fr__286)
    have ne_x_1_rs_286 : x_1 ≠ rs_286 := Nat.ne_of_lt (Nat.lt_of_lt_of_le ((((f138.ext E136).wr W148).wr W153).ext E158).lt Fr__286)
    have ne_x_2_rs_286 : x_2 ≠ rs_286 := Nat.ne_of_lt (Nat.lt_of_lt_of_le ((((f139.ext E136).wr W148).wr W153).ext E158).lt Fr__286)
    have ne_x_3_rs_286 : x_3 ≠ rs_286 := Nat.ne_of_lt (Nat.lt_of_lt_of_le ((((f140.ext E136).wr W148).wr W153).ext E158).lt Fr__286)
    have ne_x_4_rs_286 : x_4 ≠ rs_286 := Nat.ne_of_lt (Nat.lt_of_lt_of_le ((((f141.ext E136).wr W148).wr W153).ext E158).lt Fr__286)
    have ne_x_5_rs_286 : x_5 ≠ rs_286 := Nat.ne_of_lt (Nat.lt_of_lt_of_le ((((f142.ext E136).wr W148).wr W153).ext E158).lt Fr__286)
    have ne_x_6_rs_286 : x_6 ≠ rs_286 := Nat.ne_of_lt (Nat.lt_of_lt_of_le (f159.ext E158).lt Fr__286)
    have ne_b2_rs_286 : b2 ≠ rs_286 := Nat.ne_of_lt (Nat.lt_of_lt_of_le (f160.ext E158).lt Fr__286)
    have ne_pP_56_rs_286 : pP_56 ≠ rs_286 := Nat.ne_of_lt (Nat.lt_of_lt_of_le (((((Ep_56.keep K100).ext E136).wr W148).wr W153).ext E158).lt Fr__286)
    have ne_pP_100_rs_286 : pP_100 ≠ rs_286 := Nat.ne_of_lt (Nat.lt_of_lt_of_le ((((Ep_100.ext E136).wr W148).wr W153).ext E158).lt Fr__286)
    have ne_b136_rs_286 : b136 ≠ rs_286 := Nat.ne_of_lt (Nat.lt_of_lt_of_le (V153.ext E158).lt Fr__286)
    have ne_b158_rs_286 : b158 ≠ rs_286 := Nat.ne_of_lt (Nat.lt_of_lt_of_le V158.lt Fr__286)
    have P290 : Rch p e below (s₁.setTop (entryFrame m #[(.int p1), (.int p2), (.int p3), (.int p4)] maxLocals)) (T286.setTop (mkF m 136 #[iv p1, iv p2, iv p3, iv p4, rv b2, rv pP_56, rv pP_100, rv b136, iv x155, rv b158, un, un, un, un, un, un, un] [(.ref rs_286)])) := fun t k => P285 t (st286 t k)
    have P291 : Rch p e below (s₁.setTop (entryFrame m #[(.int p1), (.int p2), (.int p3), (.int p4)] maxLocals)) (T286.setTop (mkF m 142 #[iv p1, iv p2, iv p3, iv p4, rv b2, rv pP_56, rv pP_100, rv b136, iv x155, rv b158, rv rs_286, un, un, un, un, un, un] [])) := fun t k => P290 t (by
      show Steps p.tables e below (T286.setTop (mkF m 136 #[iv p1, iv p2, iv p3, iv p4, rv b2, rv pP_56, rv pP_100, rv b136, iv x155, rv b158, un, un, un, un, un, un, un] [(.ref rs_286)])) t
      refine XS.goto X286.here hx rfl (pc0 := 136) (pc' := 140) rfl (hb hby at_136) (by decide) (by decide) ?_
      refine XS.astore X286.here hx rfl (hb hby at_140) rfl rfl (l' := #[iv p1, iv p2, iv p3, iv p4, rv b2, rv pP_56, rv pP_100, rv b136, iv x155, rv b158, rv rs_286, un, un, un, un, un, un]) rfl ?_
      exact k)
    have f293 : Exa Z T286.heap pP_56 "com/example/rideau/rideau/internal/HeldText$Piece" := ((((((Ep_56.keep K100).ext E136).wr W148).wr W153).ext E158).keep K286)
    have f294 : n0 ≤ T286.heap.size := (Nat.le_trans f288 K286.1)
    have f295 : Keep h0 T286.heap [] := (f289.trans K286 all0)
    obtain ⟨T292, h292, X292, e292, E292, A292, D292, -, st292⟩ := newO X286 hx hZ hown (hw _ (List.mem_of_getElem? (i := 21) rfl)) (hw _ (List.mem_of_getElem? (i := 22) rfl)) (hw _ (List.mem_of_getElem? (i := 23) rfl)) rfl (g := (mkF m 142 #[iv p1, iv p2, iv p3, iv p4, rv b2, rv pP_56, rv pP_100, rv b136, iv x155, rv b158, rv rs_286, un, un, un, un, un, un] [])) rfl (hb hby at_142) (by decide) (by decide)
    obtain ⟨b292, g292⟩ : ∃ z, z = T286.heap.size := ⟨_, rfl⟩
    rw [← g292] at A292 D292 st292
    have g_b292 : n0 ≤ b292 := Nat.le_trans f294 (Nat.le_of_eq g292.symm)
    have sz_b292 : h0.size ≤ b292 := Nat.le_trans f295.1 (Nat.le_of_eq g292.symm)
    have ne_x_0_b292 : x_0 ≠ b292 := Nat.ne_of_lt (Nat.lt_of_lt_of_le (((((f137.ext E136).wr W148).wr W153).ext E158).keep K286).lt (Nat.le_of_eq g292.symm))
    have ne_x_1_b292 : x_1 ≠ b292 := Nat.ne_of_lt (Nat.lt_of_lt_of_le (((((f138.ext E136).wr W148).wr W153).ext E158).keep K286).lt (Nat.le_of_eq g292.symm))
    have ne_x_2_b292 : x_2 ≠ b292 := Nat.ne_of_lt (Nat.lt_of_lt_of_le (((((f139.ext E136).wr W148).wr W153).ext E158).keep K286).lt (Nat.le_of_eq g292.symm))
    have ne_x_3_b292 : x_3 ≠ b292 := Nat.ne_of_lt (Nat.lt_of_lt_of_le (((((f140.ext E136).wr W148).wr W153).ext E158).keep K286).lt (Nat.le_of_eq g292.symm))
    have ne_x_4_b292 : x_4 ≠ b292 := Nat.ne_of_lt (Nat.lt_of_lt_of_le (((((f141.ext E136).wr W148).wr W153).ext E158).keep K286).lt (Nat.le_of_eq g292.symm))
    have ne_x_5_b292 : x_5 ≠ b292 := Nat.ne_of_lt (Nat.lt_of_lt_of_le (((((f142.ext E136).wr W148).wr W153).ext E158).keep K286).lt (Nat.le_of_eq g292.symm))
    have ne_x_6_b292 : x_6 ≠ b292 := Nat.ne_of_lt (Nat.lt_of_lt_of_le ((f159.ext E158).keep K286).lt (Nat.le_of_eq g292.symm))
    have ne_b2_b292 : b2 ≠ b292 := Nat.ne_of_lt (Nat.lt_of_lt_of_le ((f160.ext E158).keep K286 nin0).lt (Nat.le_of_eq g292.symm))
    have ne_pP_56_b292 : pP_56 ≠ b292 := Nat.ne_of_lt (Nat.lt_of_lt_of_le f293.lt (Nat.le_of_eq g292.symm))
    have ne_pP_100_b292 : pP_100 ≠ b292 := Nat.ne_of_lt (Nat.lt_of_lt_of_le (((((Ep_100.ext E136).wr W148).wr W153).ext E158).keep K286).lt (Nat.le_of_eq g292.symm))
    have ne_b136_b292 : b136 ≠ b292 := Nat.ne_of_lt (Nat.lt_of_lt_of_le ((V153.ext E158).keep K286 nin0).lt (Nat.le_of_eq g292.symm))
    have ne_b158_b292 : b158 ≠ b292 := Nat.ne_of_lt (Nat.lt_of_lt_of_le (V158.keep K286 nin0).lt (Nat.le_of_eq g292.symm))
    have ne_rs_286_b292 : rs_286 ≠ b292 := Nat.ne_of_lt (Nat.lt_of_lt_of_le Er_286.lt (Nat.le_of_eq g292.symm))
    have F292_31 : Fld Z h292 b292 "com/example/rideau/rideau/internal/HeldText" "chars" "[C" .null := D292 (Or.inl (hw _ (List.mem_of_getElem? (i := 31) rfl))) (ty := (.array .char)) (by decide)
    have F292_34 : Fld Z h292 b292 "com/example/rideau/rideau/internal/HeldText" "pieces" "[Lcom/example/rideau/rideau/internal/HeldText$Piece;" .null := D292 (Or.inl (hw _ (List.mem_of_getElem? (i := 34) rfl))) (ty := (.array (.object "com/example/rideau/rideau/internal/HeldText$Piece"))) (by decide)
    have F292_37 : Fld Z h292 b292 "com/example/rideau/rideau/internal/HeldText" "ends" "[I" .null := D292 (Or.inl (hw _ (List.mem_of_getElem? (i := 37) rfl))) (ty := (.array .int)) (by decide)
    have F292_41 : Fld Z h292 b292 "com/example/rideau/rideau/internal/HeldText" "names" "[Ljava/lang/String;" .null := D292 (Or.inl (hw _ (List.mem_of_getElem? (i := 41) rfl))) (ty := (.array (.object "java/lang/String"))) (by decide)
    have F292_48 : Fld Z h292 b292 "com/example/rideau/rideau/internal/HeldText" "size" "I" (.int (0 : Int32)) := D292 (Or.inl (hw _ (List.mem_of_getElem? (i := 48) rfl))) (ty := .int) (by decide)
    have F292_55 : Fld Z h292 b292 "com/example/rideau/rideau/internal/HeldText" "length" "I" (.int (0 : Int32)) := D292 (Or.inl (hw _ (List.mem_of_getElem? (i := 55) rfl))) (ty := .int) (by decide)
    have P296 : Rch p e below (s₁.setTop (entryFrame m #[(.int p1), (.int p2), (.int p3), (.int p4)] maxLocals)) (T292.setTop (mkF m 145 #[iv p1, iv p2, iv p3, iv p4, rv b2, rv pP_56, rv pP_100, rv b136, iv x155, rv b158, rv rs_286, un, un, un, un, un, un] [(.ref b292)])) := fun t k => P291 t (st292 t k)
    have P297 : Rch p e below (s₁.setTop (entryFrame m #[(.int p1), (.int p2), (.int p3), (.int p4)] maxLocals)) (T292.setTop (mkF m 146 #[iv p1, iv p2, iv p3, iv p4, rv b2, rv pP_56, rv pP_100, rv b136, iv x155, rv b158, rv rs_286, un, un, un, un, un, un] [(.ref b292), (.ref b292)])) := fun t k => P296 t (by
      show Steps p.tables e below (T292.setTop (mkF m 145 #[iv p1, iv p2, iv p3, iv p4, rv b2, rv pP_56, rv pP_100, rv b136, iv x155, rv b158, rv rs_286, un, un, un, un, un, un] [(.ref b292)])) t
      refine XS.dup X292.here hx rfl (hb hby at_145) rfl rfl ?_
      exact k)
    have f299 : n0 ≤ h292.size := (Nat.le_trans f294 E292.1)
    obtain ⟨_, _, ⟨T298, L298, k298, n298⟩, -, X298, ⟨Lc298, hQ298, l298, y298, z298⟩, st298⟩ := X292.specialBack hx (y := (⟨"com/example/rideau/rideau/internal/HeldText", "<init>", "()V"⟩ : MethodName)) rfl hown (mvT hZ (hw _ (List.mem_of_getElem? (i := 24) rfl))) (mvT hZ (hw _ (List.mem_of_getElem? (i := 25) rfl))) (mvT hZ (hw _ (List.mem_of_getElem? (i := 26) rfl))) (by decide) (backOf (W := 1) (rmI l Z a0 hw [] b292 h292 n0 f299 A292 g_b292 F292_31 F292_34 F292_37 F292_41 F292_48 F292_55) hZ (hw _ (List.mem_of_getElem? (i := 26) rfl)) (hw _ (List.mem_of_getElem? (i := 23) rfl)) (by decide) (by decide)) (g := (mkF m 146 #[iv p1, iv p2, iv p3, iv p4, rv b2, rv pP_56, rv pP_100, rv b136, iv x155, rv b158, rv rs_286, un, un, un, un, un, un] [(.ref b292), (.ref b292)])) rfl (by rw [hml]; rfl) (Steps.refl _) (a := b292) (argsL := []) (rest := [(.ref b292)]) (lenOf pd_6 rfl) rfl (by show 2 * 0 + _ ≤ _; exact Nat.le_of_eq rfl) (hb hby at_146) (fun _ _ => ⟨rfl, e292, (by decide : 6 + 4 ≤ _), (by decide : 9020 + 304 ≤ _)⟩)
    dsimp only [Pt.U, Pt.locs, Pt.cells, Pt.slots] at X298 l298 y298 z298 st298 hQ298
    subst y298 z298
    have f300 : Exa Z h292 x_0 "com/example/rideau/rideau/internal/HeldText$Piece" := ((((((f137.ext E136).wr W148).wr W153).ext E158).keep K286).ext E292)
    have f301 : Exa Z h292 x_1 "com/example/rideau/rideau/internal/HeldText$Piece" := ((((((f138.ext E136).wr W148).wr W153).ext E158).keep K286).ext E292)
    have f302 : Exa Z h292 x_2 "com/example/rideau/rideau/internal/HeldText$Piece" := ((((((f139.ext E136).wr W148).wr W153).ext E158).keep K286).ext E292)
    have f303 : Exa Z h292 x_3 "com/example/rideau/rideau/internal/HeldText$Piece" := ((((((f140.ext E136).wr W148).wr W153).ext E158).keep K286).ext E292)
    have f304 : Exa Z h292 x_4 "com/example/rideau/rideau/internal/HeldText$Piece" := ((((((f141.ext E136).wr W148).wr W153).ext E158).keep K286).ext E292)
    have f305 : Exa Z h292 x_5 "com/example/rideau/rideau/internal/HeldText$Piece" := ((((((f142.ext E136).wr W148).wr W153).ext E158).keep K286).ext E292)
    have f306 : Exa Z h292 pP_100 "com/example/rideau/rideau/internal/HeldText$Piece" := ((((((Ep_100.ext E136).wr W148).wr W153).ext E158).keep K286).ext E292)
    have f307 : Keep h0 h292 [] := (f295.ext E292)
    obtain ⟨ac_298, ap_298, ae_298, an_298, kc_298, kp_298, ke_298, kn_298, vc_298, vp_298, ve_298, vn_298, rfl, N298q, K298, Fz_ac_298, Fz_ap_298, Fz_ae_298, Fz_an_298, E1_298, F_chars_298, F_pieces_298, F_ends_298, F_names_298, F_size_298, F_length_298, VC_298, VP_298, VE_298, VN_298, n_ac_ap_298, n_ac_ae_298, n_ac_an_298, n_ap_ae_298, n_ap_an_298, n_ae_an_298, Op_298, On_298, hvp_298, hve_298, hvn_298⟩ := hQ298
    have N298 : Fr n0 L298 := by rw [l298]; exact Fr.app N286 N298q
    have g_ac_298 : n0 ≤ ac_298 := Nat.le_trans f299 Fz_ac_298
    have sz_ac_298 : h0.size ≤ ac_298 := Nat.le_trans f307.1 Fz_ac_298
    have ne_x_0_ac_298 : x_0 ≠ ac_298 := Nat.ne_of_lt (Nat.lt_of_lt_of_le f300.lt Fz_ac_298)
    have ne_x_1_ac_298 : x_1 ≠ ac_298 := Nat.ne_of_lt (Nat.lt_of_lt_of_le f301.lt Fz_ac_298)
    have ne_x_2_ac_298 : x_2 ≠ ac_298 := Nat.ne_of_lt (Nat.lt_of_lt_of_le f302.lt Fz_ac_298)
    have ne_x_3_ac_298 : x_3 ≠ ac_298 := Nat.ne_of_lt (Nat.lt_of_lt_of_le f303.lt Fz_ac_298)
    have ne_x_4_ac_298 : x_4 ≠ ac_298 := Nat.ne_of_lt (Nat.lt_of_lt_of_le f304.lt Fz_ac_298)
    have ne_x_5_ac_298 : x_5 ≠ ac_298 := Nat.ne_of_lt (Nat.lt_of_lt_of_le f305.lt Fz_ac_298)
    have ne_x_6_ac_298 : x_6 ≠ ac_298 := Nat.ne_of_lt (Nat.lt_of_lt_of_le (((f159.ext E158).keep K286).ext E292).lt Fz_ac_298)
    have ne_b2_ac_298 : b2 ≠ ac_298 := Nat.ne_of_lt (Nat.lt_of_lt_of_le (((f160.ext E158).keep K286 nin0).ext E292).lt Fz_ac_298)
    have ne_pP_56_ac_298 : pP_56 ≠ ac_298 := Nat.ne_of_lt (Nat.lt_of_lt_of_le (f293.ext E292).lt Fz_ac_298)
    have ne_pP_100_ac_298 : pP_100 ≠ ac_298 := Nat.ne_of_lt (Nat.lt_of_lt_of_le f306.lt Fz_ac_298)
    have ne_b136_ac_298 : b136 ≠ ac_298 := Nat.ne_of_lt (Nat.lt_of_lt_of_le (((V153.ext E158).keep K286 nin0).ext E292).lt Fz_ac_298)
    have ne_b158_ac_298 : b158 ≠ ac_298 := Nat.ne_of_lt (Nat.lt_of_lt_of_le ((V158.keep K286 nin0).ext E292).lt Fz_ac_298)
    have ne_rs_286_ac_298 : rs_286 ≠ ac_298 := Nat.ne_of_lt (Nat.lt_of_lt_of_le (Er_286.ext E292).lt Fz_ac_298)
    have ne_b292_ac_298 : b292 ≠ ac_298 := Nat.ne_of_lt (Nat.lt_of_lt_of_le A292.lt Fz_ac_298)
    have g_ap_298 : n0 ≤ ap_298 := Nat.le_trans f299 Fz_ap_298
    have sz_ap_298 : h0.size ≤ ap_298 := Nat.le_trans f307.1 Fz_ap_298
    have ne_x_0_ap_298 : x_0 ≠ ap_298 := Nat.ne_of_lt (Nat.lt_of_lt_of_le f300.lt Fz_ap_298)
    have ne_x_1_ap_298 : x_1 ≠ ap_298 := Nat.ne_of_lt (Nat.lt_of_lt_of_le f301.lt Fz_ap_298)
    have ne_x_2_ap_298 : x_2 ≠ ap_298 := Nat.ne_of_lt (Nat.lt_of_lt_of_le f302.lt Fz_ap_298)
    have ne_x_3_ap_298 : x_3 ≠ ap_298 := Nat.ne_of_lt (Nat.lt_of_lt_of_le f303.lt Fz_ap_298)
    have ne_x_4_ap_298 : x_4 ≠ ap_298 := Nat.ne_of_lt (Nat.lt_of_lt_of_le f304.lt Fz_ap_298)
    have ne_x_5_ap_298 : x_5 ≠ ap_298 := Nat.ne_of_lt (Nat.lt_of_lt_of_le f305.lt Fz_ap_298)
    have ne_x_6_ap_298 : x_6 ≠ ap_298 := Nat.ne_of_lt (Nat.lt_of_lt_of_le (((f159.ext E158).keep K286).ext E292).lt Fz_ap_298)
    have ne_b2_ap_298 : b2 ≠ ap_298 := Nat.ne_of_lt (Nat.lt_of_lt_of_le (((f160.ext E158).keep K286 nin0).ext E292).lt Fz_ap_298)
    have ne_pP_56_ap_298 : pP_56 ≠ ap_298 := Nat.ne_of_lt (Nat.lt_of_lt_of_le (f293.ext E292).lt Fz_ap_298)
    have ne_pP_100_ap_298 : pP_100 ≠ ap_298 := Nat.ne_of_lt (Nat.lt_of_lt_of_le f306.lt Fz_ap_298)
    have ne_b136_ap_298 : b136 ≠ ap_298 := Nat.ne_of_lt (Nat.lt_of_lt_of_le (((V153.ext E158).keep K286 nin0).ext E292).lt Fz_ap_298)
    have ne_b158_ap_298 : b158 ≠ ap_298 := Nat.ne_of_lt (Nat.lt_of_lt_of_le ((V158.keep K286 nin0).ext E292).lt Fz_ap_298)
    have ne_rs_286_ap_298 : rs_286 ≠ ap_298 := Nat.ne_of_lt (Nat.lt_of_lt_of_le (Er_286.ext E292).lt Fz_ap_298)
    have ne_b292_ap_298 : b292 ≠ ap_298 := Nat.ne_of_lt (Nat.lt_of_lt_of_le A292.lt Fz_ap_298)
    have g_ae_298 : n0 ≤ ae_298 := Nat.le_trans f299 Fz_ae_298
    have sz_ae_298 : h0.size ≤ ae_298 := Nat.le_trans f307.1 Fz_ae_298
    have ne_x_0_ae_298 : x_0 ≠ ae_298 := Nat.ne_of_lt (Nat.lt_of_lt_of_le f300.lt Fz_ae_298)
    have ne_x_1_ae_298 : x_1 ≠ ae_298 := Nat.ne_of_lt (Nat.lt_of_lt_of_le f301.lt Fz_ae_298)
    have ne_x_2_ae_298 : x_2 ≠ ae_298 := Nat.ne_of_lt (Nat.lt_of_lt_of_le f302.lt Fz_ae_298)
    have ne_x_3_ae_298 : x_3 ≠ ae_298 := Nat.ne_of_lt (Nat.lt_of_lt_of_le f303.lt Fz_ae_298)
    have ne_x_4_ae_298 : x_4 ≠ ae_298 := Nat.ne_of_lt (Nat.lt_of_lt_of_le f304.lt Fz_ae_298)
    have ne_x_5_ae_298 : x_5 ≠ ae_298 := Nat.ne_of_lt (Nat.lt_of_lt_of_le f305.lt Fz_ae_298)
    have ne_x_6_ae_298 : x_6 ≠ ae_298 := Nat.ne_of_lt (Nat.lt_of_lt_of_le (((f159.ext E158).keep K286).ext E292).lt Fz_ae_298)
    have ne_b2_ae_298 : b2 ≠ ae_298 := Nat.ne_of_lt (Nat.lt_of_lt_of_le (((f160.ext E158).keep K286 nin0).ext E292).lt Fz_ae_298)
    have ne_pP_56_ae_298 : pP_56 ≠ ae_298 := Nat.ne_of_lt (Nat.lt_of_lt_of_le (f293.ext E292).lt Fz_ae_298)
    have ne_pP_100_ae_298 : pP_100 ≠ ae_298 := Nat.ne_of_lt (Nat.lt_of_lt_of_le f306.lt Fz_ae_298)
    have ne_b136_ae_298 : b136 ≠ ae_298 := Nat.ne_of_lt (Nat.lt_of_lt_of_le (((V153.ext E158).keep K286 nin0).ext E292).lt Fz_ae_298)
    have ne_b158_ae_298 : b158 ≠ ae_298 := Nat.ne_of_lt (Nat.lt_of_lt_of_le ((V158.keep K286 nin0).ext E292).lt Fz_ae_298)
    have ne_rs_286_ae_298 : rs_286 ≠ ae_298 := Nat.ne_of_lt (Nat.lt_of_lt_of_le (Er_286.ext E292).lt Fz_ae_298)
    have ne_b292_ae_298 : b292 ≠ ae_298 := Nat.ne_of_lt (Nat.lt_of_lt_of_le A292.lt Fz_ae_298)
    have g_an_298 : n0 ≤ an_298 := Nat.le_trans f299 Fz_an_298
    have sz_an_298 : h0.size ≤ an_298 := Nat.le_trans f307.1 Fz_an_298
    have ne_x_0_an_298 : x_0 ≠ an_298 := Nat.ne_of_lt (Nat.lt_of_lt_of_le f300.lt Fz_an_298)
    have ne_x_1_an_298 : x_1 ≠ an_298 := Nat.ne_of_lt (Nat.lt_of_lt_of_le f301.lt Fz_an_298)
    have ne_x_2_an_298 : x_2 ≠ an_298 := Nat.ne_of_lt (Nat.lt_of_lt_of_le f302.lt Fz_an_298)
    have ne_x_3_an_298 : x_3 ≠ an_298 := Nat.ne_of_lt (Nat.lt_of_lt_of_le f303.lt Fz_an_298)
    have ne_x_4_an_298 : x_4 ≠ an_298 := Nat.ne_of_lt (Nat.lt_of_lt_of_le f304.lt Fz_an_298)
    have ne_x_5_an_298 : x_5 ≠ an_298 := Nat.ne_of_lt (Nat.lt_of_lt_of_le f305.lt Fz_an_298)
    have ne_x_6_an_298 : x_6 ≠ an_298 := Nat.ne_of_lt (Nat.lt_of_lt_of_le (((f159.ext E158).keep K286).ext E292).lt Fz_an_298)
    have ne_b2_an_298 : b2 ≠ an_298 := Nat.ne_of_lt (Nat.lt_of_lt_of_le (((f160.ext E158).keep K286 nin0).ext E292).lt Fz_an_298)
    have ne_pP_56_an_298 : pP_56 ≠ an_298 := Nat.ne_of_lt (Nat.lt_of_lt_of_le (f293.ext E292).lt Fz_an_298)
    have ne_pP_100_an_298 : pP_100 ≠ an_298 := Nat.ne_of_lt (Nat.lt_of_lt_of_le f306.lt Fz_an_298)
    have ne_b136_an_298 : b136 ≠ an_298 := Nat.ne_of_lt (Nat.lt_of_lt_of_le (((V153.ext E158).keep K286 nin0).ext E292).lt Fz_an_298)
    have ne_b158_an_298 : b158 ≠ an_298 := Nat.ne_of_lt (Nat.lt_of_lt_of_le ((V158.keep K286 nin0).ext E292).lt Fz_an_298)
    have ne_rs_286_an_298 : rs_286 ≠ an_298 := Nat.ne_of_lt (Nat.lt_of_lt_of_le (Er_286.ext E292).lt Fz_an_298)
    have ne_b292_an_298 : b292 ≠ an_298 := Nat.ne_of_lt (Nat.lt_of_lt_of_le A292.lt Fz_an_298)
    have P308 : Rch p e below (s₁.setTop (entryFrame m #[(.int p1), (.int p2), (.int p3), (.int p4)] maxLocals)) (T298.setTop (mkF m 149 #[iv p1, iv p2, iv p3, iv p4, rv b2, rv pP_56, rv pP_100, rv b136, iv x155, rv b158, rv rs_286, un, un, un, un, un, un] [(.ref b292)])) := fun t k => P297 t (st298.trans k)
    obtain ⟨x309, hx309⟩ : ∃ z : Int32, z = (p1 &&& (1 : Int32)) := ⟨_, rfl⟩
    have P310 : Rch p e below (s₁.setTop (entryFrame m #[(.int p1), (.int p2), (.int p3), (.int p4)] maxLocals)) (T298.setTop (mkF m 154 #[iv p1, iv p2, iv p3, iv p4, rv b2, rv pP_56, rv pP_100, rv b136, iv x155, rv b158, rv rs_286, rv b292, un, un, un, un, un] [(.int x309)])) := fun t k => P308 t (by
      subst hx309
      show Steps p.tables e below (T298.setTop (mkF m 149 #[iv p1, iv p2, iv p3, iv p4, rv b2, rv pP_56, rv pP_100, rv b136, iv x155, rv b158, rv rs_286, un, un, un, un, un, un] [(.ref b292)])) t
      refine XS.astore X298.here hx rfl (hb hby at_149) rfl rfl (l' := #[iv p1, iv p2, iv p3, iv p4, rv b2, rv pP_56, rv pP_100, rv b136, iv x155, rv b158, rv rs_286, rv b292, un, un, un, un, un]) rfl ?_
      refine XS.iloadN X298.here hx rfl (hb hby at_151) rfl ?_
      refine XS.iconst X298.here hx rfl (hb hby at_152) ?_
      show Steps p.tables e below (T298.setTop (mkF m 153 #[iv p1, iv p2, iv p3, iv p4, rv b2, rv pP_56, rv pP_100, rv b136, iv x155, rv b158, rv rs_286, rv b292, un, un, un, un, un] [(.int (1 : Int32)), (.int p1)])) t
      refine XS.iand X298.here hx rfl (hb hby at_153) rfl ?_
      exact k)
    obtain ⟨T311, L311, h311, sj_311, lj_311, vpj_311, vej_311, vnj_311, vcj_311, X311, e311, N311, Z311, K311, F_chars_311, F_pieces_311, F_ends_311, F_names_311, F_size_311, F_length_311, VC_311, VP_311, VE_311, VN_311, hvpj_311, hvej_311, hvnj_311, hlj_311, hbj_311, hall_311, P311⟩ : ∃ (T311 : State) (L311 : List Loc) (h311 : Heap) (sj_311 : Int32) (lj_311 : Int32) (vpj_311 : List Value) (vej_311 : List Value) (vnj_311 : List Value) (vcj_311 : List Value), Stand p l e room_1 s m #[(.int p1), (.int p2), (.int p3), (.int p4)] below meth c T311 L311 10 9324 ∧ T311.heap = h311 ∧ Fr n0 L311 ∧ n0 ≤ h311.size ∧ Keep T298.heap h311 [b292, ac_298, ap_298, ae_298, an_298] ∧ (Fld Z h311 b292 "com/example/rideau/rideau/internal/HeldText" "chars" "[C" (.ref ac_298)) ∧ (Fld Z h311 b292 "com/example/rideau/rideau/internal/HeldText" "pieces" "[Lcom/example/rideau/rideau/internal/HeldText$Piece;" (.ref ap_298)) ∧ (Fld Z h311 b292 "com/example/rideau/rideau/internal/HeldText" "ends" "[I" (.ref ae_298)) ∧ (Fld Z h311 b292 "com/example/rideau/rideau/internal/HeldText" "names" "[Ljava/lang/String;" (.ref an_298)) ∧ (Fld Z h311 b292 "com/example/rideau/rideau/internal/HeldText" "size" "I" (.int sj_311)) ∧ (Fld Z h311 b292 "com/example/rideau/rideau/internal/HeldText" "length" "I" (.int lj_311)) ∧ (Arv Z h311 ac_298 kc_298 .char (256 : Int32) vcj_311 (.int (0 : Int32))) ∧ (Arv Z h311 ap_298 kp_298 (.object "com/example/rideau/rideau/internal/HeldText$Piece") (16 : Int32) vpj_311 .null) ∧ (Arv Z h311 ae_298 ke_298 .int (16 : Int32) vej_311 (.int (0 : Int32))) ∧ (Arv Z h311 an_298 kn_298 (.object "java/lang/String") (16 : Int32) vnj_311 .null) ∧ (vpj_311.length = 16) ∧ (vej_311.length = 16) ∧ (vnj_311.length = 16) ∧ (0 ≤ lj_311.toInt ∧ lj_311.toInt ≤ 2) ∧ (0 ≤ sj_311.toInt ∧ sj_311.toInt ≤ 1) ∧ ((x309 = (0 : Int32) → sj_311 = (0 : Int32)) ∧ (¬ (x309 = (0 : Int32)) → 1 ≤ sj_311.toInt)) ∧ Rch p e below (s₁.setTop (entryFrame m #[(.int p1), (.int p2), (.int p3), (.int p4)] maxLocals)) (T311.setTop (mkF m 169 #[iv p1, iv p2, iv p3, iv p4, rv b2, rv pP_56, rv pP_100, rv b136, iv x155, rv b158, rv rs_286, rv b292, un, un, un, un, un] [])) := by
      by_cases c312 : x309 = (0 : Int32)
      · have P313 : Rch p e below (s₁.setTop (entryFrame m #[(.int p1), (.int p2), (.int p3), (.int p4)] maxLocals)) (T298.setTop (mkF m 169 #[iv p1, iv p2, iv p3, iv p4, rv b2, rv pP_56, rv pP_100, rv b136, iv x155, rv b158, rv rs_286, rv b292, un, un, un, un, un] [])) := fun t k => P310 t (by
          show Steps p.tables e below (T298.setTop (mkF m 154 #[iv p1, iv p2, iv p3, iv p4, rv b2, rv pP_56, rv pP_100, rv b136, iv x155, rv b158, rv rs_286, rv b292, un, un, un, un, un] [(.int x309)])) t
          refine XS.ifYes X298.here hx rfl (pc0 := 154) (pc' := 169) rfl (hb hby at_154) rfl ((if0 _ _).trans (teq c312).1) (by decide) (by decide) ?_
          exact k)
        have f314 : n0 ≤ T298.heap.size := (Nat.le_trans f299 K298.1)
        exact ⟨T298, _, T298.heap, (0 : Int32), (0 : Int32), vp_298, ve_298, vn_298, vc_298, X298, rfl, N298, f314, (Keep.refl T298.heap [b292, ac_298, ap_298, ae_298, an_298]), F_chars_298, F_pieces_298, F_ends_298, F_names_298, F_size_298, F_length_298, VC_298, VP_298, VE_298, VN_298, hvp_298, hve_298, hvn_298, (by decide), (by decide), ⟨fun _ => rfl, fun q => absurd c312 q⟩, P313⟩
      · have P315 : Rch p e below (s₁.setTop (entryFrame m #[(.int p1), (.int p2), (.int p3), (.int p4)] maxLocals)) (T298.setTop (mkF m 166 #[iv p1, iv p2, iv p3, iv p4, rv b2, rv pP_56, rv pP_100, rv b136, iv x155, rv b158, rv rs_286, rv b292, un, un, un, un, un] [(.int x155), (.int (0 : Int32)), (.ref b136), (.ref pP_56), (.ref b292)])) := fun t k => P310 t (by
          show Steps p.tables e below (T298.setTop (mkF m 154 #[iv p1, iv p2, iv p3, iv p4, rv b2, rv pP_56, rv pP_100, rv b136, iv x155, rv b158, rv rs_286, rv b292, un, un, un, un, un] [(.int x309)])) t
          refine XS.ifNo X298.here hx rfl (hb hby at_154) rfl ((if0 _ _).trans (feq c312).1) ?_
          refine XS.aload X298.here hx rfl (hb hby at_157) rfl rfl ?_
          refine XS.aload X298.here hx rfl (hb hby at_159) rfl rfl ?_
          show Steps p.tables e below (T298.setTop (mkF m 161 #[iv p1, iv p2, iv p3, iv p4, rv b2, rv pP_56, rv pP_100, rv b136, iv x155, rv b158, rv rs_286, rv b292, un, un, un, un, un] [(.ref pP_56), (.ref b292)])) t
          refine XS.aload X298.here hx rfl (hb hby at_161) rfl rfl ?_
          refine XS.iconst X298.here hx rfl (hb hby at_163) ?_
          refine XS.iload X298.here hx rfl (hb hby at_164) rfl ?_
          exact k)
        have f317 : Arv Z T298.heap b136 k136 .char (2 : Int32) [(.int (nar .char x145)), (.int (nar .char x150))] (.int (0 : Int32)) := ((((V153.ext E158).keep K286 nin0).ext E292).keep K298 (ninS ne_b136_b292 nin0))
        have f318 : n0 ≤ T298.heap.size := (Nat.le_trans f299 K298.1)
        obtain ⟨cq316, kq316, q316a, q316b, q316c⟩ := isOf hZ rfl E1_298
        obtain ⟨_, _, ⟨T316, L316, k316, n316⟩, -, X316, ⟨Lc316, hQ316, l316, y316, z316⟩, st316⟩ := X298.virtualBack hx (y := (⟨"com/example/rideau/rideau/internal/HeldText", "text", "(Lcom/example/rideau/rideau/internal/HeldText$Piece;[CII)V"⟩ : MethodName)) (z := (⟨"com/example/rideau/rideau/internal/HeldText", "text", "(Lcom/example/rideau/rideau/internal/HeldText$Piece;[CII)V"⟩ : MethodName)) hown (mvT hZ (hw _ (List.mem_of_getElem? (i := 61) rfl))) (mvT hZ (hw _ (List.mem_of_getElem? (i := 62) rfl))) (notFace_of_selects (args := #[]) (mvT hZ (hw _ (List.mem_of_getElem? (i := 64) rfl)))) (mvT hZ (hw _ (List.mem_of_getElem? (i := 64) rfl))) (mvT hZ (hw _ (List.mem_of_getElem? (i := 63) rfl))) (by decide) (backOf (W := 0) (rmTS l Z a0 hw [] b292 ac_298 ap_298 ae_298 an_298 kc_298 kp_298 ke_298 kn_298 pP_56 b136 k136 [(.int (nar .char x145)), (.int (nar .char x150))] x155 (256 : Int32) vc_298 vp_298 ve_298 vn_298 T298.heap n0 f318 E1_298 F_chars_298 F_pieces_298 F_ends_298 F_names_298 F_size_298 F_length_298 VC_298 VP_298 VE_298 VN_298 ((f293.ext E292).keep K298) f317 g_b292 g_ac_298 g_ap_298 g_ae_298 g_an_298 ne_b292_ac_298 ne_b292_ap_298 ne_b292_ae_298 ne_b292_an_298 n_ac_ap_298 n_ac_ae_298 n_ac_an_298 n_ap_ae_298 n_ap_an_298 n_ae_an_298 Op_298 On_298 hvp_298 hve_298 hvn_298 hct (by decide) ne_b136_b292) hZ (hw _ (List.mem_of_getElem? (i := 65) rfl)) (hw _ (List.mem_of_getElem? (i := 23) rfl)) (by decide) (by decide)) q316a q316c (g := (mkF m 166 #[iv p1, iv p2, iv p3, iv p4, rv b2, rv pP_56, rv pP_100, rv b136, iv x155, rv b158, rv rs_286, rv b292, un, un, un, un, un] [(.int x155), (.int (0 : Int32)), (.ref b136), (.ref pP_56), (.ref b292)])) rfl (by rw [hml]; rfl) (Steps.refl _) (argsL := [(.ref pP_56), (.ref b136), (.int (0 : Int32)), (.int x155)]) (rest := []) (lenOf pd_7 rfl) rfl (by show 2 * 0 + _ ≤ _; exact Nat.le_of_eq rfl) (hb hby at_166) (fun _ _ => ⟨rfl, rfl, (by decide : 10 + 0 ≤ _), (by decide : 9324 + 0 ≤ _)⟩)
        dsimp only [Pt.U, Pt.locs, Pt.cells, Pt.slots] at X316 l316 y316 z316 st316 hQ316
        subst y316 z316
        obtain ⟨szx_316, lnx_316, vcx_316, vpx_316, vex_316, vnx_316, rfl, N316q, K316, E1_316, F_chars_316, F_pieces_316, F_ends_316, F_names_316, F_size_316, F_length_316, VC_316, VP_316, VE_316, VN_316, hszx_316, hlnx_316, hvpx_316, hvex_316, hvnx_316⟩ := hQ316
        have N316 : Fr n0 L316 := by rw [l316]; exact Fr.app N298 N316q
        have P319 : Rch p e below (s₁.setTop (entryFrame m #[(.int p1), (.int p2), (.int p3), (.int p4)] maxLocals)) (T316.setTop (mkF m 169 #[iv p1, iv p2, iv p3, iv p4, rv b2, rv pP_56, rv pP_100, rv b136, iv x155, rv b158, rv rs_286, rv b292, un, un, un, un, un] [])) := fun t k => P315 t (st316.trans k)
        have f320 : n0 ≤ T316.heap.size := (Nat.le_trans f318 K316.1)
        exact ⟨T316, _, T316.heap, szx_316, lnx_316, vpx_316, vex_316, vnx_316, vcx_316, X316, rfl, N316, f320, ((Keep.refl T298.heap [b292, ac_298, ap_298, ae_298, an_298]).trans K316 (allS (P := fun x => x ∈ ([b292, ac_298, ap_298, ae_298, an_298] : List Addr) ∨ T298.heap.size ≤ x) (Or.inl (List.mem_of_getElem? (i := 0) rfl)) (allS (P := fun x => x ∈ ([b292, ac_298, ap_298, ae_298, an_298] : List Addr) ∨ T298.heap.size ≤ x) (Or.inl (List.mem_of_getElem? (i := 1) rfl)) (allS (P := fun x => x ∈ ([b292, ac_298, ap_298, ae_298, an_298] : List Addr) ∨ T298.heap.size ≤ x) (Or.inl (List.mem_of_getElem? (i := 2) rfl)) (allS (P := fun x => x ∈ ([b292, ac_298, ap_298, ae_298, an_298] : List Addr) ∨ T298.heap.size ≤ x) (Or.inl (List.mem_of_getElem? (i := 3) rfl)) (allS (P := fun x => x ∈ ([b292, ac_298, ap_298, ae_298, an_298] : List Addr) ∨ T298.heap.size ≤ x) (Or.inl (List.mem_of_getElem? (i := 4) rfl)) all0)))))), F_chars_316, F_pieces_316, F_ends_316, F_names_316, F_size_316, F_length_316, VC_316, VP_316, VE_316, VN_316, hvpx_316, hvex_316, hvnx_316, hlnx_316, (by omega), ⟨fun q => absurd q c312, fun _ => by omega⟩, P319⟩
    obtain ⟨x321, hx321⟩ : ∃ z : Int32, z = (p1 &&& (2 : Int32)) := ⟨_, rfl⟩
    have P322 : Rch p e below (s₁.setTop (entryFrame m #[(.int p1), (.int p2), (.int p3), (.int p4)] maxLocals)) (T311.setTop (mkF m 172 #[iv p1, iv p2, iv p3, iv p4, rv b2, rv pP_56, rv pP_100, rv b136, iv x155, rv b158, rv rs_286, rv b292, un, un, un, un, un] [(.int x321)])) := fun t k => P311 t (by
      subst hx321
      show Steps p.tables e below (T311.setTop (mkF m 169 #[iv p1, iv p2, iv p3, iv p4, rv b2, rv pP_56, rv pP_100, rv b136, iv x155, rv b158, rv rs_286, rv b292, un, un, un, un, un] [])) t
      refine XS.iloadN X311.here hx rfl (hb hby at_169) rfl ?_
      refine XS.iconst X311.here hx rfl (hb hby at_170) ?_
      refine XS.iand X311.here hx rfl (hb hby at_171) rfl ?_
      exact k)
    obtain ⟨T323, L323, h323, sj_323, lj_323, vpj_323, vej_323, vnj_323, vcj_323, X323, e323, N323, Z323, K323, F_chars_323, F_pieces_323, F_ends_323, F_names_323, F_size_323, F_length_323, VC_323, VP_323, VE_323, VN_323, hvpj_323, hvej_323, hvnj_323, hlj_323, hbj_323, hall_323, P323⟩ : ∃ (T323 : State) (L323 : List Loc) (h323 : Heap) (sj_323 : Int32) (lj_323 : Int32) (vpj_323 : List Value) (vej_323 : List Value) (vnj_323 : List Value) (vcj_323 : List Value), Stand p l e room_1 s m #[(.int p1), (.int p2), (.int p3), (.int p4)] below meth c T323 L323 10 9324 ∧ T323.heap = h323 ∧ Fr n0 L323 ∧ n0 ≤ h323.size ∧ Keep h311 h323 [b292, ap_298, ae_298, an_298] ∧ (Fld Z h323 b292 "com/example/rideau/rideau/internal/HeldText" "chars" "[C" (.ref ac_298)) ∧ (Fld Z h323 b292 "com/example/rideau/rideau/internal/HeldText" "pieces" "[Lcom/example/rideau/rideau/internal/HeldText$Piece;" (.ref ap_298)) ∧ (Fld Z h323 b292 "com/example/rideau/rideau/internal/HeldText" "ends" "[I" (.ref ae_298)) ∧ (Fld Z h323 b292 "com/example/rideau/rideau/internal/HeldText" "names" "[Ljava/lang/String;" (.ref an_298)) ∧ (Fld Z h323 b292 "com/example/rideau/rideau/internal/HeldText" "size" "I" (.int sj_323)) ∧ (Fld Z h323 b292 "com/example/rideau/rideau/internal/HeldText" "length" "I" (.int lj_323)) ∧ (Arv Z h323 ac_298 kc_298 .char (256 : Int32) vcj_323 (.int (0 : Int32))) ∧ (Arv Z h323 ap_298 kp_298 (.object "com/example/rideau/rideau/internal/HeldText$Piece") (16 : Int32) vpj_323 .null) ∧ (Arv Z h323 ae_298 ke_298 .int (16 : Int32) vej_323 (.int (0 : Int32))) ∧ (Arv Z h323 an_298 kn_298 (.object "java/lang/String") (16 : Int32) vnj_323 .null) ∧ (vpj_323.length = 16) ∧ (vej_323.length = 16) ∧ (vnj_323.length = 16) ∧ (0 ≤ lj_323.toInt ∧ lj_323.toInt ≤ 2) ∧ (0 ≤ sj_323.toInt ∧ sj_323.toInt ≤ 2) ∧ ((x309 = (0 : Int32) ∧ x321 = (0 : Int32) → sj_323 = (0 : Int32)) ∧ (¬ (x309 = (0 : Int32) ∧ x321 = (0 : Int32)) → 1 ≤ sj_323.toInt)) ∧ Rch p e below (s₁.setTop (entryFrame m #[(.int p1), (.int p2), (.int p3), (.int p4)] maxLocals)) (T323.setTop (mkF m 184 #[iv p1, iv p2, iv p3, iv p4, rv b2, rv pP_56, rv pP_100, rv b136, iv x155, rv b158, rv rs_286, rv b292, un, un, un, un, un] [])) := by
      by_cases c324 : x321 = (0 : Int32)
      · have P325 : Rch p e below (s₁.setTop (entryFrame m #[(.int p1), (.int p2), (.int p3), (.int p4)] maxLocals)) (T311.setTop (mkF m 184 #[iv p1, iv p2, iv p3, iv p4, rv b2, rv pP_56, rv pP_100, rv b136, iv x155, rv b158, rv rs_286, rv b292, un, un, un, un, un] [])) := fun t k => P322 t (by
          show Steps p.tables e below (T311.setTop (mkF m 172 #[iv p1, iv p2, iv p3, iv p4, rv b2, rv pP_56, rv pP_100, rv b136, iv x155, rv b158, rv rs_286, rv b292, un, un, un, un, un] [(.int x321)])) t
          refine XS.ifYes X311.here hx rfl (pc0 := 172) (pc' := 184) rfl (hb hby at_172) rfl ((if0 _ _).trans (teq c324).1) (by decide) (by decide) ?_
          exact k)
        exact ⟨T311, _, h311, sj_311, lj_311, vpj_311, vej_311, vnj_311, vcj_311, X311, e311, N311, Z311, (Keep.refl h311 [b292, ap_298, ae_298, an_298]), F_chars_311, F_pieces_311, F_ends_311, F_names_311, F_size_311, F_length_311, VC_311, VP_311, VE_311, VN_311, hvpj_311, hvej_311, hvnj_311, hlj_311, (by omega), ⟨fun q => hall_311.1 q.1, fun q => hall_311.2 (fun q0 => q ⟨q0, c324⟩)⟩, P325⟩
      · have P326 : Rch p e below (s₁.setTop (entryFrame m #[(.int p1), (.int p2), (.int p3), (.int p4)] maxLocals)) (T311.setTop (mkF m 181 #[iv p1, iv p2, iv p3, iv p4, rv b2, rv pP_56, rv pP_100, rv b136, iv x155, rv b158, rv rs_286, rv b292, un, un, un, un, un] [(.ref rs_286), (.ref pP_100), (.ref b292)])) := fun t k => P322 t (by
          show Steps p.tables e below (T311.setTop (mkF m 172 #[iv p1, iv p2, iv p3, iv p4, rv b2, rv pP_56, rv pP_100, rv b136, iv x155, rv b158, rv rs_286, rv b292, un, un, un, un, un] [(.int x321)])) t
          refine XS.ifNo X311.here hx rfl (hb hby at_172) rfl ((if0 _ _).trans (feq c324).1) ?_
          refine XS.aload X311.here hx rfl (hb hby at_175) rfl rfl ?_
          refine XS.aload X311.here hx rfl (hb hby at_177) rfl rfl ?_
          show Steps p.tables e below (T311.setTop (mkF m 179 #[iv p1, iv p2, iv p3, iv p4, rv b2, rv pP_56, rv pP_100, rv b136, iv x155, rv b158, rv rs_286, rv b292, un, un, un, un, un] [(.ref pP_100), (.ref b292)])) t
          refine XS.aload X311.here hx rfl (hb hby at_179) rfl rfl ?_
          exact k)
        obtain ⟨cq327, kq327, q327a, q327b, q327c⟩ := isOf hZ e311 (E1_298.keep K311)
        obtain ⟨_, _, ⟨T327, L327, k327, n327⟩, -, X327, ⟨Lc327, hQ327, l327, y327, z327⟩, st327⟩ := X311.virtualBack hx (y := (⟨"com/example/rideau/rideau/internal/HeldText", "add", "(Lcom/example/rideau/rideau/internal/HeldText$Piece;Ljava/lang/String;)V"⟩ : MethodName)) (z := (⟨"com/example/rideau/rideau/internal/HeldText", "add", "(Lcom/example/rideau/rideau/internal/HeldText$Piece;Ljava/lang/String;)V"⟩ : MethodName)) hown (mvT hZ (hw _ (List.mem_of_getElem? (i := 56) rfl))) (mvT hZ (hw _ (List.mem_of_getElem? (i := 57) rfl))) (notFace_of_selects (args := #[]) (mvT hZ (hw _ (List.mem_of_getElem? (i := 59) rfl)))) (mvT hZ (hw _ (List.mem_of_getElem? (i := 59) rfl))) (mvT hZ (hw _ (List.mem_of_getElem? (i := 58) rfl))) (by decide) (backOf (W := 0) (rmAS l Z a0 hw [] b292 ac_298 ap_298 ae_298 an_298 kp_298 ke_298 kn_298 pP_100 rs_286 sj_311 lj_311 vpj_311 vej_311 vnj_311 h311 n0 Z311 (E1_298.keep K311) F_chars_311 F_pieces_311 F_ends_311 F_names_311 F_size_311 F_length_311 VP_311 VE_311 VN_311 ((f306.keep K298).keep K311) (((Er_286.ext E292).keep K298).keep K311) g_b292 g_ac_298 g_ap_298 g_ae_298 g_an_298 ne_b292_ac_298 ne_b292_ap_298 ne_b292_ae_298 ne_b292_an_298 n_ac_ap_298 n_ac_ae_298 n_ac_an_298 n_ap_ae_298 n_ap_an_298 n_ae_an_298 Op_298 On_298 hvpj_311 hvej_311 hvnj_311 ⟨by omega, by omega⟩) hZ (hw _ (List.mem_of_getElem? (i := 60) rfl)) (hw _ (List.mem_of_getElem? (i := 23) rfl)) (by decide) (by decide)) q327a q327c (g := (mkF m 181 #[iv p1, iv p2, iv p3, iv p4, rv b2, rv pP_56, rv pP_100, rv b136, iv x155, rv b158, rv rs_286, rv b292, un, un, un, un, un] [(.ref rs_286), (.ref pP_100), (.ref b292)])) rfl (by rw [hml]; rfl) (Steps.refl _) (argsL := [(.ref pP_100), (.ref rs_286)]) (rest := []) (lenOf pd_0 rfl) rfl (by show 2 * 0 + _ ≤ _; exact Nat.le_of_eq rfl) (hb hby at_181) (fun _ _ => ⟨rfl, e311, (by decide : 10 + 0 ≤ _), (by decide : 9324 + 0 ≤ _)⟩)
        dsimp only [Pt.U, Pt.locs, Pt.cells, Pt.slots] at X327 l327 y327 z327 st327 hQ327
        subst y327 z327
        obtain ⟨szx_327, vpx_327, vex_327, vnx_327, rfl, N327q, K327, E1_327, F_chars_327, F_pieces_327, F_ends_327, F_names_327, F_size_327, F_length_327, VP_327, VE_327, VN_327, hszx_327, hvpx_327, hvex_327, hvnx_327⟩ := hQ327
        have N327 : Fr n0 L327 := by rw [l327]; exact Fr.app N311 N327q
        have P328 : Rch p e below (s₁.setTop (entryFrame m #[(.int p1), (.int p2), (.int p3), (.int p4)] maxLocals)) (T327.setTop (mkF m 184 #[iv p1, iv p2, iv p3, iv p4, rv b2, rv pP_56, rv pP_100, rv b136, iv x155, rv b158, rv rs_286, rv b292, un, un, un, un, un] [])) := fun t k => P326 t (st327.trans k)
        have f329 : Arv Z T327.heap ac_298 kc_298 .char (256 : Int32) vcj_311 (.int (0 : Int32)) := (VC_311.keep K327 (ninS (Ne.symm ne_b292_ac_298) (ninS n_ac_ap_298 (ninS n_ac_ae_298 (ninS n_ac_an_298 nin0)))))
        have f330 : n0 ≤ T327.heap.size := (Nat.le_trans Z311 K327.1)
        exact ⟨T327, _, T327.heap, szx_327, lj_311, vpx_327, vex_327, vnx_327, vcj_311, X327, rfl, N327, f330, ((Keep.refl h311 [b292, ap_298, ae_298, an_298]).trans K327 (allS (P := fun x => x ∈ ([b292, ap_298, ae_298, an_298] : List Addr) ∨ h311.size ≤ x) (Or.inl (List.mem_of_getElem? (i := 0) rfl)) (allS (P := fun x => x ∈ ([b292, ap_298, ae_298, an_298] : List Addr) ∨ h311.size ≤ x) (Or.inl (List.mem_of_getElem? (i := 1) rfl)) (allS (P := fun x => x ∈ ([b292, ap_298, ae_298, an_298] : List Addr) ∨ h311.size ≤ x) (Or.inl (List.mem_of_getElem? (i := 2) rfl)) (allS (P := fun x => x ∈ ([b292, ap_298, ae_298, an_298] : List Addr) ∨ h311.size ≤ x) (Or.inl (List.mem_of_getElem? (i := 3) rfl)) all0))))), F_chars_327, F_pieces_327, F_ends_327, F_names_327, F_size_327, F_length_327, f329, VP_327, VE_327, VN_327, hvpx_327, hvex_327, hvnx_327, hlj_311, (by omega), ⟨fun q => absurd q.2 c324, fun _ => by omega⟩, P328⟩
    obtain ⟨x331, hx331⟩ : ∃ z : Int32, z = (p1 &&& (4 : Int32)) := ⟨_, rfl⟩
    have P332 : Rch p e below (s₁.setTop (entryFrame m #[(.int p1), (.int p2), (.int p3), (.int p4)] maxLocals)) (T323.setTop (mkF m 187 #[iv p1, iv p2, iv p3, iv p4, rv b2, rv pP_56, rv pP_100, rv b136, iv x155, rv b158, rv rs_286, rv b292, un, un, un, un, un] [(.int x331)])) := fun t k => P323 t (by
      subst hx331
      show Steps p.tables e below (T323.setTop (mkF m 184 #[iv p1, iv p2, iv p3, iv p4, rv b2, rv pP_56, rv pP_100, rv b136, iv x155, rv b158, rv rs_286, rv b292, un, un, un, un, un] [])) t
      refine XS.iloadN X323.here hx rfl (hb hby at_184) rfl ?_
      refine XS.iconst X323.here hx rfl (hb hby at_185) ?_
      refine XS.iand X323.here hx rfl (hb hby at_186) rfl ?_
      exact k)
    obtain ⟨T333, L333, h333, sj_333, lj_333, vpj_333, vej_333, vnj_333, acj_333, kcj_333, zcj_333, vcj_333, X333, e333, N333, Z333, K333, F_chars_333, F_pieces_333, F_ends_333, F_names_333, F_size_333, F_length_333, VC_333, VP_333, VE_333, VN_333, hvpj_333, hvej_333, hvnj_333, gj_333, nj0_333, nj1_333, nj2_333, nj3_333, hzj_333, hbj_333, hall_333, P333⟩ : ∃ (T333 : State) (L333 : List Loc) (h333 : Heap) (sj_333 : Int32) (lj_333 : Int32) (vpj_333 : List Value) (vej_333 : List Value) (vnj_333 : List Value) (acj_333 : Addr) (kcj_333 : ClassId) (zcj_333 : Int32) (vcj_333 : List Value), Stand p l e room_1 s m #[(.int p1), (.int p2), (.int p3), (.int p4)] below meth c T333 L333 11 18326 ∧ T333.heap = h333 ∧ Fr n0 L333 ∧ n0 ≤ h333.size ∧ Keep h323 h333 [b292, ap_298, ae_298, an_298] ∧ (Fld Z h333 b292 "com/example/rideau/rideau/internal/HeldText" "chars" "[C" (.ref acj_333)) ∧ (Fld Z h333 b292 "com/example/rideau/rideau/internal/HeldText" "pieces" "[Lcom/example/rideau/rideau/internal/HeldText$Piece;" (.ref ap_298)) ∧ (Fld Z h333 b292 "com/example/rideau/rideau/internal/HeldText" "ends" "[I" (.ref ae_298)) ∧ (Fld Z h333 b292 "com/example/rideau/rideau/internal/HeldText" "names" "[Ljava/lang/String;" (.ref an_298)) ∧ (Fld Z h333 b292 "com/example/rideau/rideau/internal/HeldText" "size" "I" (.int sj_333)) ∧ (Fld Z h333 b292 "com/example/rideau/rideau/internal/HeldText" "length" "I" (.int lj_333)) ∧ (Arv Z h333 acj_333 kcj_333 .char zcj_333 vcj_333 (.int (0 : Int32))) ∧ (Arv Z h333 ap_298 kp_298 (.object "com/example/rideau/rideau/internal/HeldText$Piece") (16 : Int32) vpj_333 .null) ∧ (Arv Z h333 ae_298 ke_298 .int (16 : Int32) vej_333 (.int (0 : Int32))) ∧ (Arv Z h333 an_298 kn_298 (.object "java/lang/String") (16 : Int32) vnj_333 .null) ∧ (vpj_333.length = 16) ∧ (vej_333.length = 16) ∧ (vnj_333.length = 16) ∧ (n0 ≤ acj_333) ∧ (acj_333 ≠ b292) ∧ (acj_333 ≠ ap_298) ∧ (acj_333 ≠ ae_298) ∧ (acj_333 ≠ an_298) ∧ (256 ≤ zcj_333.toInt) ∧ (0 ≤ sj_333.toInt ∧ sj_333.toInt ≤ 3) ∧ ((x309 = (0 : Int32) ∧ x321 = (0 : Int32) ∧ x331 = (0 : Int32) → sj_333 = (0 : Int32)) ∧ (¬ (x309 = (0 : Int32) ∧ x321 = (0 : Int32) ∧ x331 = (0 : Int32)) → 1 ≤ sj_333.toInt)) ∧ Rch p e below (s₁.setTop (entryFrame m #[(.int p1), (.int p2), (.int p3), (.int p4)] maxLocals)) (T333.setTop (mkF m 204 #[iv p1, iv p2, iv p3, iv p4, rv b2, rv pP_56, rv pP_100, rv b136, iv x155, rv b158, rv rs_286, rv b292, un, un, un, un, un] [])) := by
      by_cases c334 : x331 = (0 : Int32)
      · have P335 : Rch p e below (s₁.setTop (entryFrame m #[(.int p1), (.int p2), (.int p3), (.int p4)] maxLocals)) (T323.setTop (mkF m 204 #[iv p1, iv p2, iv p3, iv p4, rv b2, rv pP_56, rv pP_100, rv b136, iv x155, rv b158, rv rs_286, rv b292, un, un, un, un, un] [])) := fun t k => P332 t (by
          show Steps p.tables e below (T323.setTop (mkF m 187 #[iv p1, iv p2, iv p3, iv p4, rv b2, rv pP_56, rv pP_100, rv b136, iv x155, rv b158, rv rs_286, rv b292, un, un, un, un, un] [(.int x331)])) t
          refine XS.ifYes X323.here hx rfl (pc0 := 187) (pc' := 204) rfl (hb hby at_187) rfl ((if0 _ _).trans (teq c334).1) (by decide) (by decide) ?_
          exact k)
        exact ⟨T323, _, h323, sj_323, lj_323, vpj_323, vej_323, vnj_323, ac_298, kc_298, (256 : Int32), vcj_323, (own_more X323 (by decide) (by decide)), e323, N323, Z323, (Keep.refl h323 [b292, ap_298, ae_298, an_298]), F_chars_323, F_pieces_323, F_ends_323, F_names_323, F_size_323, F_length_323, VC_323, VP_323, VE_323, VN_323, hvpj_323, hvej_323, hvnj_323, g_ac_298, (Ne.symm ne_b292_ac_298), n_ac_ap_298, n_ac_ae_298, n_ac_an_298, (by decide), (by omega), ⟨fun q => hall_323.1 ⟨q.1, q.2.1⟩, fun q => hall_323.2 (fun q0 => q ⟨q0.1, q0.2, c334⟩)⟩, P335⟩
      · have P336 : Rch p e below (s₁.setTop (entryFrame m #[(.int p1), (.int p2), (.int p3), (.int p4)] maxLocals)) (T323.setTop (mkF m 192 #[iv p1, iv p2, iv p3, iv p4, rv b2, rv pP_56, rv pP_100, rv b136, iv x155, rv b158, rv rs_286, rv b292, un, un, un, un, un] [(.ref b292)])) := fun t k => P332 t (by
          show Steps p.tables e below (T323.setTop (mkF m 187 #[iv p1, iv p2, iv p3, iv p4, rv b2, rv pP_56, rv pP_100, rv b136, iv x155, rv b158, rv rs_286, rv b292, un, un, un, un, un] [(.int x331)])) t
          refine XS.ifNo X323.here hx rfl (hb hby at_187) rfl ((if0 _ _).trans (feq c334).1) ?_
          refine XS.aload X323.here hx rfl (hb hby at_190) rfl rfl ?_
          exact k)
        have f338 : Old Z n0 h323 := (((((f287.keep K286 all0).ext E292).keep K298 (allS g_b292 all0)).keep K311 (allS g_b292 (allS g_ac_298 (allS g_ap_298 (allS g_ae_298 (allS g_an_298 all0)))))).keep K323 (allS g_b292 (allS g_ap_298 (allS g_ae_298 (allS g_an_298 all0)))))
        obtain ⟨T337, X337, e337, st337⟩ := getS2 X323 hx hZ hown (host := "") (Or.inl (hw _ (List.mem_of_getElem? (i := 2) rfl))) Via.refl e323 (S_0.ext f338.2) (g := (mkF m 192 #[iv p1, iv p2, iv p3, iv p4, rv b2, rv pP_56, rv pP_100, rv b136, iv x155, rv b158, rv rs_286, rv b292, un, un, un, un, un] [(.ref b292)])) rfl (hb hby at_192)
        have P339 : Rch p e below (s₁.setTop (entryFrame m #[(.int p1), (.int p2), (.int p3), (.int p4)] maxLocals)) (T337.setTop (mkF m 195 #[iv p1, iv p2, iv p3, iv p4, rv b2, rv pP_56, rv pP_100, rv b136, iv x155, rv b158, rv rs_286, rv b292, un, un, un, un, un] [(.ref x_0), (.ref b292)])) := fun t k => P336 t (st337 t k)
        have P340 : Rch p e below (s₁.setTop (entryFrame m #[(.int p1), (.int p2), (.int p3), (.int p4)] maxLocals)) (T337.setTop (mkF m 201 #[iv p1, iv p2, iv p3, iv p4, rv b2, rv pP_56, rv pP_100, rv b136, iv x155, rv b158, rv rs_286, rv b292, un, un, un, un, un] [(.int (9000 : Int32)), (.int (0 : Int32)), (.ref b158), (.ref x_0), (.ref b292)])) := fun t k => P339 t (by
          show Steps p.tables e below (T337.setTop (mkF m 195 #[iv p1, iv p2, iv p3, iv p4, rv b2, rv pP_56, rv pP_100, rv b136, iv x155, rv b158, rv rs_286, rv b292, un, un, un, un, un] [(.ref x_0), (.ref b292)])) t
          refine XS.aload X337.here hx rfl (hb hby at_195) rfl rfl ?_
          refine XS.iconst X337.here hx rfl (hb hby at_197) ?_
          refine XS.sipush X337.here hx rfl (hb hby at_198) ?_
          exact k)
        have f342 : Arv Z h323 b158 k158 .char (9000 : Int32) [] (.int (0 : Int32)) := (((((V158.keep K286 nin0).ext E292).keep K298 (ninS ne_b158_b292 nin0)).keep K311 (ninS ne_b158_b292 (ninS ne_b158_ac_298 (ninS ne_b158_ap_298 (ninS ne_b158_ae_298 (ninS ne_b158_an_298 nin0)))))).keep K323 (ninS ne_b158_b292 (ninS ne_b158_ap_298 (ninS ne_b158_ae_298 (ninS ne_b158_an_298 nin0)))))
        obtain ⟨cq341, kq341, q341a, q341b, q341c⟩ := isOf hZ e337 ((E1_298.keep K311).keep K323)
        obtain ⟨_, _, ⟨T341, L341, k341, n341⟩, -, X341, ⟨Lc341, hQ341, l341, y341, z341⟩, st341⟩ := X337.virtualBack hx (y := (⟨"com/example/rideau/rideau/internal/HeldText", "text", "(Lcom/example/rideau/rideau/internal/HeldText$Piece;[CII)V"⟩ : MethodName)) (z := (⟨"com/example/rideau/rideau/internal/HeldText", "text", "(Lcom/example/rideau/rideau/internal/HeldText$Piece;[CII)V"⟩ : MethodName)) hown (mvT hZ (hw _ (List.mem_of_getElem? (i := 61) rfl))) (mvT hZ (hw _ (List.mem_of_getElem? (i := 62) rfl))) (notFace_of_selects (args := #[]) (mvT hZ (hw _ (List.mem_of_getElem? (i := 64) rfl)))) (mvT hZ (hw _ (List.mem_of_getElem? (i := 64) rfl))) (mvT hZ (hw _ (List.mem_of_getElem? (i := 63) rfl))) (by decide) (backOf (W := 0) (rmTB l Z a0 hw [] b292 ac_298 ap_298 ae_298 an_298 kc_298 kp_298 ke_298 kn_298 x_0 b158 k158 [] sj_323 lj_323 vcj_323 vpj_323 vej_323 vnj_323 h323 n0 Z323 ((E1_298.keep K311).keep K323) F_chars_323 F_pieces_323 F_ends_323 F_names_323 F_size_323 F_length_323 VC_323 VP_323 VE_323 VN_323 (((f300.keep K298).keep K311).keep K323) f342 g_b292 g_ac_298 g_ap_298 g_ae_298 g_an_298 ne_b292_ac_298 ne_b292_ap_298 ne_b292_ae_298 ne_b292_an_298 n_ac_ap_298 n_ac_ae_298 n_ac_an_298 n_ap_ae_298 n_ap_an_298 n_ae_an_298 Op_298 On_298 hvpj_323 hvej_323 hvnj_323 ⟨by omega, by omega⟩ hlj_323 ne_b158_b292) hZ (hw _ (List.mem_of_getElem? (i := 65) rfl)) (hw _ (List.mem_of_getElem? (i := 23) rfl)) (by decide) (by decide)) q341a q341c (g := (mkF m 201 #[iv p1, iv p2, iv p3, iv p4, rv b2, rv pP_56, rv pP_100, rv b136, iv x155, rv b158, rv rs_286, rv b292, un, un, un, un, un] [(.int (9000 : Int32)), (.int (0 : Int32)), (.ref b158), (.ref x_0), (.ref b292)])) rfl (by rw [hml]; rfl) (Steps.refl _) (argsL := [(.ref x_0), (.ref b158), (.int (0 : Int32)), (.int (9000 : Int32))]) (rest := []) (lenOf pd_7 rfl) rfl (by show 2 * 0 + _ ≤ _; exact Nat.le_of_eq rfl) (hb hby at_201) (fun _ _ => ⟨rfl, e337, (by decide : 10 + 1 ≤ _), (by decide : 9324 + 9002 ≤ _)⟩)
        dsimp only [Pt.U, Pt.locs, Pt.cells, Pt.slots] at X341 l341 y341 z341 st341 hQ341
        subst y341 z341
        have f343 : Exa Z h323 x_6 "com/example/rideau/rideau/internal/HeldText$Piece" := ((((((f159.ext E158).keep K286).ext E292).keep K298).keep K311).keep K323)
        have f344 : Arv Z h323 b2 k2 (.object "com/example/rideau/rideau/internal/HeldText$Piece") (7 : Int32) [(.ref x_0), (.ref x_1), (.ref x_2), (.ref x_3), (.ref x_4), (.ref x_5), (.ref x_6)] .null := ((((((f160.ext E158).keep K286 nin0).ext E292).keep K298 (ninS ne_b2_b292 nin0)).keep K311 (ninS ne_b2_b292 (ninS ne_b2_ac_298 (ninS ne_b2_ap_298 (ninS ne_b2_ae_298 (ninS ne_b2_an_298 nin0)))))).keep K323 (ninS ne_b2_b292 (ninS ne_b2_ap_298 (ninS ne_b2_ae_298 (ninS ne_b2_an_298 nin0)))))
        have f345 : Arv Z h323 b136 k136 .char (2 : Int32) [(.int (nar .char x145)), (.int (nar .char x150))] (.int (0 : Int32)) := ((((((V153.ext E158).keep K286 nin0).ext E292).keep K298 (ninS ne_b136_b292 nin0)).keep K311 (ninS ne_b136_b292 (ninS ne_b136_ac_298 (ninS ne_b136_ap_298 (ninS ne_b136_ae_298 (ninS ne_b136_an_298 nin0)))))).keep K323 (ninS ne_b136_b292 (ninS ne_b136_ap_298 (ninS ne_b136_ae_298 (ninS ne_b136_an_298 nin0)))))
        have f346 : Arv Z h323 ac_298 kc_298 .char (256 : Int32) vcj_311 (.int (0 : Int32)) := (VC_311.keep K323 (ninS (Ne.symm ne_b292_ac_298) (ninS n_ac_ap_298 (ninS n_ac_ae_298 (ninS n_ac_an_298 nin0)))))
        have f347 : Keep h0 h323 [] := (((f307.trans K298 (allS (P := fun x => x ∈ [] ∨ h0.size ≤ x) (Or.inr sz_b292) all0)).trans K311 (allS (P := fun x => x ∈ [] ∨ h0.size ≤ x) (Or.inr sz_b292) (allS (P := fun x => x ∈ [] ∨ h0.size ≤ x) (Or.inr sz_ac_298) (allS (P := fun x => x ∈ [] ∨ h0.size ≤ x) (Or.inr sz_ap_298) (allS (P := fun x => x ∈ [] ∨ h0.size ≤ x) (Or.inr sz_ae_298) (allS (P := fun x => x ∈ [] ∨ h0.size ≤ x) (Or.inr sz_an_298) all0)))))).trans K323 (allS (P := fun x => x ∈ [] ∨ h0.size ≤ x) (Or.inr sz_b292) (allS (P := fun x => x ∈ [] ∨ h0.size ≤ x) (Or.inr sz_ap_298) (allS (P := fun x => x ∈ [] ∨ h0.size ≤ x) (Or.inr sz_ae_298) (allS (P := fun x => x ∈ [] ∨ h0.size ≤ x) (Or.inr sz_an_298) all0)))))
        obtain ⟨szx_341, lnx_341, acx_341, kcx_341, zcx_341, vcx_341, vpx_341, vex_341, vnx_341, rfl, N341q, K341, Fz_341, E1_341, F_chars_341, F_pieces_341, F_ends_341, F_names_341, F_size_341, F_length_341, VC_341, VP_341, VE_341, VN_341, hszx_341, hzcx_341, hvpx_341, hvex_341, hvnx_341⟩ := hQ341
        have N341 : Fr n0 L341 := by rw [l341]; exact Fr.app N323 N341q
        have g_acx_341 : n0 ≤ acx_341 := Nat.le_trans Z323 Fz_341
        have sz_acx_341 : h0.size ≤ acx_341 := Nat.le_trans f347.1 Fz_341
        have ne_x_0_acx_341 : x_0 ≠ acx_341 := Nat.ne_of_lt (Nat.lt_of_lt_of_le (((f300.keep K298).keep K311).keep K323).lt Fz_341)
        have ne_x_1_acx_341 : x_1 ≠ acx_341 := Nat.ne_of_lt (Nat.lt_of_lt_of_le (((f301.keep K298).keep K311).keep K323).lt Fz_341)
        have ne_x_2_acx_341 : x_2 ≠ acx_341 := Nat.ne_of_lt (Nat.lt_of_lt_of_le (((f302.keep K298).keep K311).keep K323).lt Fz_341)
        have ne_x_3_acx_341 : x_3 ≠ acx_341 := Nat.ne_of_lt (Nat.lt_of_lt_of_le (((f303.keep K298).keep K311).keep K323).lt Fz_341)
        have ne_x_4_acx_341 : x_4 ≠ acx_341 := Nat.ne_of_lt (Nat.lt_of_lt_of_le (((f304.keep K298).keep K311).keep K323).lt Fz_341)
        have ne_x_5_acx_341 : x_5 ≠ acx_341 := Nat.ne_of_lt (Nat.lt_of_lt_of_le (((f305.keep K298).keep K311).keep K323).lt Fz_341)
        have ne_x_6_acx_341 : x_6 ≠ acx_341 := Nat.ne_of_lt (Nat.lt_of_lt_of_le f343.lt Fz_341)
        have ne_b2_acx_341 : b2 ≠ acx_341 := Nat.ne_of_lt (Nat.lt_of_lt_of_le f344.lt Fz_341)
        have ne_pP_56_acx_341 : pP_56 ≠ acx_341 := Nat.ne_of_lt (Nat.lt_of_lt_of_le ((((f293.ext E292).keep K298).keep K311).keep K323).lt Fz_341)
        have ne_pP_100_acx_341 : pP_100 ≠ acx_341 := Nat.ne_of_lt (Nat.lt_of_lt_of_le (((f306.keep K298).keep K311).keep K323).lt Fz_341)
        have ne_b136_acx_341 : b136 ≠ acx_341 := Nat.ne_of_lt (Nat.lt_of_lt_of_le f345.lt Fz_341)
        have ne_b158_acx_341 : b158 ≠ acx_341 := Nat.ne_of_lt (Nat.lt_of_lt_of_le f342.lt Fz_341)
        have ne_rs_286_acx_341 : rs_286 ≠ acx_341 := Nat.ne_of_lt (Nat.lt_of_lt_of_le ((((Er_286.ext E292).keep K298).keep K311).keep K323).lt Fz_341)
        have ne_b292_acx_341 : b292 ≠ acx_341 := Nat.ne_of_lt (Nat.lt_of_lt_of_le (((A292.keep K298).keep K311).keep K323).lt Fz_341)
        have ne_ac_298_acx_341 : ac_298 ≠ acx_341 := Nat.ne_of_lt (Nat.lt_of_lt_of_le f346.lt Fz_341)
        have ne_ap_298_acx_341 : ap_298 ≠ acx_341 := Nat.ne_of_lt (Nat.lt_of_lt_of_le VP_323.lt Fz_341)
        have ne_ae_298_acx_341 : ae_298 ≠ acx_341 := Nat.ne_of_lt (Nat.lt_of_lt_of_le VE_323.lt Fz_341)
        have ne_an_298_acx_341 : an_298 ≠ acx_341 := Nat.ne_of_lt (Nat.lt_of_lt_of_le VN_323.lt Fz_341)
        have P348 : Rch p e below (s₁.setTop (entryFrame m #[(.int p1), (.int p2), (.int p3), (.int p4)] maxLocals)) (T341.setTop (mkF m 204 #[iv p1, iv p2, iv p3, iv p4, rv b2, rv pP_56, rv pP_100, rv b136, iv x155, rv b158, rv rs_286, rv b292, un, un, un, un, un] [])) := fun t k => P340 t (st341.trans k)
        have f349 : n0 ≤ T341.heap.size := (Nat.le_trans Z323 K341.1)
        exact ⟨T341, _, T341.heap, szx_341, lnx_341, vpx_341, vex_341, vnx_341, acx_341, kcx_341, zcx_341, vcx_341, X341, rfl, N341, f349, ((Keep.refl h323 [b292, ap_298, ae_298, an_298]).trans K341 (allS (P := fun x => x ∈ ([b292, ap_298, ae_298, an_298] : List Addr) ∨ h323.size ≤ x) (Or.inl (List.mem_of_getElem? (i := 0) rfl)) (allS (P := fun x => x ∈ ([b292, ap_298, ae_298, an_298] : List Addr) ∨ h323.size ≤ x) (Or.inl (List.mem_of_getElem? (i := 1) rfl)) (allS (P := fun x => x ∈ ([b292, ap_298, ae_298, an_298] : List Addr) ∨ h323.size ≤ x) (Or.inl (List.mem_of_getElem? (i := 2) rfl)) (allS (P := fun x => x ∈ ([b292, ap_298, ae_298, an_298] : List Addr) ∨ h323.size ≤ x) (Or.inl (List.mem_of_getElem? (i := 3) rfl)) all0))))), F_chars_341, F_pieces_341, F_ends_341, F_names_341, F_size_341, F_length_341, VC_341, VP_341, VE_341, VN_341, hvpx_341, hvex_341, hvnx_341, g_acx_341, (Ne.symm ne_b292_acx_341), (Ne.symm ne_ap_298_acx_341), (Ne.symm ne_ae_298_acx_341), (Ne.symm ne_an_298_acx_341), hzcx_341, (by omega), ⟨fun q => absurd q.2.2 c334, fun _ => by omega⟩, P348⟩
    obtain ⟨x350, hx350⟩ : ∃ z : Int32, z = (p1 &&& (7 : Int32)) := ⟨_, rfl⟩
    have P351 : Rch p e below (s₁.setTop (entryFrame m #[(.int p1), (.int p2), (.int p3), (.int p4)] maxLocals)) (T333.setTop (mkF m 208 #[iv p1, iv p2, iv p3, iv p4, rv b2, rv pP_56, rv pP_100, rv b136, iv x155, rv b158, rv rs_286, rv b292, un, un, un, un, un] [(.int x350)])) := fun t k => P333 t (by
      subst hx350
      show Steps p.tables e below (T333.setTop (mkF m 204 #[iv p1, iv p2, iv p3, iv p4, rv b2, rv pP_56, rv pP_100, rv b136, iv x155, rv b158, rv rs_286, rv b292, un, un, un, un, un] [])) t
      refine XS.iloadN X333.here hx rfl (hb hby at_204) rfl ?_
      refine XS.bipush X333.here hx rfl (hb hby at_205) ?_
      refine XS.iand X333.here hx rfl (hb hby at_207) rfl ?_
      exact k)
    obtain ⟨v353, hv353, P354⟩ : ∃ (v353 : Int32), v353 = (if x350 = (0 : Int32) then (0 : Int32) else (1 : Int32)) ∧ Rch p e below (s₁.setTop (entryFrame m #[(.int p1), (.int p2), (.int p3), (.int p4)] maxLocals)) (T333.setTop (mkF m 216 #[iv p1, iv p2, iv p3, iv p4, rv b2, rv pP_56, rv pP_100, rv b136, iv x155, rv b158, rv rs_286, rv b292, un, un, un, un, un] [(.int v353)])) := by
      by_cases c352 : x350 = (0 : Int32)
      · refine ⟨(0 : Int32), (by first | rw [if_pos c352] | simp only [if_pos c352] | rfl), fun t k => P351 t ?_⟩
        show Steps p.tables e below (T333.setTop (mkF m 208 #[iv p1, iv p2, iv p3, iv p4, rv b2, rv pP_56, rv pP_100, rv b136, iv x155, rv b158, rv rs_286, rv b292, un, un, un, un, un] [(.int x350)])) t
        refine XS.ifYes X333.here hx rfl (pc0 := 208) (pc' := 215) rfl (hb hby at_208) rfl ((if0 _ _).trans (teq c352).1) (by decide) (by decide) ?_
        refine XS.iconst X333.here hx rfl (hb hby at_215) ?_
        exact k
      · refine ⟨(1 : Int32), (by first | rw [if_neg c352] | simp only [if_neg c352] | rfl), fun t k => P351 t ?_⟩
        show Steps p.tables e below (T333.setTop (mkF m 208 #[iv p1, iv p2, iv p3, iv p4, rv b2, rv pP_56, rv pP_100, rv b136, iv x155, rv b158, rv rs_286, rv b292, un, un, un, un, un] [(.int x350)])) t
        refine XS.ifNo X333.here hx rfl (hb hby at_208) rfl ((if0 _ _).trans (feq c352).1) ?_
        refine XS.iconst X333.here hx rfl (hb hby at_211) ?_
        refine XS.goto X333.here hx rfl (pc0 := 212) (pc' := 216) rfl (hb hby at_212) (by decide) (by decide) ?_
        exact k
    have P355 : Rch p e below (s₁.setTop (entryFrame m #[(.int p1), (.int p2), (.int p3), (.int p4)] maxLocals)) (T333.setTop (mkF m 220 #[iv p1, iv p2, iv p3, iv p4, rv b2, rv pP_56, rv pP_100, rv b136, iv x155, rv b158, rv rs_286, rv b292, iv v353, un, un, un, un] [(.ref b292)])) := fun t k => P354 t (by
      show Steps p.tables e below (T333.setTop (mkF m 216 #[iv p1, iv p2, iv p3, iv p4, rv b2, rv pP_56, rv pP_100, rv b136, iv x155, rv b158, rv rs_286, rv b292, un, un, un, un, un] [(.int v353)])) t
      refine XS.istore X333.here hx rfl (hb hby at_216) rfl (l' := #[iv p1, iv p2, iv p3, iv p4, rv b2, rv pP_56, rv pP_100, rv b136, iv x155, rv b158, rv rs_286, rv b292, iv v353, un, un, un, un]) rfl ?_
      refine XS.aload X333.here hx rfl (hb hby at_218) rfl rfl ?_
      exact k)
    obtain ⟨cq356, kq356, q356a, q356b, q356c⟩ := isOf hZ e333 (((E1_298.keep K311).keep K323).keep K333)
    obtain ⟨_, _, ⟨T356, L356, k356, n356⟩, -, X356, ⟨Lc356, hQ356, l356, y356, z356⟩, st356⟩ := X333.virtualBack hx (y := (⟨"com/example/rideau/rideau/internal/HeldText", "isEmpty", "()Z"⟩ : MethodName)) (z := (⟨"com/example/rideau/rideau/internal/HeldText", "isEmpty", "()Z"⟩ : MethodName)) hown (mvT hZ (hw _ (List.mem_of_getElem? (i := 42) rfl))) (mvT hZ (hw _ (List.mem_of_getElem? (i := 43) rfl))) (notFace_of_selects (args := #[]) (mvT hZ (hw _ (List.mem_of_getElem? (i := 45) rfl)))) (mvT hZ (hw _ (List.mem_of_getElem? (i := 45) rfl))) (mvT hZ (hw _ (List.mem_of_getElem? (i := 44) rfl))) (by decide) (backOf (W := 0) (rmE l Z a0 hw [] b292 sj_333 h333 n0 Z333 F_size_333) hZ (hw _ (List.mem_of_getElem? (i := 46) rfl)) (hw _ (List.mem_of_getElem? (i := 23) rfl)) (by decide) (by decide)) q356a q356c (g := (mkF m 220 #[iv p1, iv p2, iv p3, iv p4, rv b2, rv pP_56, rv pP_100, rv b136, iv x155, rv b158, rv rs_286, rv b292, iv v353, un, un, un, un] [(.ref b292)])) rfl (by rw [hml]; rfl) (Steps.refl _) (argsL := []) (rest := []) (lenOf pd_8 rfl) rfl (by show 2 * 0 + _ ≤ _; exact Nat.le_of_eq rfl) (hb hby at_220) (fun _ _ => ⟨rfl, e333, (by decide : 11 + 0 ≤ _), (by decide : 18326 + 0 ≤ _)⟩)
    dsimp only [Pt.U, Pt.locs, Pt.cells, Pt.slots] at X356 l356 y356 z356 st356 hQ356
    subst y356 z356
    obtain ⟨rfl, N356q, e356⟩ := hQ356
    have N356 : Fr n0 L356 := by rw [l356]; exact Fr.app N333 N356q
    have P357 : Rch p e below (s₁.setTop (entryFrame m #[(.int p1), (.int p2), (.int p3), (.int p4)] maxLocals)) (T356.setTop (mkF m 223 #[iv p1, iv p2, iv p3, iv p4, rv b2, rv pP_56, rv pP_100, rv b136, iv x155, rv b158, rv rs_286, rv b292, iv v353, un, un, un, un] [(.int (own_ie sj_333))])) := fun t k => P355 t (st356.trans k)
    obtain ⟨x358, hx358⟩ : ∃ z : Int32, z = (own_ie sj_333) := ⟨_, rfl⟩
    rw [← hx358] at P357
    obtain ⟨v360, hv360, P361⟩ : ∃ (v360 : Int32), v360 = (if x358 = (0 : Int32) then (1 : Int32) else (0 : Int32)) ∧ Rch p e below (s₁.setTop (entryFrame m #[(.int p1), (.int p2), (.int p3), (.int p4)] maxLocals)) (T356.setTop (mkF m 231 #[iv p1, iv p2, iv p3, iv p4, rv b2, rv pP_56, rv pP_100, rv b136, iv x155, rv b158, rv rs_286, rv b292, iv v353, un, un, un, un] [(.int v360)])) := by
      by_cases c359 : x358 = (0 : Int32)
      · refine ⟨(1 : Int32), (by first | rw [if_pos c359] | simp only [if_pos c359] | rfl), fun t k => P357 t ?_⟩
        show Steps p.tables e below (T356.setTop (mkF m 223 #[iv p1, iv p2, iv p3, iv p4, rv b2, rv pP_56, rv pP_100, rv b136, iv x155, rv b158, rv rs_286, rv b292, iv v353, un, un, un, un] [(.int x358)])) t
        refine XS.ifNo X356.here hx rfl (hb hby at_223) rfl ((if0 _ _).trans (teq c359).2) ?_
        refine XS.iconst X356.here hx rfl (hb hby at_226) ?_
        refine XS.goto X356.here hx rfl (pc0 := 227) (pc' := 231) rfl (hb hby at_227) (by decide) (by decide) ?_
        exact k
      · refine ⟨(0 : Int32), (by first | rw [if_neg c359] | simp only [if_neg c359] | rfl), fun t k => P357 t ?_⟩
        show Steps p.tables e below (T356.setTop (mkF m 223 #[iv p1, iv p2, iv p3, iv p4, rv b2, rv pP_56, rv pP_100, rv b136, iv x155, rv b158, rv rs_286, rv b292, iv v353, un, un, un, un] [(.int x358)])) t
        refine XS.ifYes X356.here hx rfl (pc0 := 223) (pc' := 230) rfl (hb hby at_223) rfl ((if0 _ _).trans (feq c359).2) (by decide) (by decide) ?_
        refine XS.iconst X356.here hx rfl (hb hby at_230) ?_
        exact k
    have P362 : Rch p e below (s₁.setTop (entryFrame m #[(.int p1), (.int p2), (.int p3), (.int p4)] maxLocals)) (T356.setTop (mkF m 235 #[iv p1, iv p2, iv p3, iv p4, rv b2, rv pP_56, rv pP_100, rv b136, iv x155, rv b158, rv rs_286, rv b292, iv v353, iv v360, un, un, un] [(.ref b292)])) := fun t k => P361 t (by
      show Steps p.tables e below (T356.setTop (mkF m 231 #[iv p1, iv p2, iv p3, iv p4, rv b2, rv pP_56, rv pP_100, rv b136, iv x155, rv b158, rv rs_286, rv b292, iv v353, un, un, un, un] [(.int v360)])) t
      refine XS.istore X356.here hx rfl (hb hby at_231) rfl (l' := #[iv p1, iv p2, iv p3, iv p4, rv b2, rv pP_56, rv pP_100, rv b136, iv x155, rv b158, rv rs_286, rv b292, iv v353, iv v360, un, un, un]) rfl ?_
      refine XS.aload X356.here hx rfl (hb hby at_233) rfl rfl ?_
      exact k)
    obtain ⟨cq363, kq363, q363a, q363b, q363c⟩ := isOf hZ e356 (((E1_298.keep K311).keep K323).keep K333)
    obtain ⟨_, _, ⟨T363, L363, k363, n363⟩, -, X363, ⟨Lc363, hQ363, l363, y363, z363⟩, st363⟩ := X356.virtualBack hx (y := (⟨"com/example/rideau/rideau/internal/HeldText", "clear", "()V"⟩ : MethodName)) (z := (⟨"com/example/rideau/rideau/internal/HeldText", "clear", "()V"⟩ : MethodName)) hown (mvT hZ (hw _ (List.mem_of_getElem? (i := 49) rfl))) (mvT hZ (hw _ (List.mem_of_getElem? (i := 50) rfl))) (notFace_of_selects (args := #[]) (mvT hZ (hw _ (List.mem_of_getElem? (i := 52) rfl)))) (mvT hZ (hw _ (List.mem_of_getElem? (i := 52) rfl))) (mvT hZ (hw _ (List.mem_of_getElem? (i := 51) rfl))) (by decide) (backOf (W := 0) (rmCl l Z a0 hw [] b292 acj_333 ap_298 ae_298 an_298 kcj_333 kp_298 ke_298 kn_298 sj_333 lj_333 zcj_333 vcj_333 vpj_333 vej_333 vnj_333 h333 n0 Z333 (((E1_298.keep K311).keep K323).keep K333) F_chars_333 F_pieces_333 F_ends_333 F_names_333 F_size_333 F_length_333 VC_333 VP_333 VE_333 VN_333 g_b292 gj_333 g_ap_298 g_ae_298 g_an_298 (Ne.symm nj0_333) ne_b292_ap_298 ne_b292_ae_298 ne_b292_an_298 nj1_333 nj2_333 nj3_333 n_ap_ae_298 n_ap_an_298 n_ae_an_298 hzj_333) hZ (hw _ (List.mem_of_getElem? (i := 53) rfl)) (hw _ (List.mem_of_getElem? (i := 23) rfl)) (by decide) (by decide)) q363a q363c (g := (mkF m 235 #[iv p1, iv p2, iv p3, iv p4, rv b2, rv pP_56, rv pP_100, rv b136, iv x155, rv b158, rv rs_286, rv b292, iv v353, iv v360, un, un, un] [(.ref b292)])) rfl (by rw [hml]; rfl) (Steps.refl _) (argsL := []) (rest := []) (lenOf pd_6 rfl) rfl (by show 2 * 0 + _ ≤ _; exact Nat.le_of_eq rfl) (hb hby at_235) (fun _ _ => ⟨rfl, e356, (by decide : 11 + 1 ≤ _), (by decide : 18326 + 8192 ≤ _)⟩)
    dsimp only [Pt.U, Pt.locs, Pt.cells, Pt.slots] at X363 l363 y363 z363 st363 hQ363
    subst y363 z363
    obtain ⟨acx_363, kcx_363, zcx_363, vcx_363, rfl, N363q, K363, E1_363, F_chars_363, F_pieces_363, F_ends_363, F_names_363, F_size_363, F_length_363, VC_363, gx_363, nx_a1_363, nx_ap_363, nx_ae_363, nx_an_363, hzcx_363⟩ := hQ363
    have N363 : Fr n0 L363 := by rw [l363]; exact Fr.app N356 N363q
    have P364 : Rch p e below (s₁.setTop (entryFrame m #[(.int p1), (.int p2), (.int p3), (.int p4)] maxLocals)) (T363.setTop (mkF m 238 #[iv p1, iv p2, iv p3, iv p4, rv b2, rv pP_56, rv pP_100, rv b136, iv x155, rv b158, rv rs_286, rv b292, iv v353, iv v360, un, un, un] [])) := fun t k => P362 t (st363.trans k)
    have P365 : Rch p e below (s₁.setTop (entryFrame m #[(.int p1), (.int p2), (.int p3), (.int p4)] maxLocals)) (T363.setTop (mkF m 240 #[iv p1, iv p2, iv p3, iv p4, rv b2, rv pP_56, rv pP_100, rv b136, iv x155, rv b158, rv rs_286, rv b292, iv v353, iv v360, un, un, un] [(.ref b292)])) := fun t k => P364 t (by
      show Steps p.tables e below (T363.setTop (mkF m 238 #[iv p1, iv p2, iv p3, iv p4, rv b2, rv pP_56, rv pP_100, rv b136, iv x155, rv b158, rv rs_286, rv b292, iv v353, iv v360, un, un, un] [])) t
      refine XS.aload X363.here hx rfl (hb hby at_238) rfl rfl ?_
      exact k)
    have f367 : n0 ≤ T363.heap.size := (Nat.le_trans Z333 K363.1)
    obtain ⟨cq366, kq366, q366a, q366b, q366c⟩ := isOf hZ rfl E1_363
    obtain ⟨_, _, ⟨T366, L366, k366, n366⟩, -, X366, ⟨Lc366, hQ366, l366, y366, z366⟩, st366⟩ := X363.virtualBack hx (y := (⟨"com/example/rideau/rideau/internal/HeldText", "isEmpty", "()Z"⟩ : MethodName)) (z := (⟨"com/example/rideau/rideau/internal/HeldText", "isEmpty", "()Z"⟩ : MethodName)) hown (mvT hZ (hw _ (List.mem_of_getElem? (i := 42) rfl))) (mvT hZ (hw _ (List.mem_of_getElem? (i := 43) rfl))) (notFace_of_selects (args := #[]) (mvT hZ (hw _ (List.mem_of_getElem? (i := 45) rfl)))) (mvT hZ (hw _ (List.mem_of_getElem? (i := 45) rfl))) (mvT hZ (hw _ (List.mem_of_getElem? (i := 44) rfl))) (by decide) (backOf (W := 0) (rmE l Z a0 hw [] b292 (0 : Int32) T363.heap n0 f367 F_size_363) hZ (hw _ (List.mem_of_getElem? (i := 46) rfl)) (hw _ (List.mem_of_getElem? (i := 23) rfl)) (by decide) (by decide)) q366a q366c (g := (mkF m 240 #[iv p1, iv p2, iv p3, iv p4, rv b2, rv pP_56, rv pP_100, rv b136, iv x155, rv b158, rv rs_286, rv b292, iv v353, iv v360, un, un, un] [(.ref b292)])) rfl (by rw [hml]; rfl) (Steps.refl _) (argsL := []) (rest := []) (lenOf pd_8 rfl) rfl (by show 2 * 0 + _ ≤ _; exact Nat.le_of_eq rfl) (hb hby at_240) (fun _ _ => ⟨rfl, rfl, (by decide : 12 + 0 ≤ _), (by decide : 26518 + 0 ≤ _)⟩)
    dsimp only [Pt.U, Pt.locs, Pt.cells, Pt.slots] at X366 l366 y366 z366 st366 hQ366
    subst y366 z366
    obtain ⟨rfl, N366q, e366⟩ := hQ366
    have N366 : Fr n0 L366 := by rw [l366]; exact Fr.app N363 N366q
    have P368 : Rch p e below (s₁.setTop (entryFrame m #[(.int p1), (.int p2), (.int p3), (.int p4)] maxLocals)) (T366.setTop (mkF m 243 #[iv p1, iv p2, iv p3, iv p4, rv b2, rv pP_56, rv pP_100, rv b136, iv x155, rv b158, rv rs_286, rv b292, iv v353, iv v360, un, un, un] [(.int (own_ie (0 : Int32)))])) := fun t k => P365 t (st366.trans k)
    obtain ⟨x369, hx369⟩ : ∃ z : Int32, z = (own_ie (0 : Int32)) := ⟨_, rfl⟩
    rw [← hx369] at P368
    obtain ⟨x370, hx370⟩ : ∃ z : Int32, z = (p1 &&& (8 : Int32)) := ⟨_, rfl⟩
    have P371 : Rch p e below (s₁.setTop (entryFrame m #[(.int p1), (.int p2), (.int p3), (.int p4)] maxLocals)) (T366.setTop (mkF m 249 #[iv p1, iv p2, iv p3, iv p4, rv b2, rv pP_56, rv pP_100, rv b136, iv x155, rv b158, rv rs_286, rv b292, iv v353, iv v360, iv x369, un, un] [(.int x370)])) := fun t k => P368 t (by
      subst hx370
      show Steps p.tables e below (T366.setTop (mkF m 243 #[iv p1, iv p2, iv p3, iv p4, rv b2, rv pP_56, rv pP_100, rv b136, iv x155, rv b158, rv rs_286, rv b292, iv v353, iv v360, un, un, un] [(.int x369)])) t
      refine XS.istore X366.here hx rfl (hb hby at_243) rfl (l' := #[iv p1, iv p2, iv p3, iv p4, rv b2, rv pP_56, rv pP_100, rv b136, iv x155, rv b158, rv rs_286, rv b292, iv v353, iv v360, iv x369, un, un]) rfl ?_
      refine XS.iloadN X366.here hx rfl (hb hby at_245) rfl ?_
      refine XS.bipush X366.here hx rfl (hb hby at_246) ?_
      show Steps p.tables e below (T366.setTop (mkF m 248 #[iv p1, iv p2, iv p3, iv p4, rv b2, rv pP_56, rv pP_100, rv b136, iv x155, rv b158, rv rs_286, rv b292, iv v353, iv v360, iv x369, un, un] [(.int (8 : Int32)), (.int p1)])) t
      refine XS.iand X366.here hx rfl (hb hby at_248) rfl ?_
      exact k)
    obtain ⟨T372, L372, h372, sj_372, lj_372, vpj_372, vej_372, vnj_372, vcj_372, X372, e372, N372, Z372, K372, F_chars_372, F_pieces_372, F_ends_372, F_names_372, F_size_372, F_length_372, VC_372, VP_372, VE_372, VN_372, hvpj_372, hvej_372, hvnj_372, hone_372, P372⟩ : ∃ (T372 : State) (L372 : List Loc) (h372 : Heap) (sj_372 : Int32) (lj_372 : Int32) (vpj_372 : List Value) (vej_372 : List Value) (vnj_372 : List Value) (vcj_372 : List Value), Stand p l e room_1 s m #[(.int p1), (.int p2), (.int p3), (.int p4)] below meth c T372 L372 12 26518 ∧ T372.heap = h372 ∧ Fr n0 L372 ∧ n0 ≤ h372.size ∧ Keep T363.heap h372 [b292, acx_363, ap_298, ae_298, an_298] ∧ (Fld Z h372 b292 "com/example/rideau/rideau/internal/HeldText" "chars" "[C" (.ref acx_363)) ∧ (Fld Z h372 b292 "com/example/rideau/rideau/internal/HeldText" "pieces" "[Lcom/example/rideau/rideau/internal/HeldText$Piece;" (.ref ap_298)) ∧ (Fld Z h372 b292 "com/example/rideau/rideau/internal/HeldText" "ends" "[I" (.ref ae_298)) ∧ (Fld Z h372 b292 "com/example/rideau/rideau/internal/HeldText" "names" "[Ljava/lang/String;" (.ref an_298)) ∧ (Fld Z h372 b292 "com/example/rideau/rideau/internal/HeldText" "size" "I" (.int sj_372)) ∧ (Fld Z h372 b292 "com/example/rideau/rideau/internal/HeldText" "length" "I" (.int lj_372)) ∧ (Arv Z h372 acx_363 kcx_363 .char zcx_363 vcj_372 (.int (0 : Int32))) ∧ (Arv Z h372 ap_298 kp_298 (.object "com/example/rideau/rideau/internal/HeldText$Piece") (16 : Int32) vpj_372 .null) ∧ (Arv Z h372 ae_298 ke_298 .int (16 : Int32) vej_372 (.int (0 : Int32))) ∧ (Arv Z h372 an_298 kn_298 (.object "java/lang/String") (16 : Int32) vnj_372 .null) ∧ (vpj_372.length = 16) ∧ (vej_372.length = 16) ∧ (vnj_372.length = 16) ∧ (1 ≤ sj_372.toInt) ∧ Rch p e below (s₁.setTop (entryFrame m #[(.int p1), (.int p2), (.int p3), (.int p4)] maxLocals)) (T372.setTop (mkF m 276 #[iv p1, iv p2, iv p3, iv p4, rv b2, rv pP_56, rv pP_100, rv b136, iv x155, rv b158, rv rs_286, rv b292, iv v353, iv v360, iv x369, un, un] [])) := by
      by_cases c373 : x370 = (0 : Int32)
      · have P374 : Rch p e below (s₁.setTop (entryFrame m #[(.int p1), (.int p2), (.int p3), (.int p4)] maxLocals)) (T366.setTop (mkF m 273 #[iv p1, iv p2, iv p3, iv p4, rv b2, rv pP_56, rv pP_100, rv b136, iv x155, rv b158, rv rs_286, rv b292, iv v353, iv v360, iv x369, un, un] [(.ref rs_286), (.ref pP_100), (.ref b292)])) := fun t k => P371 t (by
          show Steps p.tables e below (T366.setTop (mkF m 249 #[iv p1, iv p2, iv p3, iv p4, rv b2, rv pP_56, rv pP_100, rv b136, iv x155, rv b158, rv rs_286, rv b292, iv v353, iv v360, iv x369, un, un] [(.int x370)])) t
          refine XS.ifYes X366.here hx rfl (pc0 := 249) (pc' := 267) rfl (hb hby at_249) rfl ((if0 _ _).trans (teq c373).1) (by decide) (by decide) ?_
          refine XS.aload X366.here hx rfl (hb hby at_267) rfl rfl ?_
          refine XS.aload X366.here hx rfl (hb hby at_269) rfl rfl ?_
          show Steps p.tables e below (T366.setTop (mkF m 271 #[iv p1, iv p2, iv p3, iv p4, rv b2, rv pP_56, rv pP_100, rv b136, iv x155, rv b158, rv rs_286, rv b292, iv v353, iv v360, iv x369, un, un] [(.ref pP_100), (.ref b292)])) t
          refine XS.aload X366.here hx rfl (hb hby at_271) rfl rfl ?_
          exact k)
        have f376 : Exa Z T363.heap pP_100 "com/example/rideau/rideau/internal/HeldText$Piece" := (((((f306.keep K298).keep K311).keep K323).keep K333).keep K363)
        have f377 : Exa Z T363.heap rs_286 "java/lang/String" := ((((((Er_286.ext E292).keep K298).keep K311).keep K323).keep K333).keep K363)
        obtain ⟨cq375, kq375, q375a, q375b, q375c⟩ := isOf hZ e366 E1_363
        obtain ⟨_, _, ⟨T375, L375, k375, n375⟩, -, X375, ⟨Lc375, hQ375, l375, y375, z375⟩, st375⟩ := X366.virtualBack hx (y := (⟨"com/example/rideau/rideau/internal/HeldText", "add", "(Lcom/example/rideau/rideau/internal/HeldText$Piece;Ljava/lang/String;)V"⟩ : MethodName)) (z := (⟨"com/example/rideau/rideau/internal/HeldText", "add", "(Lcom/example/rideau/rideau/internal/HeldText$Piece;Ljava/lang/String;)V"⟩ : MethodName)) hown (mvT hZ (hw _ (List.mem_of_getElem? (i := 56) rfl))) (mvT hZ (hw _ (List.mem_of_getElem? (i := 57) rfl))) (notFace_of_selects (args := #[]) (mvT hZ (hw _ (List.mem_of_getElem? (i := 59) rfl)))) (mvT hZ (hw _ (List.mem_of_getElem? (i := 59) rfl))) (mvT hZ (hw _ (List.mem_of_getElem? (i := 58) rfl))) (by decide) (backOf (W := 0) (rmAS l Z a0 hw [] b292 acx_363 ap_298 ae_298 an_298 kp_298 ke_298 kn_298 pP_100 rs_286 (0 : Int32) (0 : Int32) vpj_333 vej_333 vnj_333 T363.heap n0 f367 E1_363 F_chars_363 F_pieces_363 F_ends_363 F_names_363 F_size_363 F_length_363 (VP_333.keep K363 (ninS (Ne.symm ne_b292_ap_298) nin0)) (VE_333.keep K363 (ninS (Ne.symm ne_b292_ae_298) nin0)) (VN_333.keep K363 (ninS (Ne.symm ne_b292_an_298) nin0)) f376 f377 g_b292 gx_363 g_ap_298 g_ae_298 g_an_298 (Ne.symm nx_a1_363) ne_b292_ap_298 ne_b292_ae_298 ne_b292_an_298 nx_ap_363 nx_ae_363 nx_an_363 n_ap_ae_298 n_ap_an_298 n_ae_an_298 Op_298 On_298 hvpj_333 hvej_333 hvnj_333 (by decide)) hZ (hw _ (List.mem_of_getElem? (i := 60) rfl)) (hw _ (List.mem_of_getElem? (i := 23) rfl)) (by decide) (by decide)) q375a q375c (g := (mkF m 273 #[iv p1, iv p2, iv p3, iv p4, rv b2, rv pP_56, rv pP_100, rv b136, iv x155, rv b158, rv rs_286, rv b292, iv v353, iv v360, iv x369, un, un] [(.ref rs_286), (.ref pP_100), (.ref b292)])) rfl (by rw [hml]; rfl) (Steps.refl _) (argsL := [(.ref pP_100), (.ref rs_286)]) (rest := []) (lenOf pd_0 rfl) rfl (by show 2 * 0 + _ ≤ _; exact Nat.le_of_eq rfl) (hb hby at_273) (fun _ _ => ⟨rfl, e366, (by decide : 12 + 0 ≤ _), (by decide : 26518 + 0 ≤ _)⟩)
        dsimp only [Pt.U, Pt.locs, Pt.cells, Pt.slots] at X375 l375 y375 z375 st375 hQ375
        subst y375 z375
        obtain ⟨szx_375, vpx_375, vex_375, vnx_375, rfl, N375q, K375, E1_375, F_chars_375, F_pieces_375, F_ends_375, F_names_375, F_size_375, F_length_375, VP_375, VE_375, VN_375, hszx_375, hvpx_375, hvex_375, hvnx_375⟩ := hQ375
        have N375 : Fr n0 L375 := by rw [l375]; exact Fr.app N366 N375q
        have P378 : Rch p e below (s₁.setTop (entryFrame m #[(.int p1), (.int p2), (.int p3), (.int p4)] maxLocals)) (T375.setTop (mkF m 276 #[iv p1, iv p2, iv p3, iv p4, rv b2, rv pP_56, rv pP_100, rv b136, iv x155, rv b158, rv rs_286, rv b292, iv v353, iv v360, iv x369, un, un] [])) := fun t k => P374 t (st375.trans k)
        have f379 : Arv Z T375.heap acx_363 kcx_363 .char zcx_363 vcx_363 (.int (0 : Int32)) := (VC_363.keep K375 (ninS nx_a1_363 (ninS nx_ap_363 (ninS nx_ae_363 (ninS nx_an_363 nin0)))))
        have f380 : n0 ≤ T375.heap.size := (Nat.le_trans f367 K375.1)
        exact ⟨T375, _, T375.heap, szx_375, (0 : Int32), vpx_375, vex_375, vnx_375, vcx_363, X375, rfl, N375, f380, ((Keep.refl T363.heap [b292, acx_363, ap_298, ae_298, an_298]).trans K375 (allS (P := fun x => x ∈ ([b292, acx_363, ap_298, ae_298, an_298] : List Addr) ∨ T363.heap.size ≤ x) (Or.inl (List.mem_of_getElem? (i := 0) rfl)) (allS (P := fun x => x ∈ ([b292, acx_363, ap_298, ae_298, an_298] : List Addr) ∨ T363.heap.size ≤ x) (Or.inl (List.mem_of_getElem? (i := 2) rfl)) (allS (P := fun x => x ∈ ([b292, acx_363, ap_298, ae_298, an_298] : List Addr) ∨ T363.heap.size ≤ x) (Or.inl (List.mem_of_getElem? (i := 3) rfl)) (allS (P := fun x => x ∈ ([b292, acx_363, ap_298, ae_298, an_298] : List Addr) ∨ T363.heap.size ≤ x) (Or.inl (List.mem_of_getElem? (i := 4) rfl)) all0))))), F_chars_375, F_pieces_375, F_ends_375, F_names_375, F_size_375, F_length_375, f379, VP_375, VE_375, VN_375, hvpx_375, hvex_375, hvnx_375, (by have z0_ : (0 : Int32).toInt = 0 := rfl; omega), P378⟩
      · have P381 : Rch p e below (s₁.setTop (entryFrame m #[(.int p1), (.int p2), (.int p3), (.int p4)] maxLocals)) (T366.setTop (mkF m 261 #[iv p1, iv p2, iv p3, iv p4, rv b2, rv pP_56, rv pP_100, rv b136, iv x155, rv b158, rv rs_286, rv b292, iv v353, iv v360, iv x369, un, un] [(.int x155), (.int (0 : Int32)), (.ref b136), (.ref pP_56), (.ref b292)])) := fun t k => P371 t (by
          show Steps p.tables e below (T366.setTop (mkF m 249 #[iv p1, iv p2, iv p3, iv p4, rv b2, rv pP_56, rv pP_100, rv b136, iv x155, rv b158, rv rs_286, rv b292, iv v353, iv v360, iv x369, un, un] [(.int x370)])) t
          refine XS.ifNo X366.here hx rfl (hb hby at_249) rfl ((if0 _ _).trans (feq c373).1) ?_
          refine XS.aload X366.here hx rfl (hb hby at_252) rfl rfl ?_
          refine XS.aload X366.here hx rfl (hb hby at_254) rfl rfl ?_
          show Steps p.tables e below (T366.setTop (mkF m 256 #[iv p1, iv p2, iv p3, iv p4, rv b2, rv pP_56, rv pP_100, rv b136, iv x155, rv b158, rv rs_286, rv b292, iv v353, iv v360, iv x369, un, un] [(.ref pP_56), (.ref b292)])) t
          refine XS.aload X366.here hx rfl (hb hby at_256) rfl rfl ?_
          refine XS.iconst X366.here hx rfl (hb hby at_258) ?_
          refine XS.iload X366.here hx rfl (hb hby at_259) rfl ?_
          exact k)
        have f383 : Exa Z T363.heap pP_56 "com/example/rideau/rideau/internal/HeldText$Piece" := ((((((f293.ext E292).keep K298).keep K311).keep K323).keep K333).keep K363)
        have f384 : Arv Z T363.heap b136 k136 .char (2 : Int32) [(.int (nar .char x145)), (.int (nar .char x150))] (.int (0 : Int32)) := ((((((((V153.ext E158).keep K286 nin0).ext E292).keep K298 (ninS ne_b136_b292 nin0)).keep K311 (ninS ne_b136_b292 (ninS ne_b136_ac_298 (ninS ne_b136_ap_298 (ninS ne_b136_ae_298 (ninS ne_b136_an_298 nin0)))))).keep K323 (ninS ne_b136_b292 (ninS ne_b136_ap_298 (ninS ne_b136_ae_298 (ninS ne_b136_an_298 nin0))))).keep K333 (ninS ne_b136_b292 (ninS ne_b136_ap_298 (ninS ne_b136_ae_298 (ninS ne_b136_an_298 nin0))))).keep K363 (ninS ne_b136_b292 nin0))
        obtain ⟨cq382, kq382, q382a, q382b, q382c⟩ := isOf hZ e366 E1_363
        obtain ⟨_, _, ⟨T382, L382, k382, n382⟩, -, X382, ⟨Lc382, hQ382, l382, y382, z382⟩, st382⟩ := X366.virtualBack hx (y := (⟨"com/example/rideau/rideau/internal/HeldText", "text", "(Lcom/example/rideau/rideau/internal/HeldText$Piece;[CII)V"⟩ : MethodName)) (z := (⟨"com/example/rideau/rideau/internal/HeldText", "text", "(Lcom/example/rideau/rideau/internal/HeldText$Piece;[CII)V"⟩ : MethodName)) hown (mvT hZ (hw _ (List.mem_of_getElem? (i := 61) rfl))) (mvT hZ (hw _ (List.mem_of_getElem? (i := 62) rfl))) (notFace_of_selects (args := #[]) (mvT hZ (hw _ (List.mem_of_getElem? (i := 64) rfl)))) (mvT hZ (hw _ (List.mem_of_getElem? (i := 64) rfl))) (mvT hZ (hw _ (List.mem_of_getElem? (i := 63) rfl))) (by decide) (backOf (W := 0) (rmTS l Z a0 hw [] b292 acx_363 ap_298 ae_298 an_298 kcx_363 kp_298 ke_298 kn_298 pP_56 b136 k136 [(.int (nar .char x145)), (.int (nar .char x150))] x155 zcx_363 vcx_363 vpj_333 vej_333 vnj_333 T363.heap n0 f367 E1_363 F_chars_363 F_pieces_363 F_ends_363 F_names_363 F_size_363 F_length_363 VC_363 (VP_333.keep K363 (ninS (Ne.symm ne_b292_ap_298) nin0)) (VE_333.keep K363 (ninS (Ne.symm ne_b292_ae_298) nin0)) (VN_333.keep K363 (ninS (Ne.symm ne_b292_an_298) nin0)) f383 f384 g_b292 gx_363 g_ap_298 g_ae_298 g_an_298 (Ne.symm nx_a1_363) ne_b292_ap_298 ne_b292_ae_298 ne_b292_an_298 nx_ap_363 nx_ae_363 nx_an_363 n_ap_ae_298 n_ap_an_298 n_ae_an_298 Op_298 On_298 hvpj_333 hvej_333 hvnj_333 hct hzcx_363 ne_b136_b292) hZ (hw _ (List.mem_of_getElem? (i := 65) rfl)) (hw _ (List.mem_of_getElem? (i := 23) rfl)) (by decide) (by decide)) q382a q382c (g := (mkF m 261 #[iv p1, iv p2, iv p3, iv p4, rv b2, rv pP_56, rv pP_100, rv b136, iv x155, rv b158, rv rs_286, rv b292, iv v353, iv v360, iv x369, un, un] [(.int x155), (.int (0 : Int32)), (.ref b136), (.ref pP_56), (.ref b292)])) rfl (by rw [hml]; rfl) (Steps.refl _) (argsL := [(.ref pP_56), (.ref b136), (.int (0 : Int32)), (.int x155)]) (rest := []) (lenOf pd_7 rfl) rfl (by show 2 * 0 + _ ≤ _; exact Nat.le_of_eq rfl) (hb hby at_261) (fun _ _ => ⟨rfl, e366, (by decide : 12 + 0 ≤ _), (by decide : 26518 + 0 ≤ _)⟩)
        dsimp only [Pt.U, Pt.locs, Pt.cells, Pt.slots] at X382 l382 y382 z382 st382 hQ382
        subst y382 z382
        obtain ⟨szx_382, lnx_382, vcx_382, vpx_382, vex_382, vnx_382, rfl, N382q, K382, E1_382, F_chars_382, F_pieces_382, F_ends_382, F_names_382, F_size_382, F_length_382, VC_382, VP_382, VE_382, VN_382, hszx_382, hlnx_382, hvpx_382, hvex_382, hvnx_382⟩ := hQ382
        have N382 : Fr n0 L382 := by rw [l382]; exact Fr.app N366 N382q
        have P385 : Rch p e below (s₁.setTop (entryFrame m #[(.int p1), (.int p2), (.int p3), (.int p4)] maxLocals)) (T382.setTop (mkF m 264 #[iv p1, iv p2, iv p3, iv p4, rv b2, rv pP_56, rv pP_100, rv b136, iv x155, rv b158, rv rs_286, rv b292, iv v353, iv v360, iv x369, un, un] [])) := fun t k => P381 t (st382.trans k)
        have P386 : Rch p e below (s₁.setTop (entryFrame m #[(.int p1), (.int p2), (.int p3), (.int p4)] maxLocals)) (T382.setTop (mkF m 276 #[iv p1, iv p2, iv p3, iv p4, rv b2, rv pP_56, rv pP_100, rv b136, iv x155, rv b158, rv rs_286, rv b292, iv v353, iv v360, iv x369, un, un] [])) := fun t k => P385 t (by
          show Steps p.tables e below (T382.setTop (mkF m 264 #[iv p1, iv p2, iv p3, iv p4, rv b2, rv pP_56, rv pP_100, rv b136, iv x155, rv b158, rv rs_286, rv b292, iv v353, iv v360, iv x369, un, un] [])) t
          refine XS.goto X382.here hx rfl (pc0 := 264) (pc' := 276) rfl (hb hby at_264) (by decide) (by decide) ?_
          exact k)
        have f387 : n0 ≤ T382.heap.size := (Nat.le_trans f367 K382.1)
        exact ⟨T382, _, T382.heap, szx_382, lnx_382, vpx_382, vex_382, vnx_382, vcx_382, X382, rfl, N382, f387, ((Keep.refl T363.heap [b292, acx_363, ap_298, ae_298, an_298]).trans K382 (allS (P := fun x => x ∈ ([b292, acx_363, ap_298, ae_298, an_298] : List Addr) ∨ T363.heap.size ≤ x) (Or.inl (List.mem_of_getElem? (i := 0) rfl)) (allS (P := fun x => x ∈ ([b292, acx_363, ap_298, ae_298, an_298] : List Addr) ∨ T363.heap.size ≤ x) (Or.inl (List.mem_of_getElem? (i := 1) rfl)) (allS (P := fun x => x ∈ ([b292, acx_363, ap_298, ae_298, an_298] : List Addr) ∨ T363.heap.size ≤ x) (Or.inl (List.mem_of_getElem? (i := 2) rfl)) (allS (P := fun x => x ∈ ([b292, acx_363, ap_298, ae_298, an_298] : List Addr) ∨ T363.heap.size ≤ x) (Or.inl (List.mem_of_getElem? (i := 3) rfl)) (allS (P := fun x => x ∈ ([b292, acx_363, ap_298, ae_298, an_298] : List Addr) ∨ T363.heap.size ≤ x) (Or.inl (List.mem_of_getElem? (i := 4) rfl)) all0)))))), F_chars_382, F_pieces_382, F_ends_382, F_names_382, F_size_382, F_length_382, VC_382, VP_382, VE_382, VN_382, hvpx_382, hvex_382, hvnx_382, (by have z0_ : (0 : Int32).toInt = 0 := rfl; omega), P386⟩
    have P388 : Rch p e below (s₁.setTop (entryFrame m #[(.int p1), (.int p2), (.int p3), (.int p4)] maxLocals)) (T372.setTop (mkF m 278 #[iv p1, iv p2, iv p3, iv p4, rv b2, rv pP_56, rv pP_100, rv b136, iv x155, rv b158, rv rs_286, rv b292, iv v353, iv v360, iv x369, un, un] [(.ref b292)])) := fun t k => P372 t (by
      show Steps p.tables e below (T372.setTop (mkF m 276 #[iv p1, iv p2, iv p3, iv p4, rv b2, rv pP_56, rv pP_100, rv b136, iv x155, rv b158, rv rs_286, rv b292, iv v353, iv v360, iv x369, un, un] [])) t
      refine XS.aload X372.here hx rfl (hb hby at_276) rfl rfl ?_
      exact k)
    obtain ⟨cq389, kq389, q389a, q389b, q389c⟩ := isOf hZ e372 (E1_363.keep K372)
    obtain ⟨_, _, ⟨T389, L389, k389, n389⟩, -, X389, ⟨Lc389, hQ389, l389, y389, z389⟩, st389⟩ := X372.virtualBack hx (y := (⟨"com/example/rideau/rideau/internal/HeldText", "isEmpty", "()Z"⟩ : MethodName)) (z := (⟨"com/example/rideau/rideau/internal/HeldText", "isEmpty", "()Z"⟩ : MethodName)) hown (mvT hZ (hw _ (List.mem_of_getElem? (i := 42) rfl))) (mvT hZ (hw _ (List.mem_of_getElem? (i := 43) rfl))) (notFace_of_selects (args := #[]) (mvT hZ (hw _ (List.mem_of_getElem? (i := 45) rfl)))) (mvT hZ (hw _ (List.mem_of_getElem? (i := 45) rfl))) (mvT hZ (hw _ (List.mem_of_getElem? (i := 44) rfl))) (by decide) (backOf (W := 0) (rmE l Z a0 hw [] b292 sj_372 h372 n0 Z372 F_size_372) hZ (hw _ (List.mem_of_getElem? (i := 46) rfl)) (hw _ (List.mem_of_getElem? (i := 23) rfl)) (by decide) (by decide)) q389a q389c (g := (mkF m 278 #[iv p1, iv p2, iv p3, iv p4, rv b2, rv pP_56, rv pP_100, rv b136, iv x155, rv b158, rv rs_286, rv b292, iv v353, iv v360, iv x369, un, un] [(.ref b292)])) rfl (by rw [hml]; rfl) (Steps.refl _) (argsL := []) (rest := []) (lenOf pd_8 rfl) rfl (by show 2 * 0 + _ ≤ _; exact Nat.le_of_eq rfl) (hb hby at_278) (fun _ _ => ⟨rfl, e372, (by decide : 12 + 0 ≤ _), (by decide : 26518 + 0 ≤ _)⟩)
    dsimp only [Pt.U, Pt.locs, Pt.cells, Pt.slots] at X389 l389 y389 z389 st389 hQ389
    subst y389 z389
    obtain ⟨rfl, N389q, e389⟩ := hQ389
    have N389 : Fr n0 L389 := by rw [l389]; exact Fr.app N372 N389q
    have P390 : Rch p e below (s₁.setTop (entryFrame m #[(.int p1), (.int p2), (.int p3), (.int p4)] maxLocals)) (T389.setTop (mkF m 281 #[iv p1, iv p2, iv p3, iv p4, rv b2, rv pP_56, rv pP_100, rv b136, iv x155, rv b158, rv rs_286, rv b292, iv v353, iv v360, iv x369, un, un] [(.int (own_ie sj_372))])) := fun t k => P388 t (st389.trans k)
    obtain ⟨x391, hx391⟩ : ∃ z : Int32, z = (own_ie sj_372) := ⟨_, rfl⟩
    rw [← hx391] at P390
    obtain ⟨v393, hv393, P394⟩ : ∃ (v393 : Int32), v393 = (if x391 = (0 : Int32) then (1 : Int32) else (0 : Int32)) ∧ Rch p e below (s₁.setTop (entryFrame m #[(.int p1), (.int p2), (.int p3), (.int p4)] maxLocals)) (T389.setTop (mkF m 289 #[iv p1, iv p2, iv p3, iv p4, rv b2, rv pP_56, rv pP_100, rv b136, iv x155, rv b158, rv rs_286, rv b292, iv v353, iv v360, iv x369, un, un] [(.int v393)])) := by
      by_cases c392 : x391 = (0 : Int32)
      · refine ⟨(1 : Int32), (by first | rw [if_pos c392] | simp only [if_pos c392] | rfl), fun t k => P390 t ?_⟩
        show Steps p.tables e below (T389.setTop (mkF m 281 #[iv p1, iv p2, iv p3, iv p4, rv b2, rv pP_56, rv pP_100, rv b136, iv x155, rv b158, rv rs_286, rv b292, iv v353, iv v360, iv x369, un, un] [(.int x391)])) t
        refine XS.ifNo X389.here hx rfl (hb hby at_281) rfl ((if0 _ _).trans (teq c392).2) ?_
        refine XS.iconst X389.here hx rfl (hb hby at_284) ?_
        refine XS.goto X389.here hx rfl (pc0 := 285) (pc' := 289) rfl (hb hby at_285) (by decide) (by decide) ?_
        exact k
      · refine ⟨(0 : Int32), (by first | rw [if_neg c392] | simp only [if_neg c392] | rfl), fun t k => P390 t ?_⟩
        show Steps p.tables e below (T389.setTop (mkF m 281 #[iv p1, iv p2, iv p3, iv p4, rv b2, rv pP_56, rv pP_100, rv b136, iv x155, rv b158, rv rs_286, rv b292, iv v353, iv v360, iv x369, un, un] [(.int x391)])) t
        refine XS.ifYes X389.here hx rfl (pc0 := 281) (pc' := 288) rfl (hb hby at_281) rfl ((if0 _ _).trans (feq c392).2) (by decide) (by decide) ?_
        refine XS.iconst X389.here hx rfl (hb hby at_288) ?_
        exact k
    have P395 : Rch p e below (s₁.setTop (entryFrame m #[(.int p1), (.int p2), (.int p3), (.int p4)] maxLocals)) (T389.setTop (mkF m 293 #[iv p1, iv p2, iv p3, iv p4, rv b2, rv pP_56, rv pP_100, rv b136, iv x155, rv b158, rv rs_286, rv b292, iv v353, iv v360, iv x369, iv v393, un] [(.ref b292)])) := fun t k => P394 t (by
      show Steps p.tables e below (T389.setTop (mkF m 289 #[iv p1, iv p2, iv p3, iv p4, rv b2, rv pP_56, rv pP_100, rv b136, iv x155, rv b158, rv rs_286, rv b292, iv v353, iv v360, iv x369, un, un] [(.int v393)])) t
      refine XS.istore X389.here hx rfl (hb hby at_289) rfl (l' := #[iv p1, iv p2, iv p3, iv p4, rv b2, rv pP_56, rv pP_100, rv b136, iv x155, rv b158, rv rs_286, rv b292, iv v353, iv v360, iv x369, iv v393, un]) rfl ?_
      refine XS.aload X389.here hx rfl (hb hby at_291) rfl rfl ?_
      exact k)
    obtain ⟨cq396, kq396, q396a, q396b, q396c⟩ := isOf hZ e389 (E1_363.keep K372)
    obtain ⟨_, _, ⟨T396, L396, k396, n396⟩, -, X396, ⟨Lc396, hQ396, l396, y396, z396⟩, st396⟩ := X389.virtualBack hx (y := (⟨"com/example/rideau/rideau/internal/HeldText", "clear", "()V"⟩ : MethodName)) (z := (⟨"com/example/rideau/rideau/internal/HeldText", "clear", "()V"⟩ : MethodName)) hown (mvT hZ (hw _ (List.mem_of_getElem? (i := 49) rfl))) (mvT hZ (hw _ (List.mem_of_getElem? (i := 50) rfl))) (notFace_of_selects (args := #[]) (mvT hZ (hw _ (List.mem_of_getElem? (i := 52) rfl)))) (mvT hZ (hw _ (List.mem_of_getElem? (i := 52) rfl))) (mvT hZ (hw _ (List.mem_of_getElem? (i := 51) rfl))) (by decide) (backOf (W := 0) (rmCl l Z a0 hw [] b292 acx_363 ap_298 ae_298 an_298 kcx_363 kp_298 ke_298 kn_298 sj_372 lj_372 zcx_363 vcj_372 vpj_372 vej_372 vnj_372 h372 n0 Z372 (E1_363.keep K372) F_chars_372 F_pieces_372 F_ends_372 F_names_372 F_size_372 F_length_372 VC_372 VP_372 VE_372 VN_372 g_b292 gx_363 g_ap_298 g_ae_298 g_an_298 (Ne.symm nx_a1_363) ne_b292_ap_298 ne_b292_ae_298 ne_b292_an_298 nx_ap_363 nx_ae_363 nx_an_363 n_ap_ae_298 n_ap_an_298 n_ae_an_298 hzcx_363) hZ (hw _ (List.mem_of_getElem? (i := 53) rfl)) (hw _ (List.mem_of_getElem? (i := 23) rfl)) (by decide) (by decide)) q396a q396c (g := (mkF m 293 #[iv p1, iv p2, iv p3, iv p4, rv b2, rv pP_56, rv pP_100, rv b136, iv x155, rv b158, rv rs_286, rv b292, iv v353, iv v360, iv x369, iv v393, un] [(.ref b292)])) rfl (by rw [hml]; rfl) (Steps.refl _) (argsL := []) (rest := []) (lenOf pd_6 rfl) rfl (by show 2 * 0 + _ ≤ _; exact Nat.le_of_eq rfl) (hb hby at_293) (fun _ _ => ⟨rfl, e389, (by decide : 12 + 1 ≤ _), (by decide : 26518 + 8192 ≤ _)⟩)
    dsimp only [Pt.U, Pt.locs, Pt.cells, Pt.slots] at X396 l396 y396 z396 st396 hQ396
    subst y396 z396
    obtain ⟨acx_396, kcx_396, zcx_396, vcx_396, rfl, N396q, K396, E1_396, F_chars_396, F_pieces_396, F_ends_396, F_names_396, F_size_396, F_length_396, VC_396, gx_396, nx_a1_396, nx_ap_396, nx_ae_396, nx_an_396, hzcx_396⟩ := hQ396
    have N396 : Fr n0 L396 := by rw [l396]; exact Fr.app N389 N396q
    have P397 : Rch p e below (s₁.setTop (entryFrame m #[(.int p1), (.int p2), (.int p3), (.int p4)] maxLocals)) (T396.setTop (mkF m 296 #[iv p1, iv p2, iv p3, iv p4, rv b2, rv pP_56, rv pP_100, rv b136, iv x155, rv b158, rv rs_286, rv b292, iv v353, iv v360, iv x369, iv v393, un] [])) := fun t k => P395 t (st396.trans k)
    have P398 : Rch p e below (s₁.setTop (entryFrame m #[(.int p1), (.int p2), (.int p3), (.int p4)] maxLocals)) (T396.setTop (mkF m 298 #[iv p1, iv p2, iv p3, iv p4, rv b2, rv pP_56, rv pP_100, rv b136, iv x155, rv b158, rv rs_286, rv b292, iv v353, iv v360, iv x369, iv v393, un] [(.ref b292)])) := fun t k => P397 t (by
      show Steps p.tables e below (T396.setTop (mkF m 296 #[iv p1, iv p2, iv p3, iv p4, rv b2, rv pP_56, rv pP_100, rv b136, iv x155, rv b158, rv rs_286, rv b292, iv v353, iv v360, iv x369, iv v393, un] [])) t
      refine XS.aload X396.here hx rfl (hb hby at_296) rfl rfl ?_
      exact k)
    have f400 : n0 ≤ T396.heap.size := (Nat.le_trans Z372 K396.1)
    obtain ⟨cq399, kq399, q399a, q399b, q399c⟩ := isOf hZ rfl E1_396
    obtain ⟨_, _, ⟨T399, L399, k399, n399⟩, -, X399, ⟨Lc399, hQ399, l399, y399, z399⟩, st399⟩ := X396.virtualBack hx (y := (⟨"com/example/rideau/rideau/internal/HeldText", "isEmpty", "()Z"⟩ : MethodName)) (z := (⟨"com/example/rideau/rideau/internal/HeldText", "isEmpty", "()Z"⟩ : MethodName)) hown (mvT hZ (hw _ (List.mem_of_getElem? (i := 42) rfl))) (mvT hZ (hw _ (List.mem_of_getElem? (i := 43) rfl))) (notFace_of_selects (args := #[]) (mvT hZ (hw _ (List.mem_of_getElem? (i := 45) rfl)))) (mvT hZ (hw _ (List.mem_of_getElem? (i := 45) rfl))) (mvT hZ (hw _ (List.mem_of_getElem? (i := 44) rfl))) (by decide) (backOf (W := 0) (rmE l Z a0 hw [] b292 (0 : Int32) T396.heap n0 f400 F_size_396) hZ (hw _ (List.mem_of_getElem? (i := 46) rfl)) (hw _ (List.mem_of_getElem? (i := 23) rfl)) (by decide) (by decide)) q399a q399c (g := (mkF m 298 #[iv p1, iv p2, iv p3, iv p4, rv b2, rv pP_56, rv pP_100, rv b136, iv x155, rv b158, rv rs_286, rv b292, iv v353, iv v360, iv x369, iv v393, un] [(.ref b292)])) rfl (by rw [hml]; rfl) (Steps.refl _) (argsL := []) (rest := []) (lenOf pd_8 rfl) rfl (by show 2 * 0 + _ ≤ _; exact Nat.le_of_eq rfl) (hb hby at_298) (fun _ _ => ⟨rfl, rfl, (by decide : 13 + 0 ≤ _), (by decide : 34710 + 0 ≤ _)⟩)
    dsimp only [Pt.U, Pt.locs, Pt.cells, Pt.slots] at X399 l399 y399 z399 st399 hQ399
    subst y399 z399
    obtain ⟨rfl, N399q, e399⟩ := hQ399
    have N399 : Fr n0 L399 := by rw [l399]; exact Fr.app N396 N399q
    have P401 : Rch p e below (s₁.setTop (entryFrame m #[(.int p1), (.int p2), (.int p3), (.int p4)] maxLocals)) (T399.setTop (mkF m 301 #[iv p1, iv p2, iv p3, iv p4, rv b2, rv pP_56, rv pP_100, rv b136, iv x155, rv b158, rv rs_286, rv b292, iv v353, iv v360, iv x369, iv v393, un] [(.int (own_ie (0 : Int32)))])) := fun t k => P398 t (st399.trans k)
    obtain ⟨x402, hx402⟩ : ∃ z : Int32, z = (own_ie (0 : Int32)) := ⟨_, rfl⟩
    rw [← hx402] at P401
    have P403 : Rch p e below (s₁.setTop (entryFrame m #[(.int p1), (.int p2), (.int p3), (.int p4)] maxLocals)) (T399.setTop (mkF m 307 #[iv p1, iv p2, iv p3, iv p4, rv b2, rv pP_56, rv pP_100, rv b136, iv x155, rv b158, rv rs_286, rv b292, iv v353, iv v360, iv x369, iv v393, iv x402] [(.int v353), (.int v360)])) := fun t k => P401 t (by
      show Steps p.tables e below (T399.setTop (mkF m 301 #[iv p1, iv p2, iv p3, iv p4, rv b2, rv pP_56, rv pP_100, rv b136, iv x155, rv b158, rv rs_286, rv b292, iv v353, iv v360, iv x369, iv v393, un] [(.int x402)])) t
      refine XS.istore X399.here hx rfl (hb hby at_301) rfl (l' := #[iv p1, iv p2, iv p3, iv p4, rv b2, rv pP_56, rv pP_100, rv b136, iv x155, rv b158, rv rs_286, rv b292, iv v353, iv v360, iv x369, iv v393, iv x402]) rfl ?_
      refine XS.iload X399.here hx rfl (hb hby at_303) rfl ?_
      refine XS.iload X399.here hx rfl (hb hby at_305) rfl ?_
      exact k)
    have hfl : v360 = v353 := by
      have hb7 := own_bits p1
      rw [← hx309, ← hx321, ← hx331] at hb7
      by_cases c7 : (p1 &&& (7 : Int32)) = (0 : Int32)
      · have q0 := hall_333.1 (hb7.mp c7)
        subst hv360 hx358 hv353 hx350; simp [c7, q0, own_ie]
      · have q0 := own_ie1 (hall_333.2 (fun q => c7 (hb7.mpr q)))
        subst hv360 hx358 hv353 hx350; simp [c7, q0]
    have P404 : Rch p e below (s₁.setTop (entryFrame m #[(.int p1), (.int p2), (.int p3), (.int p4)] maxLocals)) (T399.setTop (mkF m 312 #[iv p1, iv p2, iv p3, iv p4, rv b2, rv pP_56, rv pP_100, rv b136, iv x155, rv b158, rv rs_286, rv b292, iv v353, iv v360, iv x369, iv v393, iv x402] [(.int x369)])) := fun t k => P403 t (by
      show Steps p.tables e below (T399.setTop (mkF m 307 #[iv p1, iv p2, iv p3, iv p4, rv b2, rv pP_56, rv pP_100, rv b136, iv x155, rv b158, rv rs_286, rv b292, iv v353, iv v360, iv x369, iv v393, iv x402] [(.int v353), (.int v360)])) t
      refine XS.icmpNo X399.here hx rfl (hb hby at_307) rfl (teq hfl).2 ?_
      refine XS.iload X399.here hx rfl (hb hby at_310) rfl ?_
      exact k)
    have ho312 : ¬ (x369 = (0 : Int32)) := by
      rw [hx369]; decide
    have P405 : Rch p e below (s₁.setTop (entryFrame m #[(.int p1), (.int p2), (.int p3), (.int p4)] maxLocals)) (T399.setTop (mkF m 317 #[iv p1, iv p2, iv p3, iv p4, rv b2, rv pP_56, rv pP_100, rv b136, iv x155, rv b158, rv rs_286, rv b292, iv v353, iv v360, iv x369, iv v393, iv x402] [(.int v393)])) := fun t k => P404 t (by
      show Steps p.tables e below (T399.setTop (mkF m 312 #[iv p1, iv p2, iv p3, iv p4, rv b2, rv pP_56, rv pP_100, rv b136, iv x155, rv b158, rv rs_286, rv b292, iv v353, iv v360, iv x369, iv v393, iv x402] [(.int x369)])) t
      refine XS.ifNo X399.here hx rfl (hb hby at_312) rfl ((if0 _ _).trans (feq ho312).1) ?_
      refine XS.iload X399.here hx rfl (hb hby at_315) rfl ?_
      exact k)
    have ho317 : ¬ (v393 = (0 : Int32)) := by
      have q0 := own_ie1 hone_372; subst hv393 hx391; simp [q0]
    have P406 : Rch p e below (s₁.setTop (entryFrame m #[(.int p1), (.int p2), (.int p3), (.int p4)] maxLocals)) (T399.setTop (mkF m 322 #[iv p1, iv p2, iv p3, iv p4, rv b2, rv pP_56, rv pP_100, rv b136, iv x155, rv b158, rv rs_286, rv b292, iv v353, iv v360, iv x369, iv v393, iv x402] [(.int x402)])) := fun t k => P405 t (by
      show Steps p.tables e below (T399.setTop (mkF m 317 #[iv p1, iv p2, iv p3, iv p4, rv b2, rv pP_56, rv pP_100, rv b136, iv x155, rv b158, rv rs_286, rv b292, iv v353, iv v360, iv x369, iv v393, iv x402] [(.int v393)])) t
      refine XS.ifNo X399.here hx rfl (hb hby at_317) rfl ((if0 _ _).trans (feq ho317).1) ?_
      refine XS.iload X399.here hx rfl (hb hby at_320) rfl ?_
      exact k)
    have ho322 : ¬ (x402 = (0 : Int32)) := by
      rw [hx402]; decide
    have P407 : Rch p e below (s₁.setTop (entryFrame m #[(.int p1), (.int p2), (.int p3), (.int p4)] maxLocals)) (T399.setTop (mkF m 330 #[iv p1, iv p2, iv p3, iv p4, rv b2, rv pP_56, rv pP_100, rv b136, iv x155, rv b158, rv rs_286, rv b292, iv v353, iv v360, iv x369, iv v393, iv x402] [(.int (1 : Int32))])) := fun t k => P406 t (by
      show Steps p.tables e below (T399.setTop (mkF m 322 #[iv p1, iv p2, iv p3, iv p4, rv b2, rv pP_56, rv pP_100, rv b136, iv x155, rv b158, rv rs_286, rv b292, iv v353, iv v360, iv x369, iv v393, iv x402] [(.int x402)])) t
      refine XS.ifNo X399.here hx rfl (hb hby at_322) rfl ((if0 _ _).trans (feq ho322).1) ?_
      refine XS.iconst X399.here hx rfl (hb hby at_325) ?_
      refine XS.goto X399.here hx rfl (pc0 := 326) (pc' := 330) rfl (hb hby at_326) (by decide) (by decide) ?_
      exact k)
    obtain ⟨fs, hr, hrun, hended, hW, hsame⟩ := X399.leave (v := some (.int (1 : Int32))) (fun h => by rw [Bd.returns] at h; cases h)
    refine ⟨_, _, P407 _ ?_, hrun, hended, _, _, rfl, ?_, ⟨_, rfl⟩, hW, hsame.mono (by decide) (by decide)⟩
    · exact retN X399 hx (t := .boolean) Bd.returns (by simp) (hb hby at_330) hr
    · show Q_rm0 Z p1 p2 p3 p4 x_0 x_1 x_2 x_3 x_4 x_5 x_6 cs h0 n0 _ T399.heap _
      rw [e399]
      exact ⟨rfl, N399⟩
set_option maxRecDepth 65536 in
set_option maxHeartbeats 40000000 in
theorem comes_1 {Post : Tables → Env → Array Value → State → Outcome → State → Prop} (hpost : ∀ tb e args s v u, (limb_1_1.after args s (.returned v) u = true ∧ limb_1_2.after args s (.returned v) u = true ∧ True) → FrameEnd s (.returned v) u (Jvm.fieldLocs frame_1_writes args s ++ Jvm.arrayLocs frame_1_arrays args s ++ Jvm.staticLocs frame_1_statics s) 32 53120 → Post tb e args s (.returned v) u) :
    ArmFor flags0 classFile x code maxLocals ret World_1 tables_1 room_1 Calls_1 rest_1 Pre_1 Post := by
  intro l hfl _ _ p e ha hc hk s m args below hf hA hF happ hP
  obtain ⟨hcalls, hrest, hpre⟩ := hP
  obtain ⟨-, -, -, hnamed, -, -, -, hat⟩ := (Spec.applies_iff hf).mp happ
  obtain ⟨hg, hn⟩ := and_e (Cond.before_iff.mp (show (Jvm.Cond.and given_1 narrow_1).before args s = true from hpre))
  obtain ⟨gc, gr0⟩ := and_e hg
  obtain ⟨ga0, gr1⟩ := and_e gr0
  obtain ⟨ga1, gr2⟩ := and_e gr1
  obtain ⟨ga2, gr3⟩ := and_e gr2
  obtain ⟨w0, w1, w2, w3, rfl⟩ : ∃ w0 w1 w2 w3 : Value, args = #[w0, w1, w2, w3] := by
    have hs : args.size = 4 := by simpa [Cond.value, given_1] using gc
    obtain ⟨L⟩ := args
    match L, hs with
    | [w0, w1, w2, w3], _ => exact ⟨w0, w1, w2, w3, rfl⟩
  have hw := fun d (hd : d ∈ tables_1) => atoms_spec (ws := Jvm.Cond.code x code maxLocals ret :: tables_1) hat d (List.mem_cons_of_mem _ hd)
  have hfit : Fit s := fun {y c} hc i hi => by
    obtain ⟨ha, rfl⟩ := Array.getElem?_eq_some_iff.mp hc
    have q := List.all_eq_true.mp ((Array.all_eq_true_iff_forall_mem.mp hF) _ (Array.getElem_mem ha)) i (List.mem_range.mpr hi)
    simpa [Array.getElem?_eq_getElem hi] using q
  obtain ⟨hsets, hown0⟩ := atoms_of _ (rest_1_c_eq ▸ (show rest_1_c.before _ s = true from hrest))
  have hr0 := Cond.before_iff.mp hown0
  obtain ⟨i0, ei0⟩ := is_v ga0
  obtain rfl : w0 = (.int i0) := Option.some.inj ei0
  obtain ⟨i1, ei1⟩ := is_v ga1
  obtain rfl : w1 = (.int i1) := Option.some.inj ei1
  obtain ⟨i2, ei2⟩ := is_v ga2
  obtain rfl : w2 = (.int i2) := Option.some.inj ei2
  obtain ⟨i3, ei3⟩ := is_v gr3
  obtain rfl : w3 = (.int i3) := Option.some.inj ei3
  obtain ⟨m0, mr0⟩ := and_e hn
  obtain ⟨m1, mr1⟩ := and_e mr0
  obtain ⟨m2, mr2⟩ := and_e mr1
  obtain ⟨m3, mr3⟩ := and_e mr2
  obtain ⟨m4, mr4⟩ := and_e mr3
  obtain ⟨m5, mr5⟩ := and_e mr4
  obtain ⟨m6, mr6⟩ := and_e mr5
  obtain ⟨x_0, v_0⟩ := exa_v m0
  have S_0 : Sta s s.heap "com/example/rideau/rideau/internal/HeldText$Piece" "CHARACTERS" "Lcom/example/rideau/rideau/internal/HeldText$Piece;" (.ref x_0) := Sta.start v_0 (Or.inr ⟨(hw _ (List.mem_of_getElem? (i := 3) rfl)), (hw _ (List.mem_of_getElem? (i := 4) rfl))⟩)
  have Ex_0 := Exa.start v_0 m0
  obtain ⟨x_1, v_1⟩ := exa_v m1
  have S_1 : Sta s s.heap "com/example/rideau/rideau/internal/HeldText$Piece" "IGNORABLE_WHITESPACE" "Lcom/example/rideau/rideau/internal/HeldText$Piece;" (.ref x_1) := Sta.start v_1 (Or.inr ⟨(hw _ (List.mem_of_getElem? (i := 3) rfl)), (hw _ (List.mem_of_getElem? (i := 7) rfl))⟩)
  have Ex_1 := Exa.start v_1 m1
  obtain ⟨x_2, v_2⟩ := exa_v m2
  have S_2 : Sta s s.heap "com/example/rideau/rideau/internal/HeldText$Piece" "START_CDATA" "Lcom/example/rideau/rideau/internal/HeldText$Piece;" (.ref x_2) := Sta.start v_2 (Or.inr ⟨(hw _ (List.mem_of_getElem? (i := 3) rfl)), (hw _ (List.mem_of_getElem? (i := 9) rfl))⟩)
  have Ex_2 := Exa.start v_2 m2
  obtain ⟨x_3, v_3⟩ := exa_v m3
  have S_3 : Sta s s.heap "com/example/rideau/rideau/internal/HeldText$Piece" "END_CDATA" "Lcom/example/rideau/rideau/internal/HeldText$Piece;" (.ref x_3) := Sta.start v_3 (Or.inr ⟨(hw _ (List.mem_of_getElem? (i := 3) rfl)), (hw _ (List.mem_of_getElem? (i := 11) rfl))⟩)
  have Ex_3 := Exa.start v_3 m3
  obtain ⟨x_4, v_4⟩ := exa_v m4
  have S_4 : Sta s s.heap "com/example/rideau/rideau/internal/HeldText$Piece" "START_ENTITY" "Lcom/example/rideau/rideau/internal/HeldText$Piece;" (.ref x_4) := Sta.start v_4 (Or.inr ⟨(hw _ (List.mem_of_getElem? (i := 3) rfl)), (hw _ (List.mem_of_getElem? (i := 13) rfl))⟩)
  have Ex_4 := Exa.start v_4 m4
  obtain ⟨x_5, v_5⟩ := exa_v m5
  have S_5 : Sta s s.heap "com/example/rideau/rideau/internal/HeldText$Piece" "END_ENTITY" "Lcom/example/rideau/rideau/internal/HeldText$Piece;" (.ref x_5) := Sta.start v_5 (Or.inr ⟨(hw _ (List.mem_of_getElem? (i := 3) rfl)), (hw _ (List.mem_of_getElem? (i := 15) rfl))⟩)
  have Ex_5 := Exa.start v_5 m5
  obtain ⟨x_6, v_6⟩ := exa_v m6
  have S_6 : Sta s s.heap "com/example/rideau/rideau/internal/HeldText$Piece" "SKIPPED_ENTITY" "Lcom/example/rideau/rideau/internal/HeldText$Piece;" (.ref x_6) := Sta.start v_6 (Or.inr ⟨(hw _ (List.mem_of_getElem? (i := 3) rfl)), (hw _ (List.mem_of_getElem? (i := 17) rfl))⟩)
  have Ex_6 := Exa.start v_6 m6
  obtain ⟨cs, vcs⟩ := is_v (Cond.before_iff.mp (hsets _ (List.mem_of_getElem? (i := 1) rfl)))
  have SC : Sta s s.heap "java/lang/String" "COMPACT_STRINGS" "Z" (.int cs) := Sta.start vcs (Or.inl (hsets _ (List.mem_of_getElem? (i := 0) rfl)))
  have hcs : ¬ (cs = (0 : Int32)) := by
    have q := not_v (Cond.before_iff.mp (hsets _ (List.mem_of_getElem? (i := 2) rfl)))
    rintro rfl
    obtain ⟨u_, w_, k1, k2, -, -⟩ := cmp_v (Or.inl q)
    have e2 : w_ = .int 0 := by simpa [Term.eval] using k2.symm
    subst e2
    rw [vcs] at k1
    cases k1
    simp [Cond.value, vcs, k2] at q
  obtain ⟨n, o, h1, h2, h3, _, L, rfl, ⟨rfl, N⟩, hq⟩ := rm0 l s _ hw tables_1 i0 i1 i2 i3 x_0 x_1 x_2 x_3 x_4 x_5 x_6 cs s.heap s.heap.size (Nat.le_refl _) (Old.start s) S_0 S_1 S_2 S_3 S_4 S_5 S_6 Ex_0 Ex_1 Ex_2 Ex_3 Ex_4 Ex_5 Ex_6 SC hcs p e ha hc hk s m _ below hf ((Spec.applies_iff_loose hf).mp happ).1 ⟨rfl, State.Warmed39.refl s, rfl⟩ trivial
  refine ⟨n, _, h1, h2, h3, hpost _ _ _ _ _ _ ⟨Cond.after_iff.mpr rfl, Cond.after_iff.mpr (eq_i res_at (Term.int_eval (1)) rfl), trivial⟩ ⟨hq.1, hq.2.1, (hq.2.2.sift fun y hy => Or.inr (N y hy)).mono (by decide) (by decide)⟩⟩
theorem main_1_1 : Claimed_1_1 := comes_1 fun _ _ _ _ _ _ h hF => ⟨h.1, hF⟩
theorem main_1_2 : Claimed_1_2 := comes_1 fun _ _ _ _ _ _ h hF => ⟨h.2.1, hF⟩
end Jvm.Pilot.@@N@@
namespace Jvm.Pilot.@@N@@
open Jvm Jvm.ClassFile Sem Op Lib Jvm.Free Jvm.Stand Jvm.Pilot.@@N@@.Jvm.D
/-! MADE BY PROGRAM (witnessworld.py) out of the Statement's table words and the real class files: 26 classes; the members and pool entries that the words name. The judged class is class 1, her method 1. -/
namespace start1
open Jvm.ClassFile
def u (s : String) : CpInfo := .utf8 (stringToUtf16 s)
/-- a pool by its gaps: so many unusable entries, then the entry; so many at the end -/
def gap : Nat → List CpInfo → List CpInfo
  | 0, r => r
  | n + 1, r => .unusable :: gap n r
def poolList (es : List (Nat × CpInfo)) (last : Nat) : List CpInfo := es.foldr (fun e r => gap e.1 (e.2 :: r)) (gap last [])
def pool (es : List (Nat × CpInfo)) (last : Nat) : Array CpInfo := ⟨poolList es last⟩
def fileOf (pool : Array CpInfo) (this : Nat) (attrs : Array Attribute := #[]) (ms : Array MethodInfo := #[]) (fl : Nat := 33) (sup : Nat := 0) (ifs : Array Nat := #[]) (fds : Array FieldInfo := #[]) : ClassFile where
  minorVersion := 0
  majorVersion := 65
  constantPool := pool
  accessFlags := fl
  thisClass := this
  superClass := sup
  interfaces := ifs
  fields := fds
  methods := ms
  attributes := attrs
def plain (name : String) (sup : Option ClassId) : Class where
  name := name
  kind := .ordinary
  loader := none
  accessFlags := 33
  super := sup
  interfaces := #[]
  cf := none
  fields := #[]
  methods := #[]
  instanceTypes := #[]
  staticTypes := #[]
  resolved := #[]
  callSites := []
  init := .initialized
  statics := none
  mirror := none

def pool0 : Array CpInfo := pool [(5, u "<init>"), (0, u "()V"), (1, .class_ 10), (1, u "java/lang/Object")] 113

def k0c0 : Code := { maxStack := 0, maxLocals := 1, code := object_method_1_code, exceptionTable := #[], attributes := #[] }
def k0m0 : Method := { name := "<init>", desc := "()V", sig := { parameters := [], returnType := none }, accessFlags := 1, code := some k0c0 }
/-- java/lang/Object -/
def k0 : Class := { plain "java/lang/Object" none with
  accessFlags := 33
  interfaces := #[]
  cf := some (fileOf pool0 8 #[] #[{ accessFlags := 1, nameIndex := 5, descriptorIndex := 6, attributes := #[] }] 33 0 #[] #[])
  fields := #[]
  methods := #[k0m0]
  instanceTypes := #[]
  staticTypes := #[]
  resolved := Array.replicate 124 none
  statics := none }

def pool1 : Array CpInfo := pool [(2, .class_ 4), (0, .nameAndType 5 6), (0, u "java/lang/Object"), (0, u "<init>"), (0, u "()V"), (0, .class_ 8), (0, u "com/example/rideau/rideau/internal/HeldText$Piece"), (0, .fieldref 7 10), (0, .nameAndType 11 12), (0, u "CHARACTERS"), (0, u "Lcom/example/rideau/rideau/internal/HeldText$Piece;"), (0, .fieldref 7 14), (0, .nameAndType 15 12), (0, u "IGNORABLE_WHITESPACE"), (0, .fieldref 7 17), (0, .nameAndType 18 12), (0, u "START_CDATA"), (0, .fieldref 7 20), (0, .nameAndType 21 12), (0, u "END_CDATA"), (0, .fieldref 7 23), (0, .nameAndType 24 12), (0, u "START_ENTITY"), (0, .fieldref 7 26), (0, .nameAndType 27 12), (0, u "END_ENTITY"), (0, .fieldref 7 29), (0, .nameAndType 30 12), (0, u "SKIPPED_ENTITY"), (0, .integer 2147483647), (0, .integer 65535), (0, .methodref 34 35), (0, .class_ 36), (0, .nameAndType 37 38), (0, u "java/lang/String"), (0, u "valueOf"), (0, u "(C)Ljava/lang/String;"), (0, .class_ 40), (0, u "com/example/rideau/rideau/internal/HeldText"), (0, .methodref 39 3), (0, .methodref 39 43), (0, .nameAndType 44 45), (0, u "text"), (0, u "(Lcom/example/rideau/rideau/internal/HeldText$Piece;[CII)V"), (0, .methodref 39 47), (0, .nameAndType 48 49), (0, u "add"), (0, u "(Lcom/example/rideau/rideau/internal/HeldText$Piece;Ljava/lang/String;)V"), (0, .methodref 39 51), (0, .nameAndType 52 53), (0, u "isEmpty"), (0, u "()Z"), (0, .methodref 39 55), (0, .nameAndType 56 6), (0, u "clear"), (0, .class_ 58), (0, u "com/example/rideau/rideau/internal/HeldTextClearPinLaw"), (2, u "law"), (0, u "(IIII)Z")] 9

def k1m0 : Method := { name := "<init>", desc := "()V", sig := { parameters := [], returnType := none }, accessFlags := 1, code := none }
def k1c1 : Code := { maxStack := 5, maxLocals := 17, code := code, exceptionTable := #[], attributes := #[] }
def k1m1 : Method := { name := "law", desc := "(IIII)Z", sig := { parameters := [.int, .int, .int, .int], returnType := some .boolean }, accessFlags := 9, code := some k1c1 }
/-- com/example/rideau/rideau/internal/HeldTextClearPinLaw -/
def k1 : Class := { plain "com/example/rideau/rideau/internal/HeldTextClearPinLaw" (some 0) with
  accessFlags := 49
  interfaces := #[]
  cf := some (fileOf pool1 57 #[] #[{ accessFlags := 1, nameIndex := 5, descriptorIndex := 6, attributes := #[] }, { accessFlags := 9, nameIndex := 61, descriptorIndex := 62, attributes := #[] }] 49 2 #[] #[])
  fields := #[]
  methods := #[k1m0, k1m1]
  instanceTypes := #[]
  staticTypes := #[]
  resolved := Array.replicate 72 none
  statics := none }

def pool2 : Array CpInfo := pool [(1, .class_ 2), (0, u "java/lang/constant/Constable"), (0, .class_ 4), (0, u "java/lang/Object")] 6

/-- java/lang/constant/Constable -/
def k2 : Class := { plain "java/lang/constant/Constable" (some 0) with
  accessFlags := 1537
  interfaces := #[]
  cf := some (fileOf pool2 1 #[] #[] 1537 3 #[] #[])
  fields := #[]
  methods := #[]
  instanceTypes := #[]
  staticTypes := #[]
  resolved := Array.replicate 11 none
  statics := none }

def pool3 : Array CpInfo := pool [(1, .class_ 2), (0, u "java/lang/Comparable"), (0, .class_ 4), (0, u "java/lang/Object")] 7

/-- java/lang/Comparable -/
def k3 : Class := { plain "java/lang/Comparable" (some 0) with
  accessFlags := 1537
  interfaces := #[]
  cf := some (fileOf pool3 1 #[] #[] 1537 3 #[] #[])
  fields := #[]
  methods := #[]
  instanceTypes := #[]
  staticTypes := #[]
  resolved := Array.replicate 12 none
  statics := none }

def pool4 : Array CpInfo := pool [(1, .class_ 2), (0, u "java/io/Serializable"), (0, .class_ 4), (0, u "java/lang/Object")] 2

/-- java/io/Serializable -/
def k4 : Class := { plain "java/io/Serializable" (some 0) with
  accessFlags := 1537
  interfaces := #[]
  cf := some (fileOf pool4 1 #[] #[] 1537 3 #[] #[])
  fields := #[]
  methods := #[]
  instanceTypes := #[]
  staticTypes := #[]
  resolved := Array.replicate 7 none
  statics := none }

def pool5 : Array CpInfo := pool [(2, .class_ 4), (1, u "java/lang/Enum"), (0, u "name"), (0, u "Ljava/lang/String;"), (2, u "ordinal"), (0, u "I"), (1, .class_ 14), (1, u "java/lang/Object"), (4, u "hash"), (86, .class_ 108), (1, u "java/lang/Enum$EnumDesc"), (2, .class_ 112), (0, u "java/lang/constant/Constable"), (0, .class_ 114), (0, u "java/lang/Comparable"), (0, .class_ 116), (0, u "java/io/Serializable")] 87

/-- java/lang/Enum -/
def k5 : Class := { plain "java/lang/Enum" (some 0) with
  accessFlags := 1057
  interfaces := #[2, 3, 4]
  cf := some (fileOf pool5 2 #[.nestMembers #[106]] #[] 1057 12 #[111, 113, 115] #[{ accessFlags := 18, nameIndex := 5, descriptorIndex := 6, attributes := #[] }, { accessFlags := 18, nameIndex := 9, descriptorIndex := 10, attributes := #[] }, { accessFlags := 2, nameIndex := 19, descriptorIndex := 10, attributes := #[] }])
  fields := #[{ name := "name", type := (.object "java/lang/String"), accessFlags := 18, slot := 0, constantValue := 0 }, { name := "ordinal", type := .int, accessFlags := 18, slot := 1, constantValue := 0 }, { name := "hash", type := .int, accessFlags := 2, slot := 2, constantValue := 0 }]
  methods := #[]
  instanceTypes := #[(.object "java/lang/String"), .int, .int]
  staticTypes := #[]
  resolved := Array.replicate 204 none
  statics := none }

def pool6 : Array CpInfo := pool [(1, .class_ 2), (0, u "com/example/rideau/rideau/internal/HeldText$Piece"), (2, u "CHARACTERS"), (0, u "Lcom/example/rideau/rideau/internal/HeldText$Piece;"), (2, u "IGNORABLE_WHITESPACE"), (2, u "START_CDATA"), (2, u "END_CDATA"), (2, u "START_ENTITY"), (2, u "END_ENTITY"), (2, u "SKIPPED_ENTITY"), (2, u "$VALUES"), (0, u "[Lcom/example/rideau/rideau/internal/HeldText$Piece;"), (6, .class_ 37), (1, u "java/lang/Enum"), (30, .class_ 69), (0, u "com/example/rideau/rideau/internal/HeldText")] 2

/-- com/example/rideau/rideau/internal/HeldText$Piece -/
def k6 : Class := { plain "com/example/rideau/rideau/internal/HeldText$Piece" (some 5) with
  accessFlags := 16433
  interfaces := #[]
  cf := some (fileOf pool6 1 #[.nestHost 68] #[] 16433 35 #[] #[{ accessFlags := 16409, nameIndex := 5, descriptorIndex := 6, attributes := #[] }, { accessFlags := 16409, nameIndex := 9, descriptorIndex := 6, attributes := #[] }, { accessFlags := 16409, nameIndex := 12, descriptorIndex := 6, attributes := #[] }, { accessFlags := 16409, nameIndex := 15, descriptorIndex := 6, attributes := #[] }, { accessFlags := 16409, nameIndex := 18, descriptorIndex := 6, attributes := #[] }, { accessFlags := 16409, nameIndex := 21, descriptorIndex := 6, attributes := #[] }, { accessFlags := 16409, nameIndex := 24, descriptorIndex := 6, attributes := #[] }, { accessFlags := 4122, nameIndex := 27, descriptorIndex := 28, attributes := #[] }])
  fields := #[{ name := "CHARACTERS", type := (.object "com/example/rideau/rideau/internal/HeldText$Piece"), accessFlags := 16409, slot := 0, constantValue := 0 }, { name := "IGNORABLE_WHITESPACE", type := (.object "com/example/rideau/rideau/internal/HeldText$Piece"), accessFlags := 16409, slot := 1, constantValue := 0 }, { name := "START_CDATA", type := (.object "com/example/rideau/rideau/internal/HeldText$Piece"), accessFlags := 16409, slot := 2, constantValue := 0 }, { name := "END_CDATA", type := (.object "com/example/rideau/rideau/internal/HeldText$Piece"), accessFlags := 16409, slot := 3, constantValue := 0 }, { name := "START_ENTITY", type := (.object "com/example/rideau/rideau/internal/HeldText$Piece"), accessFlags := 16409, slot := 4, constantValue := 0 }, { name := "END_ENTITY", type := (.object "com/example/rideau/rideau/internal/HeldText$Piece"), accessFlags := 16409, slot := 5, constantValue := 0 }, { name := "SKIPPED_ENTITY", type := (.object "com/example/rideau/rideau/internal/HeldText$Piece"), accessFlags := 16409, slot := 6, constantValue := 0 }, { name := "$VALUES", type := (.array (.object "com/example/rideau/rideau/internal/HeldText$Piece")), accessFlags := 4122, slot := 7, constantValue := 0 }]
  methods := #[]
  instanceTypes := #[(.object "java/lang/String"), .int, .int]
  staticTypes := #[(.object "com/example/rideau/rideau/internal/HeldText$Piece"), (.object "com/example/rideau/rideau/internal/HeldText$Piece"), (.object "com/example/rideau/rideau/internal/HeldText$Piece"), (.object "com/example/rideau/rideau/internal/HeldText$Piece"), (.object "com/example/rideau/rideau/internal/HeldText$Piece"), (.object "com/example/rideau/rideau/internal/HeldText$Piece"), (.object "com/example/rideau/rideau/internal/HeldText$Piece"), (.array (.object "com/example/rideau/rideau/internal/HeldText$Piece"))]
  resolved := Array.replicate 72 none
  statics := some 0 }

def pool7 : Array CpInfo := pool [(1, .methodref 2 3), (0, .class_ 4), (0, .nameAndType 5 6), (0, u "java/lang/Object"), (0, u "<init>"), (0, u "()V"), (0, .fieldref 8 9), (0, .class_ 10), (0, .nameAndType 11 12), (0, u "com/example/rideau/rideau/internal/HeldText"), (0, u "chars"), (0, u "[C"), (0, .class_ 14), (0, u "com/example/rideau/rideau/internal/HeldText$Piece"), (0, .fieldref 8 16), (0, .nameAndType 17 18), (0, u "pieces"), (0, u "[Lcom/example/rideau/rideau/internal/HeldText$Piece;"), (0, .fieldref 8 20), (0, .nameAndType 21 22), (0, u "ends"), (0, u "[I"), (0, .class_ 24), (0, u "java/lang/String"), (0, .fieldref 8 26), (0, .nameAndType 27 28), (0, u "names"), (0, u "[Ljava/lang/String;"), (0, .fieldref 8 30), (0, .nameAndType 31 32), (0, u "size"), (0, u "I"), (0, .fieldref 8 34), (0, .nameAndType 35 32), (0, u "length"), (0, .methodref 37 38), (0, .class_ 39), (0, .nameAndType 40 41), (0, u "java/lang/Math"), (0, u "max"), (0, u "(II)I"), (0, .methodref 43 44), (0, .class_ 45), (0, .nameAndType 46 47), (0, u "java/util/Arrays"), (0, u "copyOf"), (0, u "([CI)[C"), (0, .methodref 49 50), (0, .class_ 51), (0, .nameAndType 52 53), (0, u "java/lang/System"), (0, u "arraycopy"), (0, u "(Ljava/lang/Object;ILjava/lang/Object;II)V"), (0, .methodref 8 55), (0, .nameAndType 56 57), (0, u "add"), (0, u "(Lcom/example/rideau/rideau/internal/HeldText$Piece;Ljava/lang/String;)V"), (33, u "clear"), (24, u "KEPT_SIZE"), (4, u "isEmpty"), (0, u "()Z"), (1, u "text"), (0, u "(Lcom/example/rideau/rideau/internal/HeldText$Piece;[CII)V")] 28

def k7c0 : Code := { maxStack := 2, maxLocals := 1, code := prog_17_method_1_code, exceptionTable := #[], attributes := #[] }
def k7m0 : Method := { name := "<init>", desc := "()V", sig := { parameters := [], returnType := none }, accessFlags := 1, code := some k7c0 }
def k7c1 : Code := { maxStack := 1, maxLocals := 1, code := prog_17_method_2_code, exceptionTable := #[], attributes := #[] }
def k7m1 : Method := { name := "isEmpty", desc := "()Z", sig := { parameters := [], returnType := some .boolean }, accessFlags := 1, code := some k7c1 }
def k7c2 : Code := { maxStack := 5, maxLocals := 5, code := prog_17_method_3_code, exceptionTable := #[], attributes := #[] }
def k7m2 : Method := { name := "text", desc := "(Lcom/example/rideau/rideau/internal/HeldText$Piece;[CII)V", sig := { parameters := [(.object "com/example/rideau/rideau/internal/HeldText$Piece"), (.array .char), .int, .int], returnType := none }, accessFlags := 1, code := some k7c2 }
def k7c3 : Code := { maxStack := 4, maxLocals := 3, code := prog_17_method_4_code, exceptionTable := #[], attributes := #[] }
def k7m3 : Method := { name := "add", desc := "(Lcom/example/rideau/rideau/internal/HeldText$Piece;Ljava/lang/String;)V", sig := { parameters := [(.object "com/example/rideau/rideau/internal/HeldText$Piece"), (.object "java/lang/String")], returnType := none }, accessFlags := 1, code := some k7c3 }
def k7c4 : Code := { maxStack := 2, maxLocals := 1, code := prog_17_method_7_code, exceptionTable := #[], attributes := #[] }
def k7m4 : Method := { name := "clear", desc := "()V", sig := { parameters := [], returnType := none }, accessFlags := 1, code := some k7c4 }
/-- com/example/rideau/rideau/internal/HeldText -/
def k7 : Class := { plain "com/example/rideau/rideau/internal/HeldText" (some 0) with
  accessFlags := 49
  interfaces := #[]
  cf := some (fileOf pool7 8 #[.nestMembers #[13]] #[{ accessFlags := 1, nameIndex := 5, descriptorIndex := 6, attributes := #[] }, { accessFlags := 1, nameIndex := 121, descriptorIndex := 122, attributes := #[] }, { accessFlags := 1, nameIndex := 124, descriptorIndex := 125, attributes := #[] }, { accessFlags := 1, nameIndex := 56, descriptorIndex := 57, attributes := #[] }, { accessFlags := 1, nameIndex := 91, descriptorIndex := 6, attributes := #[] }] 49 2 #[] #[{ accessFlags := 26, nameIndex := 116, descriptorIndex := 32, attributes := #[] }, { accessFlags := 2, nameIndex := 11, descriptorIndex := 12, attributes := #[] }, { accessFlags := 2, nameIndex := 35, descriptorIndex := 32, attributes := #[] }, { accessFlags := 2, nameIndex := 17, descriptorIndex := 18, attributes := #[] }, { accessFlags := 2, nameIndex := 21, descriptorIndex := 22, attributes := #[] }, { accessFlags := 2, nameIndex := 27, descriptorIndex := 28, attributes := #[] }, { accessFlags := 2, nameIndex := 31, descriptorIndex := 32, attributes := #[] }])
  fields := #[{ name := "KEPT_SIZE", type := .int, accessFlags := 26, slot := 0, constantValue := 0 }, { name := "chars", type := (.array .char), accessFlags := 2, slot := 0, constantValue := 0 }, { name := "length", type := .int, accessFlags := 2, slot := 1, constantValue := 0 }, { name := "pieces", type := (.array (.object "com/example/rideau/rideau/internal/HeldText$Piece")), accessFlags := 2, slot := 2, constantValue := 0 }, { name := "ends", type := (.array .int), accessFlags := 2, slot := 3, constantValue := 0 }, { name := "names", type := (.array (.object "java/lang/String")), accessFlags := 2, slot := 4, constantValue := 0 }, { name := "size", type := .int, accessFlags := 2, slot := 5, constantValue := 0 }]
  methods := #[k7m0, k7m1, k7m2, k7m3, k7m4]
  instanceTypes := #[(.array .char), .int, (.array (.object "com/example/rideau/rideau/internal/HeldText$Piece")), (.array .int), (.array (.object "java/lang/String")), .int]
  staticTypes := #[.int]
  resolved := Array.replicate 154 none
  statics := none }

def pool8 : Array CpInfo := pool [(2, .class_ 4), (1, u "java/lang/CharSequence"), (42, .class_ 48), (0, u "java/lang/CharSequence$1CodePointIterator"), (10, .class_ 60), (0, u "java/lang/CharSequence$1CharIterator"), (5, .class_ 67), (0, u "java/lang/Object")] 63

/-- java/lang/CharSequence -/
def k8 : Class := { plain "java/lang/CharSequence" (some 0) with
  accessFlags := 1537
  interfaces := #[]
  cf := some (fileOf pool8 2 #[.nestMembers #[47, 59]] #[] 1537 66 #[] #[])
  fields := #[]
  methods := #[]
  instanceTypes := #[]
  staticTypes := #[]
  resolved := Array.replicate 131 none
  statics := none }

def pool9 : Array CpInfo := pool [(1, .class_ 2), (0, u "java/lang/constant/ConstantDesc"), (0, .class_ 4), (0, u "java/lang/Object")] 32

/-- java/lang/constant/ConstantDesc -/
def k9 : Class := { plain "java/lang/constant/ConstantDesc" (some 0) with
  accessFlags := 1537
  interfaces := #[]
  cf := some (fileOf pool9 1 #[] #[] 1537 3 #[] #[])
  fields := #[]
  methods := #[]
  instanceTypes := #[]
  staticTypes := #[]
  resolved := Array.replicate 37 none
  statics := none }

def pool10 : Array CpInfo := pool [(1, .methodref 2 3), (0, .class_ 4), (0, .nameAndType 5 6), (0, u "java/lang/Object"), (0, u "<init>"), (0, u "()V"), (2, .fieldref 10 11), (0, .class_ 12), (0, .nameAndType 13 14), (0, u "java/lang/String"), (0, u "value"), (0, u "[B"), (0, .fieldref 10 16), (0, .nameAndType 17 18), (0, u "coder"), (0, u "B"), (2, u "hash"), (0, u "I"), (2, u "hashIsZero"), (0, u "Z"), (11, .fieldref 10 39), (0, .nameAndType 40 26), (0, u "COMPACT_STRINGS"), (12, u "toBytes"), (53, .class_ 109), (1, u "java/lang/StringLatin1"), (99, .methodref 10 210), (0, .nameAndType 5 211), (0, u "([BB)V"), (157, u "(C)Z"), (205, .class_ 576), (0, u "java/lang/CharSequence"), (22, u "CASE_INSENSITIVE_ORDER"), (0, u "Ljava/util/Comparator;"), (181, u "valueOf"), (0, u "(C)Ljava/lang/String;"), (231, .methodref 107 1016), (0, .nameAndType 1017 369), (0, u "canEncode"), (0, .methodref 107 1019), (0, .nameAndType 53 1020), (0, u "(C)[B"), (80, u "serialPersistentFields"), (0, u "[Ljava/io/ObjectStreamField;"), (0, .class_ 1104), (0, u "java/lang/String$CaseInsensitiveComparator"), (1, .class_ 1107), (0, u "java/io/Serializable"), (0, .class_ 1109), (0, u "java/lang/Comparable"), (0, .class_ 1111), (0, u "java/lang/constant/Constable"), (0, .class_ 1113), (0, u "java/lang/constant/ConstantDesc"), (2, u "serialVersionUID"), (0, u "J"), (3, u "REPL"), (0, u "C"), (2, u "LATIN1"), (1, u "UTF16")] 323

def k10m0 : Method := { name := "<init>", desc := "()V", sig := { parameters := [], returnType := none }, accessFlags := 1, code := none }
def k10c1 : Code := { maxStack := 4, maxLocals := 1, code := jdk_42_method_139_code, exceptionTable := #[], attributes := #[] }
def k10m1 : Method := { name := "valueOf", desc := "(C)Ljava/lang/String;", sig := { parameters := [.char], returnType := some (.object "java/lang/String") }, accessFlags := 9, code := some k10c1 }
def k10c2 : Code := { maxStack := 2, maxLocals := 3, code := jdk_42_method_151_code, exceptionTable := #[], attributes := #[] }
def k10m2 : Method := { name := "<init>", desc := "([BB)V", sig := { parameters := [(.array .byte), .byte], returnType := none }, accessFlags := 0, code := some k10c2 }
/-- java/lang/String -/
def k10 : Class := { plain "java/lang/String" (some 0) with
  accessFlags := 49
  interfaces := #[4, 3, 8, 2, 9]
  cf := some (fileOf pool10 10 #[.nestMembers #[1103]] #[{ accessFlags := 1, nameIndex := 5, descriptorIndex := 6, attributes := #[] }, { accessFlags := 9, nameIndex := 782, descriptorIndex := 783, attributes := #[] }, { accessFlags := 0, nameIndex := 5, descriptorIndex := 211, attributes := #[] }] 49 2 #[1106, 1108, 575, 1110, 1112] #[{ accessFlags := 18, nameIndex := 13, descriptorIndex := 14, attributes := #[] }, { accessFlags := 18, nameIndex := 17, descriptorIndex := 18, attributes := #[] }, { accessFlags := 2, nameIndex := 21, descriptorIndex := 22, attributes := #[] }, { accessFlags := 2, nameIndex := 25, descriptorIndex := 26, attributes := #[] }, { accessFlags := 26, nameIndex := 1116, descriptorIndex := 1117, attributes := #[] }, { accessFlags := 24, nameIndex := 40, descriptorIndex := 26, attributes := #[] }, { accessFlags := 26, nameIndex := 1101, descriptorIndex := 1102, attributes := #[] }, { accessFlags := 26, nameIndex := 1121, descriptorIndex := 1122, attributes := #[] }, { accessFlags := 25, nameIndex := 599, descriptorIndex := 600, attributes := #[] }, { accessFlags := 24, nameIndex := 1125, descriptorIndex := 18, attributes := #[] }, { accessFlags := 24, nameIndex := 1127, descriptorIndex := 18, attributes := #[] }])
  fields := #[{ name := "value", type := (.array .byte), accessFlags := 18, slot := 0, constantValue := 0 }, { name := "coder", type := .byte, accessFlags := 18, slot := 1, constantValue := 0 }, { name := "hash", type := .int, accessFlags := 2, slot := 2, constantValue := 0 }, { name := "hashIsZero", type := .boolean, accessFlags := 2, slot := 3, constantValue := 0 }, { name := "serialVersionUID", type := .long, accessFlags := 26, slot := 0, constantValue := 0 }, { name := "COMPACT_STRINGS", type := .boolean, accessFlags := 24, slot := 1, constantValue := 0 }, { name := "serialPersistentFields", type := (.array (.object "java/io/ObjectStreamField")), accessFlags := 26, slot := 2, constantValue := 0 }, { name := "REPL", type := .char, accessFlags := 26, slot := 3, constantValue := 0 }, { name := "CASE_INSENSITIVE_ORDER", type := (.object "java/util/Comparator"), accessFlags := 25, slot := 4, constantValue := 0 }, { name := "LATIN1", type := .byte, accessFlags := 24, slot := 5, constantValue := 0 }, { name := "UTF16", type := .byte, accessFlags := 24, slot := 6, constantValue := 0 }]
  methods := #[k10m0, k10m1, k10m2]
  instanceTypes := #[(.array .byte), .byte, .int, .boolean]
  staticTypes := #[.long, .boolean, (.array (.object "java/io/ObjectStreamField")), .char, (.object "java/util/Comparator"), .byte, .byte]
  resolved := Array.replicate 1451 none
  statics := some 1 }

def pool11 : Array CpInfo := pool [(1, .class_ 2), (0, u "java/lang/Math"), (1, .class_ 6), (1, u "java/lang/Object"), (0, u "<init>"), (0, u "()V"), (89, .class_ 100), (1, u "java/lang/Math$RandomNumberGeneratorHolder"), (71, u "negativeZeroFloatBits"), (0, u "J"), (2, u "negativeZeroDoubleBits"), (21, u "max"), (2, u "min"), (43, u "$assertionsDisabled"), (0, u "Z"), (88, u "(II)I"), (2, u "twoToTheDoubleScaleDown"), (0, u "D"), (4, u "twoToTheDoubleScaleUp"), (9, u "E"), (3, u "PI"), (2, u "TAU"), (2, u "DEGREES_TO_RADIANS"), (0, u "RADIANS_TO_DEGREES")] 94

def k11m0 : Method := { name := "<init>", desc := "()V", sig := { parameters := [], returnType := none }, accessFlags := 2, code := none }
def k11c1 : Code := { maxStack := 2, maxLocals := 2, code := jdk_29_method_65_code, exceptionTable := #[], attributes := #[] }
def k11m1 : Method := { name := "max", desc := "(II)I", sig := { parameters := [.int, .int], returnType := some .int }, accessFlags := 9, code := some k11c1 }
def k11c2 : Code := { maxStack := 2, maxLocals := 2, code := jdk_29_method_69_code, exceptionTable := #[], attributes := #[] }
def k11m2 : Method := { name := "min", desc := "(II)I", sig := { parameters := [.int, .int], returnType := some .int }, accessFlags := 9, code := some k11c2 }
/-- java/lang/Math -/
def k11 : Class := { plain "java/lang/Math" (some 0) with
  accessFlags := 49
  interfaces := #[]
  cf := some (fileOf pool11 1 #[.nestMembers #[98]] #[{ accessFlags := 2, nameIndex := 7, descriptorIndex := 8, attributes := #[] }, { accessFlags := 9, nameIndex := 198, descriptorIndex := 335, attributes := #[] }, { accessFlags := 9, nameIndex := 201, descriptorIndex := 335, attributes := #[] }] 49 4 #[] #[{ accessFlags := 25, nameIndex := 354, descriptorIndex := 339, attributes := #[] }, { accessFlags := 25, nameIndex := 358, descriptorIndex := 339, attributes := #[] }, { accessFlags := 25, nameIndex := 361, descriptorIndex := 339, attributes := #[] }, { accessFlags := 26, nameIndex := 364, descriptorIndex := 339, attributes := #[] }, { accessFlags := 26, nameIndex := 365, descriptorIndex := 339, attributes := #[] }, { accessFlags := 26, nameIndex := 172, descriptorIndex := 173, attributes := #[] }, { accessFlags := 26, nameIndex := 176, descriptorIndex := 173, attributes := #[] }, { accessFlags := 8, nameIndex := 344, descriptorIndex := 339, attributes := #[] }, { accessFlags := 8, nameIndex := 338, descriptorIndex := 339, attributes := #[] }, { accessFlags := 4120, nameIndex := 245, descriptorIndex := 246, attributes := #[] }])
  fields := #[{ name := "E", type := .double, accessFlags := 25, slot := 0, constantValue := 0 }, { name := "PI", type := .double, accessFlags := 25, slot := 1, constantValue := 0 }, { name := "TAU", type := .double, accessFlags := 25, slot := 2, constantValue := 0 }, { name := "DEGREES_TO_RADIANS", type := .double, accessFlags := 26, slot := 3, constantValue := 0 }, { name := "RADIANS_TO_DEGREES", type := .double, accessFlags := 26, slot := 4, constantValue := 0 }, { name := "negativeZeroFloatBits", type := .long, accessFlags := 26, slot := 5, constantValue := 0 }, { name := "negativeZeroDoubleBits", type := .long, accessFlags := 26, slot := 6, constantValue := 0 }, { name := "twoToTheDoubleScaleUp", type := .double, accessFlags := 8, slot := 7, constantValue := 0 }, { name := "twoToTheDoubleScaleDown", type := .double, accessFlags := 8, slot := 8, constantValue := 0 }, { name := "$assertionsDisabled", type := .boolean, accessFlags := 4120, slot := 9, constantValue := 0 }]
  methods := #[k11m0, k11m1, k11m2]
  instanceTypes := #[]
  staticTypes := #[.double, .double, .double, .double, .double, .long, .long, .double, .double, .boolean]
  resolved := Array.replicate 460 none
  statics := none }

def pool12 : Array CpInfo := pool [(2, .class_ 4), (1, u "java/lang/Object"), (0, u "<init>"), (0, u "()V"), (7, .class_ 16), (1, u "java/util/Arrays"), (57, .class_ 76), (1, u "java/util/Arrays$NaturalOrder"), (36, .class_ 115), (1, u "java/util/Arrays$LegacyMergeSort"), (1, u "Z"), (32, .methodref 151 152), (0, .class_ 153), (0, .nameAndType 154 155), (0, u "java/lang/System"), (0, u "arraycopy"), (0, u "(Ljava/lang/Object;ILjava/lang/Object;II)V"), (146, u "copyOf"), (1, .methodref 305 306), (0, .class_ 307), (0, .nameAndType 308 309), (0, u "java/lang/Math"), (0, u "min"), (0, u "(II)I"), (65, .class_ 376), (0, u "java/util/Arrays$ArrayList"), (68, u "$assertionsDisabled"), (269, u "MIN_ARRAY_SORT_GRAN"), (0, u "I"), (2, u "INSERTIONSORT_THRESHOLD"), (153, u "([CI)[C"), (101, .class_ 976), (0, u "java/util/Arrays$ArrayItr")] 52

def k12m0 : Method := { name := "<init>", desc := "()V", sig := { parameters := [], returnType := none }, accessFlags := 2, code := none }
def k12c1 : Code := { maxStack := 6, maxLocals := 3, code := jdk_65_method_125_code, exceptionTable := #[], attributes := #[] }
def k12m1 : Method := { name := "copyOf", desc := "([CI)[C", sig := { parameters := [(.array .char), .int], returnType := some (.array .char) }, accessFlags := 9, code := some k12c1 }
/-- java/util/Arrays -/
def k12 : Class := { plain "java/util/Arrays" (some 0) with
  accessFlags := 49
  interfaces := #[]
  cf := some (fileOf pool12 14 #[.nestMembers #[975, 375, 113, 74]] #[{ accessFlags := 2, nameIndex := 5, descriptorIndex := 6, attributes := #[] }, { accessFlags := 9, nameIndex := 302, descriptorIndex := 873, attributes := #[] }] 49 2 #[] #[{ accessFlags := 26, nameIndex := 715, descriptorIndex := 716, attributes := #[] }, { accessFlags := 26, nameIndex := 719, descriptorIndex := 716, attributes := #[] }, { accessFlags := 4120, nameIndex := 445, descriptorIndex := 117, attributes := #[] }])
  fields := #[{ name := "MIN_ARRAY_SORT_GRAN", type := .int, accessFlags := 26, slot := 0, constantValue := 0 }, { name := "INSERTIONSORT_THRESHOLD", type := .int, accessFlags := 26, slot := 1, constantValue := 0 }, { name := "$assertionsDisabled", type := .boolean, accessFlags := 4120, slot := 2, constantValue := 0 }]
  methods := #[k12m0, k12m1]
  instanceTypes := #[]
  staticTypes := #[.int, .int, .boolean]
  resolved := Array.replicate 1029 none
  statics := none }

def pool13 : Array CpInfo := pool [(2, .class_ 4), (1, u "java/lang/Object"), (0, u "<init>"), (0, u "()V"), (1, .class_ 10), (1, u "java/lang/System"), (0, u "allowSecurityManager"), (0, u "I"), (16, u "cons"), (0, u "Ljava/io/Console;"), (77, .class_ 110), (1, u "java/lang/System$CallersHolder"), (43, u "initialErrStream"), (0, u "Ljava/io/PrintStream;"), (19, u "security"), (0, u "Ljava/lang/SecurityManager;"), (31, .class_ 209), (0, u "java/lang/System$1"), (7, u "props"), (0, u "Ljava/util/Properties;"), (2, u "lineSeparator"), (0, u "Ljava/lang/String;"), (96, .class_ 321), (1, u "java/lang/System$LoggerFinder"), (5, .class_ 328), (0, u "java/lang/System$Logger"), (67, u "err"), (2, u "out"), (91, u "notSupportedJnuEncoding"), (15, u "in"), (17, u "initialIn"), (0, u "Ljava/io/InputStream;"), (35, u "bootLayer"), (0, u "Ljava/lang/ModuleLayer;"), (99, .class_ 664), (0, u "java/lang/System$2"), (9, u "NEVER"), (2, u "MAYBE"), (49, u "arraycopy"), (0, u "(Ljava/lang/Object;ILjava/lang/Object;II)V"), (72, .class_ 802), (0, u "java/lang/System$Logger$Level")] 31

def k13m0 : Method := { name := "<init>", desc := "()V", sig := { parameters := [], returnType := none }, accessFlags := 2, code := none }
def k13m1 : Method := { name := "arraycopy", desc := "(Ljava/lang/Object;ILjava/lang/Object;II)V", sig := { parameters := [(.object "java/lang/Object"), .int, (.object "java/lang/Object"), .int, .int], returnType := none }, accessFlags := 265, code := none }
/-- java/lang/System -/
def k13 : Class := { plain "java/lang/System" (some 0) with
  accessFlags := 49
  interfaces := #[]
  cf := some (fileOf pool13 8 #[.nestMembers #[319, 327, 801, 108, 663, 208]] #[{ accessFlags := 2, nameIndex := 5, descriptorIndex := 6, attributes := #[] }, { accessFlags := 265, nameIndex := 727, descriptorIndex := 728, attributes := #[] }] 49 2 #[] #[{ accessFlags := 25, nameIndex := 507, descriptorIndex := 526, attributes := #[] }, { accessFlags := 25, nameIndex := 399, descriptorIndex := 155, attributes := #[] }, { accessFlags := 25, nameIndex := 396, descriptorIndex := 155, attributes := #[] }, { accessFlags := 10, nameIndex := 525, descriptorIndex := 526, attributes := #[] }, { accessFlags := 26, nameIndex := 674, descriptorIndex := 12, attributes := #[] }, { accessFlags := 26, nameIndex := 677, descriptorIndex := 12, attributes := #[] }, { accessFlags := 10, nameIndex := 11, descriptorIndex := 12, attributes := #[] }, { accessFlags := 74, nameIndex := 175, descriptorIndex := 176, attributes := #[] }, { accessFlags := 10, nameIndex := 491, descriptorIndex := 222, attributes := #[] }, { accessFlags := 74, nameIndex := 29, descriptorIndex := 30, attributes := #[] }, { accessFlags := 74, nameIndex := 154, descriptorIndex := 155, attributes := #[] }, { accessFlags := 10, nameIndex := 217, descriptorIndex := 218, attributes := #[] }, { accessFlags := 10, nameIndex := 221, descriptorIndex := 222, attributes := #[] }, { accessFlags := 8, nameIndex := 562, descriptorIndex := 563, attributes := #[] }])
  fields := #[{ name := "in", type := (.object "java/io/InputStream"), accessFlags := 25, slot := 0, constantValue := 0 }, { name := "out", type := (.object "java/io/PrintStream"), accessFlags := 25, slot := 1, constantValue := 0 }, { name := "err", type := (.object "java/io/PrintStream"), accessFlags := 25, slot := 2, constantValue := 0 }, { name := "initialIn", type := (.object "java/io/InputStream"), accessFlags := 10, slot := 3, constantValue := 0 }, { name := "NEVER", type := .int, accessFlags := 26, slot := 4, constantValue := 0 }, { name := "MAYBE", type := .int, accessFlags := 26, slot := 5, constantValue := 0 }, { name := "allowSecurityManager", type := .int, accessFlags := 10, slot := 6, constantValue := 0 }, { name := "security", type := (.object "java/lang/SecurityManager"), accessFlags := 74, slot := 7, constantValue := 0 }, { name := "notSupportedJnuEncoding", type := (.object "java/lang/String"), accessFlags := 10, slot := 8, constantValue := 0 }, { name := "cons", type := (.object "java/io/Console"), accessFlags := 74, slot := 9, constantValue := 0 }, { name := "initialErrStream", type := (.object "java/io/PrintStream"), accessFlags := 74, slot := 10, constantValue := 0 }, { name := "props", type := (.object "java/util/Properties"), accessFlags := 10, slot := 11, constantValue := 0 }, { name := "lineSeparator", type := (.object "java/lang/String"), accessFlags := 10, slot := 12, constantValue := 0 }, { name := "bootLayer", type := (.object "java/lang/ModuleLayer"), accessFlags := 8, slot := 13, constantValue := 0 }]
  methods := #[k13m0, k13m1]
  instanceTypes := #[]
  staticTypes := #[(.object "java/io/InputStream"), (.object "java/io/PrintStream"), (.object "java/io/PrintStream"), (.object "java/io/InputStream"), .int, .int, .int, (.object "java/lang/SecurityManager"), (.object "java/lang/String"), (.object "java/io/Console"), (.object "java/io/PrintStream"), (.object "java/util/Properties"), (.object "java/lang/String"), (.object "java/lang/ModuleLayer")]
  resolved := Array.replicate 834 none
  statics := none }

def pool14 : Array CpInfo := pool [(4, .class_ 6), (1, u "java/lang/Object"), (0, u "<init>"), (0, u "()V"), (5, .class_ 16), (1, u "java/lang/StringLatin1"), (73, u "canEncode"), (14, u "(C)Z"), (15, u "$assertionsDisabled"), (0, u "Z"), (98, .class_ 223), (1, u "java/lang/StringLatin1$LinesSpliterator"), (156, u "toBytes"), (1, u "(C)[B"), (7, .class_ 391), (0, u "java/lang/StringLatin1$CharsSpliterator")] 3

def k14m0 : Method := { name := "<init>", desc := "()V", sig := { parameters := [], returnType := none }, accessFlags := 0, code := none }
def k14c1 : Code := { maxStack := 2, maxLocals := 1, code := jdk_43_method_3_code, exceptionTable := #[], attributes := #[] }
def k14m1 : Method := { name := "canEncode", desc := "(C)Z", sig := { parameters := [.char], returnType := some .boolean }, accessFlags := 9, code := some k14c1 }
def k14c2 : Code := { maxStack := 4, maxLocals := 1, code := jdk_43_method_46_code, exceptionTable := #[], attributes := #[] }
def k14m2 : Method := { name := "toBytes", desc := "(C)[B", sig := { parameters := [.char], returnType := some (.array .byte) }, accessFlags := 9, code := some k14c2 }
/-- java/lang/StringLatin1 -/
def k14 : Class := { plain "java/lang/StringLatin1" (some 0) with
  accessFlags := 48
  interfaces := #[]
  cf := some (fileOf pool14 14 #[.nestMembers #[390, 221]] #[{ accessFlags := 0, nameIndex := 7, descriptorIndex := 8, attributes := #[] }, { accessFlags := 9, nameIndex := 90, descriptorIndex := 105, attributes := #[] }, { accessFlags := 9, nameIndex := 380, descriptorIndex := 382, attributes := #[] }] 48 4 #[] #[{ accessFlags := 4120, nameIndex := 121, descriptorIndex := 122, attributes := #[] }])
  fields := #[{ name := "$assertionsDisabled", type := .boolean, accessFlags := 4120, slot := 0, constantValue := 0 }]
  methods := #[k14m0, k14m1, k14m2]
  instanceTypes := #[]
  staticTypes := #[.boolean]
  resolved := Array.replicate 395 none
  statics := none }

def pool15 : Array CpInfo := pool [(2, .class_ 4), (1, u "java/lang/Object"), (0, u "<init>"), (0, u "()V"), (17, .class_ 26), (1, u "jdk/internal/util/Preconditions"), (28, .class_ 56), (0, u "jdk/internal/util/Preconditions$4"), (57, .class_ 115), (0, u "jdk/internal/util/Preconditions$1"), (7, u "SIOOBE_FORMATTER"), (0, u "Ljava/util/function/BiFunction;"), (0, .class_ 126), (0, u "jdk/internal/util/Preconditions$2"), (3, u "AIOOBE_FORMATTER"), (0, .class_ 132), (0, u "jdk/internal/util/Preconditions$3"), (3, u "IOOBE_FORMATTER")] 57

def k15m0 : Method := { name := "<init>", desc := "()V", sig := { parameters := [], returnType := none }, accessFlags := 1, code := none }
/-- jdk/internal/util/Preconditions -/
def k15 : Class := { plain "jdk/internal/util/Preconditions" (some 0) with
  accessFlags := 33
  interfaces := #[]
  cf := some (fileOf pool15 24 #[.nestMembers #[55, 131, 125, 114]] #[{ accessFlags := 1, nameIndex := 5, descriptorIndex := 6, attributes := #[] }] 33 2 #[] #[{ accessFlags := 25, nameIndex := 123, descriptorIndex := 124, attributes := #[] }, { accessFlags := 25, nameIndex := 130, descriptorIndex := 124, attributes := #[] }, { accessFlags := 25, nameIndex := 136, descriptorIndex := 124, attributes := #[] }])
  fields := #[{ name := "SIOOBE_FORMATTER", type := (.object "java/util/function/BiFunction"), accessFlags := 25, slot := 0, constantValue := 0 }, { name := "AIOOBE_FORMATTER", type := (.object "java/util/function/BiFunction"), accessFlags := 25, slot := 1, constantValue := 0 }, { name := "IOOBE_FORMATTER", type := (.object "java/util/function/BiFunction"), accessFlags := 25, slot := 2, constantValue := 0 }]
  methods := #[k15m0]
  instanceTypes := #[]
  staticTypes := #[(.object "java/util/function/BiFunction"), (.object "java/util/function/BiFunction"), (.object "java/util/function/BiFunction")]
  resolved := Array.replicate 194 none
  statics := some 2 }

def pool16 : Array CpInfo := pool [(9, u "<init>"), (6, .class_ 18), (1, u "java/lang/Object"), (0, u "()V"), (1, .class_ 23), (1, u "jdk/internal/util/ArraysSupport"), (0, u "LOG2_ARRAY_LONG_INDEX_SCALE"), (0, u "I"), (2, u "U"), (0, u "Ljdk/internal/misc/Unsafe;"), (8, u "BIG_ENDIAN"), (0, u "Z"), (8, u "LOG2_BYTE_BIT_SIZE"), (4, u "LOG2_ARRAY_INT_INDEX_SCALE"), (54, u "JLA"), (0, u "Ljdk/internal/access/JavaLangAccess;"), (11, u "LOG2_ARRAY_BOOLEAN_INDEX_SCALE"), (9, u "LOG2_ARRAY_BYTE_INDEX_SCALE"), (5, u "LOG2_ARRAY_CHAR_INDEX_SCALE"), (5, u "LOG2_ARRAY_SHORT_INDEX_SCALE"), (18, u "LOG2_ARRAY_FLOAT_INDEX_SCALE"), (24, u "LOG2_ARRAY_DOUBLE_INDEX_SCALE"), (89, u "T_BOOLEAN"), (2, u "T_CHAR"), (1, u "T_FLOAT"), (1, u "T_DOUBLE"), (1, u "T_BYTE"), (1, u "T_SHORT"), (1, u "T_INT"), (1, u "T_LONG"), (1, u "SOFT_MAX_ARRAY_LENGTH")] 83

def k16m0 : Method := { name := "<init>", desc := "()V", sig := { parameters := [], returnType := none }, accessFlags := 2, code := none }
/-- jdk/internal/util/ArraysSupport -/
def k16 : Class := { plain "jdk/internal/util/ArraysSupport" (some 0) with
  accessFlags := 33
  interfaces := #[]
  cf := some (fileOf pool16 21 #[] #[{ accessFlags := 2, nameIndex := 9, descriptorIndex := 19, attributes := #[] }] 33 16 #[] #[{ accessFlags := 24, nameIndex := 28, descriptorIndex := 29, attributes := #[] }, { accessFlags := 26, nameIndex := 38, descriptorIndex := 39, attributes := #[] }, { accessFlags := 25, nameIndex := 121, descriptorIndex := 25, attributes := #[] }, { accessFlags := 25, nameIndex := 131, descriptorIndex := 25, attributes := #[] }, { accessFlags := 25, nameIndex := 137, descriptorIndex := 25, attributes := #[] }, { accessFlags := 25, nameIndex := 143, descriptorIndex := 25, attributes := #[] }, { accessFlags := 25, nameIndex := 53, descriptorIndex := 25, attributes := #[] }, { accessFlags := 25, nameIndex := 24, descriptorIndex := 25, attributes := #[] }, { accessFlags := 25, nameIndex := 162, descriptorIndex := 25, attributes := #[] }, { accessFlags := 25, nameIndex := 187, descriptorIndex := 25, attributes := #[] }, { accessFlags := 26, nameIndex := 48, descriptorIndex := 25, attributes := #[] }, { accessFlags := 25, nameIndex := 277, descriptorIndex := 25, attributes := #[] }, { accessFlags := 25, nameIndex := 280, descriptorIndex := 25, attributes := #[] }, { accessFlags := 25, nameIndex := 282, descriptorIndex := 25, attributes := #[] }, { accessFlags := 25, nameIndex := 284, descriptorIndex := 25, attributes := #[] }, { accessFlags := 25, nameIndex := 286, descriptorIndex := 25, attributes := #[] }, { accessFlags := 25, nameIndex := 288, descriptorIndex := 25, attributes := #[] }, { accessFlags := 25, nameIndex := 290, descriptorIndex := 25, attributes := #[] }, { accessFlags := 25, nameIndex := 292, descriptorIndex := 25, attributes := #[] }, { accessFlags := 26, nameIndex := 108, descriptorIndex := 109, attributes := #[] }, { accessFlags := 25, nameIndex := 294, descriptorIndex := 25, attributes := #[] }])
  fields := #[{ name := "U", type := (.object "jdk/internal/misc/Unsafe"), accessFlags := 24, slot := 0, constantValue := 0 }, { name := "BIG_ENDIAN", type := .boolean, accessFlags := 26, slot := 1, constantValue := 0 }, { name := "LOG2_ARRAY_BOOLEAN_INDEX_SCALE", type := .int, accessFlags := 25, slot := 2, constantValue := 0 }, { name := "LOG2_ARRAY_BYTE_INDEX_SCALE", type := .int, accessFlags := 25, slot := 3, constantValue := 0 }, { name := "LOG2_ARRAY_CHAR_INDEX_SCALE", type := .int, accessFlags := 25, slot := 4, constantValue := 0 }, { name := "LOG2_ARRAY_SHORT_INDEX_SCALE", type := .int, accessFlags := 25, slot := 5, constantValue := 0 }, { name := "LOG2_ARRAY_INT_INDEX_SCALE", type := .int, accessFlags := 25, slot := 6, constantValue := 0 }, { name := "LOG2_ARRAY_LONG_INDEX_SCALE", type := .int, accessFlags := 25, slot := 7, constantValue := 0 }, { name := "LOG2_ARRAY_FLOAT_INDEX_SCALE", type := .int, accessFlags := 25, slot := 8, constantValue := 0 }, { name := "LOG2_ARRAY_DOUBLE_INDEX_SCALE", type := .int, accessFlags := 25, slot := 9, constantValue := 0 }, { name := "LOG2_BYTE_BIT_SIZE", type := .int, accessFlags := 26, slot := 10, constantValue := 0 }, { name := "T_BOOLEAN", type := .int, accessFlags := 25, slot := 11, constantValue := 0 }, { name := "T_CHAR", type := .int, accessFlags := 25, slot := 12, constantValue := 0 }, { name := "T_FLOAT", type := .int, accessFlags := 25, slot := 13, constantValue := 0 }, { name := "T_DOUBLE", type := .int, accessFlags := 25, slot := 14, constantValue := 0 }, { name := "T_BYTE", type := .int, accessFlags := 25, slot := 15, constantValue := 0 }, { name := "T_SHORT", type := .int, accessFlags := 25, slot := 16, constantValue := 0 }, { name := "T_INT", type := .int, accessFlags := 25, slot := 17, constantValue := 0 }, { name := "T_LONG", type := .int, accessFlags := 25, slot := 18, constantValue := 0 }, { name := "JLA", type := (.object "jdk/internal/access/JavaLangAccess"), accessFlags := 26, slot := 19, constantValue := 0 }, { name := "SOFT_MAX_ARRAY_LENGTH", type := .int, accessFlags := 25, slot := 20, constantValue := 0 }]
  methods := #[k16m0]
  instanceTypes := #[]
  staticTypes := #[(.object "jdk/internal/misc/Unsafe"), .boolean, .int, .int, .int, .int, .int, .int, .int, .int, .int, .int, .int, .int, .int, .int, .int, .int, .int, (.object "jdk/internal/access/JavaLangAccess"), .int]
  resolved := Array.replicate 378 none
  statics := none }

def pool17 : Array CpInfo := pool [(1, u "java/lang/Cloneable"), (0, .class_ 1), (0, u "java/lang/Object"), (0, .class_ 3)] 3

/-- java/lang/Cloneable -/
def k17 : Class := { plain "java/lang/Cloneable" (some 0) with
  accessFlags := 1537
  interfaces := #[]
  cf := some (fileOf pool17 2 #[] #[] 1537 4 #[] #[])
  fields := #[]
  methods := #[]
  instanceTypes := #[]
  staticTypes := #[]
  resolved := Array.replicate 8 none
  statics := none }

/-- the primitive byte -/
def k18 : Class := { plain "byte" none with kind := .primitive 'B', accessFlags := 0x411 }
/-- [B -/
def k19 : Class := { plain "[B" (some 0) with kind := .array 18 .byte, interfaces := #[17, 4], accessFlags := 1041 }

/-- the primitive char -/
def k20 : Class := { plain "char" none with kind := .primitive 'C', accessFlags := 0x411 }
/-- [C -/
def k21 : Class := { plain "[C" (some 0) with kind := .array 20 .char, interfaces := #[17, 4], accessFlags := 1041 }

/-- the primitive int -/
def k22 : Class := { plain "int" none with kind := .primitive 'I', accessFlags := 0x411 }
/-- [I -/
def k23 : Class := { plain "[I" (some 0) with kind := .array 22 .int, interfaces := #[17, 4], accessFlags := 1041 }

/-- [Lcom/example/rideau/rideau/internal/HeldText$Piece; -/
def k24 : Class := { plain "[Lcom/example/rideau/rideau/internal/HeldText$Piece;" (some 0) with kind := .array 6 (.object "com/example/rideau/rideau/internal/HeldText$Piece"), interfaces := #[17, 4], accessFlags := 1041 }

/-- [Ljava/lang/String; -/
def k25 : Class := { plain "[Ljava/lang/String;" (some 0) with kind := .array 10 (.object "java/lang/String"), interfaces := #[17, 4], accessFlags := 1041 }

def heap : Heap := #[{ cls := 6, slots := #[.ref 3, .ref 4, .ref 5, .ref 6, .ref 7, .ref 8, .ref 9, .null], vm := .statics 6 },
  { cls := 10, slots := #[.long 0, .int 1, .null, .int 0, .null, .int 0, .int 0], vm := .statics 10 },
  { cls := 15, slots := #[.null, .null, .null], vm := .statics 15 },
  { cls := 6, slots := #[.null, .int 0, .int 0], vm := .none },
  { cls := 6, slots := #[.null, .int 1, .int 0], vm := .none },
  { cls := 6, slots := #[.null, .int 2, .int 0], vm := .none },
  { cls := 6, slots := #[.null, .int 3, .int 0], vm := .none },
  { cls := 6, slots := #[.null, .int 4, .int 0], vm := .none },
  { cls := 6, slots := #[.null, .int 5, .int 0], vm := .none },
  { cls := 6, slots := #[.null, .int 6, .int 0], vm := .none }]
def classes : Array Class := #[k0, k1, k2, k3, k4, k5, k6, k7, k8, k9, k10, k11, k12, k13, k14, k15, k16, k17, k18, k19, k20, k21, k22, k23, k24, k25]
def interned : List (Array UInt16 × Addr) := []
def slotsUsed : Nat := 39
def theMethod : MethodId := ⟨1, 1⟩
def args0 : Array Value := #[.int 7, .int 3, .int 5, .int 16909060]
def aboutOver (below : List Frame) : State where
  vm := { classes := classes, interned := interned.toArray }
  heap := heap
  slotsUsed := slotsUsed
  threads := #[{ frames := .invoking theMethod args0 :: below }]
def below0 : List Frame := [.native { method := ⟨0, 0⟩, args := #[] }]
def about1 : State := aboutOver below0
def p0 : Program := .bare "" "" ""
def e0 : Env := launch0.env 0 0 0
theorem w_frames : about1.frames = Frame.invoking theMethod args0 :: below0 := rfl
set_option maxRecDepth 65536 in
theorem w_args : argsFit about1.vm theMethod args0 = true := by decide +kernel
set_option maxRecDepth 65536 in
theorem w_heap : heapFits about1 = true := by decide +kernel
set_option maxRecDepth 65536 in
theorem w_runnable : about1.curStatus? = some .runnable := by decide +kernel
set_option maxRecDepth 65536 in
theorem w_alone : about1.alone = true := by decide +kernel
set_option maxRecDepth 65536 in
theorem w_named : about1.methodNamed? x = some theMethod := by decide +kernel
set_option maxRecDepth 65536 in
theorem w_hears : about1.hears theMethod below0 = true := by decide +kernel
set_option maxRecDepth 65536 in
theorem w_ripe : about1.ripe theMethod args0 below0 = true := by decide +kernel
theorem w_running : about1.status = .running := rfl
set_option maxRecDepth 65536 in
theorem w_room : about1.hasRoom e0.platform room_1 = true :=
  launch0.hasRoom_least _ room_1 (by decide +kernel) (by decide +kernel) (by decide +kernel) (by decide +kernel) (by decide +kernel) (by decide +kernel)
theorem allAtoms_all (ts : List Jvm.Cond) (a : Array Jvm.Value) (st : Jvm.State) : (allAtoms ts).before a st = ts.all (fun c => c.before a st) := by
  induction ts with
  | nil => rfl
  | cons c t ih =>
    show (Jvm.Cond.and c (allAtoms t)).before a st = _
    rw [Jvm.Cond.before_and, ih, List.all_cons]
def words1 : List Jvm.Cond := Jvm.Cond.code x code maxLocals ret :: tables_1
/-- a 'code' word, met by the world's own term for the bytes: nothing is compared byte by byte -/
theorem code_word {y : MethodName} {bytes : ByteArray} {mx : Nat} {rt : Option FieldType} {a : Array Value} {s : State} {m : MethodId} {meth : Method} {c : Code} (h1 : s.methodNamed? y = some m) (h2 : s.vm.method? m = some meth) (h3 : meth.code = some c) (h4 : c.code = bytes)
    (h5 : (c.maxLocals == mx && c.exceptionTable.isEmpty && decide (c.maxStack ≤ mostOperands) && decide (meth.sig.returnType = rt) && !meth.locks && decide (parseMethodDescriptor y.desc = some meth.sig)) = true) : (Jvm.Cond.code y bytes mx rt).before a s = true := by
  simp only [Bool.and_eq_true, beq_iff_eq, Bool.not_eq_true', decide_eq_true_eq] at h5
  obtain ⟨⟨⟨⟨⟨g1, g2⟩, g3⟩, g4⟩, g5⟩, g6⟩ := h5
  simp [Cond.before, Cond.holds, Cond.value, h1, h2, h3, h4, g1, g2, g3, g4, g5, g6]
def isCode : Jvm.Cond → Bool
  | .code _ _ _ _ => true
  | _ => false
theorem all_split {L : List Jvm.Cond} {P : Jvm.Cond → Bool} (h1 : L.all (fun c => isCode c || P c) = true) (h2 : ∀ c ∈ L.filter isCode, P c = true) : L.all P = true := by
  refine List.all_eq_true.mpr fun c hc => ?_
  have h := List.all_eq_true.mp h1 c hc
  rcases Bool.eq_false_or_eq_true (isCode c) with hi | hi
  · exact h2 c (List.mem_filter.mpr ⟨hc, hi⟩)
  · simpa [hi] using h
set_option maxRecDepth 65536 in
theorem w_c0 : (Jvm.Cond.code x code maxLocals ret).before args0 about1 = true := code_word (m := ⟨1, 1⟩) (meth := k1m1) (c := k1c1) (by decide +kernel) rfl rfl rfl (by decide +kernel)
set_option maxRecDepth 65536 in
theorem w_c1 : (Jvm.Cond.code ({ cls := "com/example/rideau/rideau/internal/HeldText", name := "<init>", desc := "()V" } : Jvm.MethodName) prog_17_method_1_code (1 : Nat) (Option.none : Option Jvm.ClassFile.FieldType)).before args0 about1 = true := code_word (m := ⟨7, 0⟩) (meth := k7m0) (c := k7c0) (by decide +kernel) rfl rfl rfl (by decide +kernel)
set_option maxRecDepth 65536 in
theorem w_c2 : (Jvm.Cond.code ({ cls := "java/lang/Object", name := "<init>", desc := "()V" } : Jvm.MethodName) object_method_1_code (1 : Nat) (Option.none : Option Jvm.ClassFile.FieldType)).before args0 about1 = true := code_word (m := ⟨0, 0⟩) (meth := k0m0) (c := k0c0) (by decide +kernel) rfl rfl rfl (by decide +kernel)
set_option maxRecDepth 65536 in
theorem w_c3 : (Jvm.Cond.code ({ cls := "com/example/rideau/rideau/internal/HeldText", name := "isEmpty", desc := "()Z" } : Jvm.MethodName) prog_17_method_2_code (1 : Nat) (Option.some Jvm.ClassFile.FieldType.boolean)).before args0 about1 = true := code_word (m := ⟨7, 1⟩) (meth := k7m1) (c := k7c1) (by decide +kernel) rfl rfl rfl (by decide +kernel)
set_option maxRecDepth 65536 in
theorem w_c4 : (Jvm.Cond.code ({ cls := "com/example/rideau/rideau/internal/HeldText", name := "clear", desc := "()V" } : Jvm.MethodName) prog_17_method_7_code (1 : Nat) (Option.none : Option Jvm.ClassFile.FieldType)).before args0 about1 = true := code_word (m := ⟨7, 4⟩) (meth := k7m4) (c := k7c4) (by decide +kernel) rfl rfl rfl (by decide +kernel)
set_option maxRecDepth 65536 in
theorem w_c5 : (Jvm.Cond.code ({ cls := "com/example/rideau/rideau/internal/HeldText", name := "add", desc := "(Lcom/example/rideau/rideau/internal/HeldText$Piece;Ljava/lang/String;)V" } : Jvm.MethodName) prog_17_method_4_code (3 : Nat) (Option.none : Option Jvm.ClassFile.FieldType)).before args0 about1 = true := code_word (m := ⟨7, 3⟩) (meth := k7m3) (c := k7c3) (by decide +kernel) rfl rfl rfl (by decide +kernel)
set_option maxRecDepth 65536 in
theorem w_c6 : (Jvm.Cond.code ({ cls := "com/example/rideau/rideau/internal/HeldText", name := "text", desc := "(Lcom/example/rideau/rideau/internal/HeldText$Piece;[CII)V" } : Jvm.MethodName) prog_17_method_3_code (5 : Nat) (Option.none : Option Jvm.ClassFile.FieldType)).before args0 about1 = true := code_word (m := ⟨7, 2⟩) (meth := k7m2) (c := k7c2) (by decide +kernel) rfl rfl rfl (by decide +kernel)
set_option maxRecDepth 65536 in
theorem w_c7 : (Jvm.Cond.code ({ cls := "java/lang/Math", name := "max", desc := "(II)I" } : Jvm.MethodName) jdk_29_method_65_code (2 : Nat) (Option.some Jvm.ClassFile.FieldType.int)).before args0 about1 = true := code_word (m := ⟨11, 1⟩) (meth := k11m1) (c := k11c1) (by decide +kernel) rfl rfl rfl (by decide +kernel)
set_option maxRecDepth 65536 in
theorem w_c8 : (Jvm.Cond.code ({ cls := "java/util/Arrays", name := "copyOf", desc := "([CI)[C" } : Jvm.MethodName) jdk_65_method_125_code (3 : Nat) (Option.some (Jvm.ClassFile.FieldType.array Jvm.ClassFile.FieldType.char))).before args0 about1 = true := code_word (m := ⟨12, 1⟩) (meth := k12m1) (c := k12c1) (by decide +kernel) rfl rfl rfl (by decide +kernel)
set_option maxRecDepth 65536 in
theorem w_c9 : (Jvm.Cond.code ({ cls := "java/lang/Math", name := "min", desc := "(II)I" } : Jvm.MethodName) jdk_29_method_69_code (2 : Nat) (Option.some Jvm.ClassFile.FieldType.int)).before args0 about1 = true := code_word (m := ⟨11, 2⟩) (meth := k11m2) (c := k11c2) (by decide +kernel) rfl rfl rfl (by decide +kernel)
set_option maxRecDepth 65536 in
theorem w_c10 : (Jvm.Cond.code ({ cls := "java/lang/String", name := "valueOf", desc := "(C)Ljava/lang/String;" } : Jvm.MethodName) jdk_42_method_139_code (1 : Nat) (Option.some (Jvm.ClassFile.FieldType.object "java/lang/String"))).before args0 about1 = true := code_word (m := ⟨10, 1⟩) (meth := k10m1) (c := k10c1) (by decide +kernel) rfl rfl rfl (by decide +kernel)
set_option maxRecDepth 65536 in
theorem w_c11 : (Jvm.Cond.code ({ cls := "java/lang/StringLatin1", name := "canEncode", desc := "(C)Z" } : Jvm.MethodName) jdk_43_method_3_code (1 : Nat) (Option.some Jvm.ClassFile.FieldType.boolean)).before args0 about1 = true := code_word (m := ⟨14, 1⟩) (meth := k14m1) (c := k14c1) (by decide +kernel) rfl rfl rfl (by decide +kernel)
set_option maxRecDepth 65536 in
theorem w_c12 : (Jvm.Cond.code ({ cls := "java/lang/StringLatin1", name := "toBytes", desc := "(C)[B" } : Jvm.MethodName) jdk_43_method_46_code (1 : Nat) (Option.some (Jvm.ClassFile.FieldType.array Jvm.ClassFile.FieldType.byte))).before args0 about1 = true := code_word (m := ⟨14, 2⟩) (meth := k14m2) (c := k14c2) (by decide +kernel) rfl rfl rfl (by decide +kernel)
set_option maxRecDepth 65536 in
theorem w_c13 : (Jvm.Cond.code ({ cls := "java/lang/String", name := "<init>", desc := "([BB)V" } : Jvm.MethodName) jdk_42_method_151_code (3 : Nat) (Option.none : Option Jvm.ClassFile.FieldType)).before args0 about1 = true := code_word (m := ⟨10, 2⟩) (meth := k10m2) (c := k10c2) (by decide +kernel) rfl rfl rfl (by decide +kernel)
def codes1 : List Jvm.Cond := [Jvm.Cond.code x code maxLocals ret, Jvm.Cond.code ({ cls := "com/example/rideau/rideau/internal/HeldText", name := "<init>", desc := "()V" } : Jvm.MethodName) prog_17_method_1_code (1 : Nat) (Option.none : Option Jvm.ClassFile.FieldType), Jvm.Cond.code ({ cls := "java/lang/Object", name := "<init>", desc := "()V" } : Jvm.MethodName) object_method_1_code (1 : Nat) (Option.none : Option Jvm.ClassFile.FieldType), Jvm.Cond.code ({ cls := "com/example/rideau/rideau/internal/HeldText", name := "isEmpty", desc := "()Z" } : Jvm.MethodName) prog_17_method_2_code (1 : Nat) (Option.some Jvm.ClassFile.FieldType.boolean), Jvm.Cond.code ({ cls := "com/example/rideau/rideau/internal/HeldText", name := "clear", desc := "()V" } : Jvm.MethodName) prog_17_method_7_code (1 : Nat) (Option.none : Option Jvm.ClassFile.FieldType), Jvm.Cond.code ({ cls := "com/example/rideau/rideau/internal/HeldText", name := "add", desc := "(Lcom/example/rideau/rideau/internal/HeldText$Piece;Ljava/lang/String;)V" } : Jvm.MethodName) prog_17_method_4_code (3 : Nat) (Option.none : Option Jvm.ClassFile.FieldType), Jvm.Cond.code ({ cls := "com/example/rideau/rideau/internal/HeldText", name := "text", desc := "(Lcom/example/rideau/rideau/internal/HeldText$Piece;[CII)V" } : Jvm.MethodName) prog_17_method_3_code (5 : Nat) (Option.none : Option Jvm.ClassFile.FieldType), Jvm.Cond.code ({ cls := "java/lang/Math", name := "max", desc := "(II)I" } : Jvm.MethodName) jdk_29_method_65_code (2 : Nat) (Option.some Jvm.ClassFile.FieldType.int), Jvm.Cond.code ({ cls := "java/util/Arrays", name := "copyOf", desc := "([CI)[C" } : Jvm.MethodName) jdk_65_method_125_code (3 : Nat) (Option.some (Jvm.ClassFile.FieldType.array Jvm.ClassFile.FieldType.char)), Jvm.Cond.code ({ cls := "java/lang/Math", name := "min", desc := "(II)I" } : Jvm.MethodName) jdk_29_method_69_code (2 : Nat) (Option.some Jvm.ClassFile.FieldType.int), Jvm.Cond.code ({ cls := "java/lang/String", name := "valueOf", desc := "(C)Ljava/lang/String;" } : Jvm.MethodName) jdk_42_method_139_code (1 : Nat) (Option.some (Jvm.ClassFile.FieldType.object "java/lang/String")), Jvm.Cond.code ({ cls := "java/lang/StringLatin1", name := "canEncode", desc := "(C)Z" } : Jvm.MethodName) jdk_43_method_3_code (1 : Nat) (Option.some Jvm.ClassFile.FieldType.boolean), Jvm.Cond.code ({ cls := "java/lang/StringLatin1", name := "toBytes", desc := "(C)[B" } : Jvm.MethodName) jdk_43_method_46_code (1 : Nat) (Option.some (Jvm.ClassFile.FieldType.array Jvm.ClassFile.FieldType.byte)), Jvm.Cond.code ({ cls := "java/lang/String", name := "<init>", desc := "([BB)V" } : Jvm.MethodName) jdk_42_method_151_code (3 : Nat) (Option.none : Option Jvm.ClassFile.FieldType)]
set_option maxRecDepth 65536 in
theorem codes_eq : words1.filter isCode = codes1 := rfl
theorem w_codes : ∀ c ∈ words1.filter isCode, c.before args0 about1 = true := by
  rw [codes_eq]
  intro c hc
  simp only [codes1, List.mem_cons, List.not_mem_nil, or_false] at hc
  rcases hc with rfl | rfl | rfl | rfl | rfl | rfl | rfl | rfl | rfl | rfl | rfl | rfl | rfl | rfl
  · exact w_c0
  · exact w_c1
  · exact w_c2
  · exact w_c3
  · exact w_c4
  · exact w_c5
  · exact w_c6
  · exact w_c7
  · exact w_c8
  · exact w_c9
  · exact w_c10
  · exact w_c11
  · exact w_c12
  · exact w_c13
set_option maxRecDepth 65536 in
theorem w_t1 : (words1.take 24).all (fun c => isCode c || c.before args0 about1) = true := by decide +kernel
set_option maxRecDepth 65536 in
theorem w_t2 : ((words1.drop 24).take 24).all (fun c => isCode c || c.before args0 about1) = true := by decide +kernel
set_option maxRecDepth 65536 in
theorem w_t3 : (((words1.drop 24).drop 24).take 24).all (fun c => isCode c || c.before args0 about1) = true := by decide +kernel
set_option maxRecDepth 65536 in
theorem w_t4 : ((((words1.drop 24).drop 24).drop 24).take 24).all (fun c => isCode c || c.before args0 about1) = true := by decide +kernel
set_option maxRecDepth 65536 in
theorem w_t5 : ((((words1.drop 24).drop 24).drop 24).drop 24).all (fun c => isCode c || c.before args0 about1) = true := by decide +kernel
theorem w_tables : (allAtoms (Jvm.Cond.code x code maxLocals ret :: tables_1)).before args0 about1 = true := by
  rw [allAtoms_all]
  show words1.all (fun c => c.before args0 about1) = true
  refine all_split ?_ w_codes
  rw [← List.take_append_drop 24 words1, List.all_append, w_t1, ← List.take_append_drop 24 (words1.drop 24), List.all_append, w_t2, ← List.take_append_drop 24 ((words1.drop 24).drop 24), List.all_append, w_t3, ← List.take_append_drop 24 (((words1.drop 24).drop 24).drop 24), List.all_append, w_t4, w_t5]
  rfl
set_option maxRecDepth 65536 in
theorem w_rest : rest_1_c.before args0 about1 = true := by decide +kernel
set_option maxRecDepth 65536 in
theorem w_case : (Jvm.Cond.and given_1 narrow_1).before args0 about1 = true := by decide +kernel
theorem w_applies : (headSpec (Jvm.Cond.code x code maxLocals ret :: tables_1) room_1).applies x e0.platform about1 = true :=
  (Spec.applies_iff w_frames).mpr ⟨w_running, w_runnable, w_alone, w_named, w_hears, w_ripe, w_room, w_tables⟩
theorem atStart : AtStart classFile x code maxLocals ret World_1 tables_1 room_1 Calls_1 rest_1 Pre_1 launch0 p0 e0 about1 theMethod args0 below0 :=
  ⟨lists_1, trivial, launch0.admits_env _ _ _, launch0.least_env, fairChoices_fair.cas, fairChoices_fair.clock, w_frames, w_args, w_heap, w_applies, trivial, w_rest, w_case⟩
end start1
theorem witness_1 : WitnessClaimed_1 := ⟨start1.p0, start1.e0, start1.about1, start1.theMethod, start1.args0, start1.below0, start1.atStart⟩
end Jvm.Pilot.@@N@@
